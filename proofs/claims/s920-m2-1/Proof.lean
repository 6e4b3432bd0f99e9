import JvmDerived
import JvmDerived.Pilot.@@N@@Statement
import JvmDerived.Pilot.@@N@@Code
set_option linter.unusedVariables false
set_option linter.unusedSimpArgs false
namespace Jvm.RoadKit
open Sem ClassFile Op Lib Jvm.Stand Jvm.Free Jvm.LawKit
section Own
variable {p : Program} {l : Launch} {e : Env} {R : Room} {s s' : State} {m : MethodId} {args : Array Value} {below : List Frame} {meth : Method} {c : Code} {T : State} {locs : List Loc} {cells slots : Nat} {Z : State} {a0 : Array Value} {h : Heap} {K : Outcome → State → Prop} {Q : Option Value → Heap → List Loc → Prop}
/-- from the state A the run comes to an end that K allows -/
def OwnOk (p : Program) (e : Env) (below : List Frame) (K : Outcome → State → Prop) (A : State) : Prop :=
  ∃ s₂ o, Steps p.tables e below A s₂ ∧ s₂.status = .running ∧ Ended s₂ below o ∧ K o s₂
theorem own_up {A B : State} (h : ∀ t, Steps p.tables e below B t → Steps p.tables e below A t) (k : OwnOk p e below K B) : OwnOk p e below K A := by
  obtain ⟨s₂, o, h1, h2⟩ := k
  exact ⟨s₂, o, h _ h1, h2⟩
theorem own_to {A B : State} (h : Steps p.tables e below A B) (k : OwnOk p e below K B) : OwnOk p e below K A := own_up (fun _ q => h.trans q) k
theorem own_rem64 (x y : Int64) : x - (x / y) * y = x % y := by
  apply Int64.toInt_inj.mp
  have h1 := Int64.le_toInt (x % y)
  have h2 := Int64.toInt_lt (x % y)
  rw [Int64.toInt_sub, Int64.toInt_mul, Int64.toInt_div, Int.bmod_mul_bmod, Int.sub_bmod_bmod, Int.mul_comm (x.toInt.tdiv y.toInt), ← Int.tmod_def, ← Int64.toInt_mod]
  exact Int.bmod_eq_of_le_mul_two (by omega) (by omega)
theorem own_ldiv {g : JFrame} {target : State} (X : Stand p l e R s m args below meth c T locs cells slots) (hx : p.tables.exec = Jvm.exec) (hg : g.method = m) {x y : Int64} {rest : List Value} (hd : decode c.code g.pc = .ok (.ldiv, 1)) (hs : g.stack = .long y :: .long x :: rest) (hy : y ≠ 0)
    (hr : Steps p.tables e below (T.setTop { g with pc := g.pc + 1, stack := .long (x / y) :: rest }) target) : Steps p.tables e below (T.setTop g) target := by
  have h := X.here
  subst hg
  jvm_step h [h.top, hx, hd, hs, hy, ldiv.wp_sem]
  exact hr
theorem own_lrem {g : JFrame} {target : State} (X : Stand p l e R s m args below meth c T locs cells slots) (hx : p.tables.exec = Jvm.exec) (hg : g.method = m) {x y : Int64} {rest : List Value} (hd : decode c.code g.pc = .ok (.lrem, 1)) (hs : g.stack = .long y :: .long x :: rest) (hy : y ≠ 0)
    (hr : Steps p.tables e below (T.setTop { g with pc := g.pc + 1, stack := .long (x % y) :: rest }) target) : Steps p.tables e below (T.setTop g) target := by
  have h := X.here
  rw [← own_rem64] at hr
  subst hg
  jvm_step h [h.top, hx, hd, hs, hy, lrem.wp_sem]
  exact hr
theorem own_ar {h1 h2 : Heap} {b : Addr} {cl : Cell} (q : h1 = h2) (r : h2[b]? = some cl) : h1[b]? = some cl := by rw [q]; exact r
theorem own_n0 {n0 : Nat} (X : Old Z n0 h) : n0 ≤ h.size := X.1 ▸ X.2.1
theorem own_ref_eq {a b : Addr} (q : a = b) : Value.ref a = Value.ref b := congrArg Value.ref q
theorem own_ref_ne {a b : Addr} (q : ¬ a = b) : ¬ Value.ref a = Value.ref b := fun r => q (Value.ref.inj r)
theorem own_jtlt {x y : Int64} (h : x < y) : ifCond.holds .lt (lcmpW x y) = true ∧ ifCond.holds .ge (lcmpW x y) = false ∧ ifCond.holds .gt (lcmpW y x) = true ∧ ifCond.holds .le (lcmpW y x) = false := by
  have q1 : lcmpW x y < 0 := by rw [lcW]; exact (lc_lt x y).mpr h
  have q2 : (0 : Int32) < lcmpW y x := by rw [lcW]; exact (lc_gt y x).mpr h
  exact ⟨(if0 _ _).trans (tlt q1).1, (if0 _ _).trans (tlt q1).2.1, (if0 _ _).trans (tlt q2).2.2.1, (if0 _ _).trans (tlt q2).2.2.2⟩
theorem own_jflt {x y : Int64} (h : ¬ x < y) : ifCond.holds .lt (lcmpW x y) = false ∧ ifCond.holds .ge (lcmpW x y) = true ∧ ifCond.holds .gt (lcmpW y x) = false ∧ ifCond.holds .le (lcmpW y x) = true := by
  have q1 : ¬ lcmpW x y < 0 := by rw [lcW]; exact fun q => h ((lc_lt x y).mp q)
  have q2 : ¬ (0 : Int32) < lcmpW y x := by rw [lcW]; exact fun q => h ((lc_gt y x).mp q)
  exact ⟨(if0 _ _).trans (flt q1).1, (if0 _ _).trans (flt q1).2.1, (if0 _ _).trans (flt q2).2.2.1, (if0 _ _).trans (flt q2).2.2.2⟩
theorem own_jteq {x y : Int64} (h : x = y) : ifCond.holds .eq (lcmpW x y) = true ∧ ifCond.holds .ne (lcmpW x y) = false := by
  have q1 : lcmpW x y = 0 := by rw [lcW]; exact (lc_eq x y).mpr h
  exact ⟨(if0 _ _).trans (teq q1).1, (if0 _ _).trans (teq q1).2⟩
theorem own_jfeq {x y : Int64} (h : ¬ x = y) : ifCond.holds .eq (lcmpW x y) = false ∧ ifCond.holds .ne (lcmpW x y) = true := by
  have q1 : ¬ lcmpW x y = 0 := by rw [lcW]; exact fun q => h ((lc_eq x y).mp q)
  exact ⟨(if0 _ _).trans (feq q1).1, (if0 _ _).trans (feq q1).2⟩
theorem own_fldEq {t : Term} {a : Addr} {C n d : String} {z : Int32} (ev : t.eval args Z none [] Z = some (.ref a)) (q : (Cond.eq (.field t C n d) (.int z)).value args Z none Z [] = some true) : Fld Z Z.heap a C n d (.int z) := by
  obtain ⟨x, y, h1, h2, h3, h4⟩ := cmp_v (Or.inl q)
  have e2 : y = .int z := by simpa [Term.eval] using h2.symm
  subst e2
  obtain ⟨w, rfl⟩ := h4
  have hw : w = z := by
    have q' := q
    rw [Cond.eq_ints h1 h2] at q'
    exact of_decide_eq_true (Option.some.inj q')
  subst hw
  rw [fld_at ev] at h1
  exact Fld.start h1
/-- the end of a body that interns nothing -/
def own_K (s : State) (Q : Option Value → Heap → List Loc → Prop) (k n : Nat) (o : Outcome) (u : State) : Prop := ∃ v L, o = .returned v ∧ Q v u.heap L ∧ FrameEnd s o u L k n
/-- a body's contract -/
def own_Met (l : Launch) (Z : State) (y : MethodName) (bytes : ByteArray) (maxL : Nat) (ret : Option FieldType) (rm : Room) (as' : Array Value) (h0 : Heap) (Q : Option Value → Heap → List Loc → Prop) : Prop :=
  ∀ ws, MetFree l y (head1 (Cond.code y bytes maxL ret :: ws) rm) (fun a U => a = as' ∧ Z.Warmed39 U.vm ∧ U.heap = h0) (fun _ _ _ _ _ => True) (fun _ U o U' => own_K U Q rm.cells rm.slots o U')
theorem own_body {y : MethodName} {bytes : ByteArray} {maxL : Nat} {ret : Option FieldType} {rm : Room} {as' : Array Value} {L0 : Array Slot}
    (hpl : plainFor y = true) (ef : ∀ m, entryFrame m as' maxL = mkF m 0 L0 [])
    (body : ∀ (p : Program) (e : Env) (s : State) (m : MethodId) (below : List Frame) (meth : Method) (c : Code) (s₁ : State), p.tables.exec = Jvm.exec → c.code = bytes → c.maxLocals = maxL → Z.Warmed39 s.vm → s.vm.findClass y.cls = some m.cls → meth.name = y.name → meth.sig.returnType = ret → meth.locks = false →
      Stand p l e rm s m as' below meth c s₁ [] 0 0 → s₁.heap = h → OwnOk p e below (own_K s Q rm.cells rm.slots) (s₁.setTop (mkF m 0 L0 []))) :
    own_Met l Z y bytes maxL ret rm as' h Q := by
  intro ws
  refine MetFree.of_bodySF hpl hisR ?_
  intro p e s m args below meth c s₁ Bd hml0 hP hK
  obtain ⟨rfl, hZ, hh⟩ := hP
  have q := body p e s m below meth c s₁ Bd.exec Bd.bytes hml0 hZ (findClass_of_methodNamed Bd.named) (name_of_methodNamed Bd.named Bd.method).1 Bd.returns Bd.notSynchronized (Stand.of_body Bd) (by rw [← hh, Bd.state]; rfl)
  rw [← ef] at q
  exact q
theorem own_ret (X : Stand p l e R s m args below meth c T locs cells slots) {F : JFrame} {v : Option Value} (hv : meth.sig.returnType = none → v = none) (hlk : meth.locks = false)
    (st : ∀ fs, (∀ (f : JFrame) (acts : List Action), f.method = m → f.locked = none → f.entered = [] → (doReturn e (T.setTop f) acts v).1 = T.setFrames fs) → Steps p.tables e below (T.setTop F) (T.setFrames fs))
    (eT : T.heap = h) (hQ : Q v h locs) {k n : Nat} (hk : cells ≤ k) (hn : slots ≤ n) : OwnOk p e below (own_K s Q k n) (T.setTop F) := by
  obtain ⟨fs, hr, hrun, hended, hW, hsame⟩ := X.leave hv hlk
  refine ⟨_, _, st fs hr, hrun, hended, v, locs, rfl, ?_, ⟨_, rfl⟩, hW, hsame.mono hk hn⟩
  show Q v T.heap locs
  rw [eT]; exact hQ
theorem own_retN (X : Stand p l e R s m args below meth c T locs cells slots) (hx : p.tables.exec = Jvm.exec) {t : FieldType} (hret : meth.sig.returnType = some t) (ht : t = .boolean ∨ t = .byte ∨ t = .char ∨ t = .short) (hlk : meth.locks = false)
    {pc : Nat} {Ls : Array Slot} {z z' : Int32} {rest : List Value} (hd : decode c.code pc = .ok (.ireturn, 1)) (hz : nar t z = z') (eT : T.heap = h) {k n : Nat} (hk : cells ≤ k) (hn : slots ≤ n) (hQ : Q (some (.int z')) h locs) :
    OwnOk p e below (own_K s Q k n) (T.setTop (mkF m pc Ls (.int z :: rest))) := by
  subst hz
  exact own_ret X (fun q => by rw [hret] at q; cases q) hlk (fun fs hr => retN X hx hret ht hd hr) eT hQ hk hn
theorem own_retI (X : Stand p l e R s m args below meth c T locs cells slots) (hx : p.tables.exec = Jvm.exec) (hret : meth.sig.returnType = some .int) (hlk : meth.locks = false)
    {pc : Nat} {Ls : Array Slot} {z : Int32} {rest : List Value} (hd : decode c.code pc = .ok (.ireturn, 1)) (eT : T.heap = h) {k n : Nat} (hk : cells ≤ k) (hn : slots ≤ n) (hQ : Q (some (.int z)) h locs) :
    OwnOk p e below (own_K s Q k n) (T.setTop (mkF m pc Ls (.int z :: rest))) :=
  own_ret X (fun q => by rw [hret] at q; cases q) hlk (fun fs hr => retOut X hx hret rfl (Or.inl ⟨rfl, Or.inl rfl, z, rfl⟩) hd hr) eT hQ hk hn
theorem own_retJ (X : Stand p l e R s m args below meth c T locs cells slots) (hx : p.tables.exec = Jvm.exec) (hret : meth.sig.returnType = some .long) (hlk : meth.locks = false)
    {pc : Nat} {Ls : Array Slot} {z : Int64} {rest : List Value} (hd : decode c.code pc = .ok (.lreturn, 1)) (eT : T.heap = h) {k n : Nat} (hk : cells ≤ k) (hn : slots ≤ n) (hQ : Q (some (.long z)) h locs) :
    OwnOk p e below (own_K s Q k n) (T.setTop (mkF m pc Ls (.long z :: rest))) :=
  own_ret X (fun q => by rw [hret] at q; cases q) hlk (fun fs hr => retOut X hx hret rfl (Or.inr (Or.inl ⟨rfl, rfl, z, rfl⟩)) hd hr) eT hQ hk hn
theorem own_retR (X : Stand p l e R s m args below meth c T locs cells slots) (hx : p.tables.exec = Jvm.exec) {t : FieldType} (hret : meth.sig.returnType = some t) (ht : t.isReference = true) (hlk : meth.locks = false)
    {pc : Nat} {Ls : Array Slot} {w : Value} {rest : List Value} (hw : w.isRef = true) (hd : decode c.code pc = .ok (.areturn, 1)) (eT : T.heap = h) {k n : Nat} (hk : cells ≤ k) (hn : slots ≤ n) (hQ : Q (some w) h locs) :
    OwnOk p e below (own_K s Q k n) (T.setTop (mkF m pc Ls (w :: rest))) :=
  own_ret X (fun q => by rw [hret] at q; cases q) hlk (fun fs hr => retOut X hx hret (by rcases ref_cases hw with rfl | ⟨a, rfl⟩ <;> cases t <;> rfl) (Or.inr (Or.inr (Or.inr (Or.inr ⟨rfl, ht, hw⟩)))) hd hr) eT hQ hk hn
theorem own_retV (X : Stand p l e R s m args below meth c T locs cells slots) (hx : p.tables.exec = Jvm.exec) (hret : meth.sig.returnType = none) (hlk : meth.locks = false)
    {pc : Nat} {Ls : Array Slot} (hd : decode c.code pc = .ok (.return_, 1)) (eT : T.heap = h) {k n : Nat} (hk : cells ≤ k) (hn : slots ≤ n) (hQ : Q none h locs) :
    OwnOk p e below (own_K s Q k n) (T.setTop (mkF m pc Ls [])) :=
  own_ret X (fun _ => rfl) hlk (fun fs hr => X.returnOut hx hret hd hr) eT hQ hk hn
/-- who pays a call: Back, in the form that backOf and the pasted String laws have -/
def own_Bk (l : Launch) (R : Room) (p : Program) (e : Env) (below : List Frame) (s : State) (args : Array Value) (y : MethodName) (len W : Nat) (as' : Array Value) (h : Heap) (kc ks : Nat) (Q : Option Value → Heap → List Loc → Prop) : Prop :=
  Back l R p e below s args y len W (fun A a => a = as' ∧ A.U.heap = h ∧ A.cells + kc ≤ R.cells ∧ A.slots + ks ≤ R.slots) (fun A _ v B => ∃ L, Q v B.U.heap L ∧ B.locs = A.locs ++ L ∧ B.cells = A.cells + kc ∧ B.slots = A.slots + ks)
theorem own_bk {y : MethodName} {bytes : ByteArray} {maxL : Nat} {ret : Option FieldType} {rm : Room} {len W : Nat} {as' : Array Value} (hM : own_Met l Z y bytes maxL ret rm as' h Q) (hZ : Z.Warmed39 s.vm) (w4 : (Cond.code y bytes maxL ret).before a0 Z = true) (w3 : (Cond.initialized y.cls).before a0 Z = true) (hf : rm.frames + 1 ≤ R.frames) (hl : W + (maxL + 11) + rm.locals ≤ R.locals) :
    own_Bk l R p e below s args y len W as' h rm.cells rm.slots Q := backOf (W := W) (hM []) hZ w4 w3 hf hl
/-- a static call -/
theorem own_callSB (X : Stand p l e R s m args below meth c T locs cells slots) (hx : p.tables.exec = Jvm.exec) (hZ : Z.Warmed39 s.vm) {own : String} {index : Nat} {y : MethodName} {bytes : ByteArray} {maxL : Nat} {ret : Option FieldType}
    (hown : s.vm.findClass own = some m.cls) (w1 : (Cond.methodLink own index y).before a0 Z = true) (w2 : (Cond.static y).before a0 Z = true) (w3 : (Cond.initialized y.cls).before a0 Z = true) (w4 : (Cond.code y bytes maxL ret).before a0 Z = true)
    (hy : y.cls ≠ "java/lang/invoke/MethodHandle" ∧ y.cls ≠ "java/lang/invoke/VarHandle") {W kc ks : Nat} {as' : Array Value} {Q' : Option Value → Heap → List Loc → Prop} (hB : own_Bk l R p e below s args y 3 W as' h kc ks Q') (eT : T.heap = h)
    {pc : Nat} {ls : Array Slot} {st argsL rest : List Value} (hsize : ls.size = c.maxLocals) (hlen : ∀ sig, parseMethodDescriptor y.desc = some sig → argsL.length = sig.parameters.length) (has : argsL.toArray = as') (hst : st = argsL.reverse ++ rest)
    (hW : (rest.map fun v => v.category).sum = W) (hd : decode c.code pc = .ok (.invokestatic index, 3)) (hc : cells + kc ≤ R.cells) (hs : slots + ks ≤ R.slots)
    (k : ∀ (T' : State) (v : Option Value) (L : List Loc), Stand p l e R s m args below meth c T' (locs ++ L) (cells + kc) (slots + ks) → Q' v T'.heap L → OwnOk p e below K (T'.setTop (mkF m (pc + 3) ls (v.toList ++ rest)))) :
    OwnOk p e below K (T.setTop (mkF m pc ls st)) := by
  obtain ⟨v, _, ⟨T2, L2, k2, n2⟩, -, X2, ⟨Lc, hQ, l2, y2, z2⟩, st2⟩ := Jvm.LawKit.callS X hx hown (mvT hZ w1) (mvT hZ w2) (mvT hZ w3) (mvT hZ w4) hy hB
    (g := mkF m pc ls st) rfl hsize (argsL := argsL) (rest := rest) hlen hst (by show 2 * 0 + _ ≤ _; rw [hW]; omega) hd (fun _ _ => ⟨has, eT, hc, hs⟩)
  dsimp only [Pt.U, Pt.locs, Pt.cells, Pt.slots] at X2 l2 y2 z2 st2 hQ
  subst l2 y2 z2
  exact own_up st2 (k _ _ _ X2 hQ)
theorem own_callS (X : Stand p l e R s m args below meth c T locs cells slots) (hx : p.tables.exec = Jvm.exec) (hZ : Z.Warmed39 s.vm) {own : String} {index : Nat} {y : MethodName} {bytes : ByteArray} {maxL : Nat} {ret : Option FieldType}
    (hown : s.vm.findClass own = some m.cls) (w1 : (Cond.methodLink own index y).before a0 Z = true) (w2 : (Cond.static y).before a0 Z = true) (w3 : (Cond.initialized y.cls).before a0 Z = true) (w4 : (Cond.code y bytes maxL ret).before a0 Z = true)
    (hy : y.cls ≠ "java/lang/invoke/MethodHandle" ∧ y.cls ≠ "java/lang/invoke/VarHandle") {rm : Room} {as' : Array Value} {Q' : Option Value → Heap → List Loc → Prop} (hM : own_Met l Z y bytes maxL ret rm as' h Q') (eT : T.heap = h)
    {pc W : Nat} {ls : Array Slot} {st argsL rest : List Value} (hsize : ls.size = c.maxLocals) (hlen : ∀ sig, parseMethodDescriptor y.desc = some sig → argsL.length = sig.parameters.length) (has : argsL.toArray = as') (hst : st = argsL.reverse ++ rest)
    (hW : (rest.map fun v => v.category).sum = W) (hd : decode c.code pc = .ok (.invokestatic index, 3)) (hf : rm.frames + 1 ≤ R.frames) (hl : W + (maxL + 11) + rm.locals ≤ R.locals) (hc : cells + rm.cells ≤ R.cells) (hs : slots + rm.slots ≤ R.slots)
    (k : ∀ (T' : State) (v : Option Value) (L : List Loc), Stand p l e R s m args below meth c T' (locs ++ L) (cells + rm.cells) (slots + rm.slots) → Q' v T'.heap L → OwnOk p e below K (T'.setTop (mkF m (pc + 3) ls (v.toList ++ rest)))) :
    OwnOk p e below K (T.setTop (mkF m pc ls st)) := own_callSB X hx hZ hown w1 w2 w3 w4 hy (own_bk hM hZ w4 w3 hf hl) eT hsize hlen has hst hW hd hc hs k
/-- a constructor -/
theorem own_callCB (X : Stand p l e R s m args below meth c T locs cells slots) (hx : p.tables.exec = Jvm.exec) (hZ : Z.Warmed39 s.vm) {own : String} {index : Nat} {y : MethodName} {bytes : ByteArray} {maxL : Nat} (hy1 : y.name = "<init>")
    (hown : s.vm.findClass own = some m.cls) (w1 : (Cond.methodLink own index y).before a0 Z = true) (w2 : (Cond.instanceMethod y).before a0 Z = true) (w4 : (Cond.code y bytes maxL none).before a0 Z = true)
    (hy : y.cls ≠ "java/lang/invoke/MethodHandle" ∧ y.cls ≠ "java/lang/invoke/VarHandle") {W kc ks : Nat} {as' : Array Value} {Q' : Option Value → Heap → List Loc → Prop} (hB : own_Bk l R p e below s args y 3 W as' h kc ks Q') (eT : T.heap = h)
    {pc : Nat} {ls : Array Slot} {a : Addr} {st argsL rest : List Value} (hsize : ls.size = c.maxLocals) (hlen : ∀ sig, parseMethodDescriptor y.desc = some sig → argsL.length = sig.parameters.length) (has : (Value.ref a :: argsL).toArray = as') (hst : st = argsL.reverse ++ .ref a :: rest)
    (hW : (rest.map fun v => v.category).sum = W) (hd : decode c.code pc = .ok (.invokespecial index, 3)) (hc : cells + kc ≤ R.cells) (hs : slots + ks ≤ R.slots)
    (k : ∀ (T' : State) (v : Option Value) (L : List Loc), Stand p l e R s m args below meth c T' (locs ++ L) (cells + kc) (slots + ks) → Q' v T'.heap L → OwnOk p e below K (T'.setTop (mkF m (pc + 3) ls (v.toList ++ rest)))) :
    OwnOk p e below K (T.setTop (mkF m pc ls st)) := by
  obtain ⟨v, _, ⟨T2, L2, k2, n2⟩, -, X2, ⟨Lc, hQ, l2, y2, z2⟩, st2⟩ := X.specialBack hx hy1 hown (mvT hZ w1) (mvT hZ w2) (mvT hZ w4) hy hB
    (g := mkF m pc ls st) rfl hsize (Steps.refl _) (a := a) (argsL := argsL) (rest := rest) hlen hst (by show 2 * 0 + _ ≤ _; rw [hW]; omega) hd (fun _ _ => ⟨has, eT, hc, hs⟩)
  dsimp only [Pt.U, Pt.locs, Pt.cells, Pt.slots] at X2 l2 y2 z2 st2 hQ
  subst l2 y2 z2
  exact own_to st2 (k _ _ _ X2 hQ)
theorem own_callC (X : Stand p l e R s m args below meth c T locs cells slots) (hx : p.tables.exec = Jvm.exec) (hZ : Z.Warmed39 s.vm) {own : String} {index : Nat} {y : MethodName} {bytes : ByteArray} {maxL : Nat} (hy1 : y.name = "<init>")
    (hown : s.vm.findClass own = some m.cls) (w1 : (Cond.methodLink own index y).before a0 Z = true) (w2 : (Cond.instanceMethod y).before a0 Z = true) (w3 : (Cond.initialized y.cls).before a0 Z = true) (w4 : (Cond.code y bytes maxL none).before a0 Z = true)
    (hy : y.cls ≠ "java/lang/invoke/MethodHandle" ∧ y.cls ≠ "java/lang/invoke/VarHandle") {rm : Room} {as' : Array Value} {Q' : Option Value → Heap → List Loc → Prop} (hM : own_Met l Z y bytes maxL none rm as' h Q') (eT : T.heap = h)
    {pc W : Nat} {ls : Array Slot} {a : Addr} {st argsL rest : List Value} (hsize : ls.size = c.maxLocals) (hlen : ∀ sig, parseMethodDescriptor y.desc = some sig → argsL.length = sig.parameters.length) (has : (Value.ref a :: argsL).toArray = as') (hst : st = argsL.reverse ++ .ref a :: rest)
    (hW : (rest.map fun v => v.category).sum = W) (hd : decode c.code pc = .ok (.invokespecial index, 3)) (hf : rm.frames + 1 ≤ R.frames) (hl : W + (maxL + 11) + rm.locals ≤ R.locals) (hc : cells + rm.cells ≤ R.cells) (hs : slots + rm.slots ≤ R.slots)
    (k : ∀ (T' : State) (v : Option Value) (L : List Loc), Stand p l e R s m args below meth c T' (locs ++ L) (cells + rm.cells) (slots + rm.slots) → Q' v T'.heap L → OwnOk p e below K (T'.setTop (mkF m (pc + 3) ls (v.toList ++ rest)))) :
    OwnOk p e below K (T.setTop (mkF m pc ls st)) := own_callCB X hx hZ hy1 hown w1 w2 w4 hy (own_bk hM hZ w4 w3 hf hl) eT hsize hlen has hst hW hd hc hs k
/-- an instance method: the body that the receiver's class selects -/
theorem own_callVB (X : Stand p l e R s m args below meth c T locs cells slots) (hx : p.tables.exec = Jvm.exec) (hZ : Z.Warmed39 s.vm) {own C : String} {index : Nat} {y z : MethodName}
    (hown : s.vm.findClass own = some m.cls) (w1 : (Cond.methodLink own index y).before a0 Z = true) (w2 : (Cond.declares y).before a0 Z = true) (hnf : NotFace s y) (w5 : (Cond.selects C y z).before a0 Z = true) (w6 : (Cond.instanceMethod z).before a0 Z = true)
    (hy : y.cls ≠ "java/lang/invoke/MethodHandle" ∧ y.cls ≠ "java/lang/invoke/VarHandle") {W kc ks : Nat} {as' : Array Value} {Q' : Option Value → Heap → List Loc → Prop} (hB : own_Bk l R p e below s args z 3 W as' h kc ks Q') (eT : T.heap = h)
    {pc : Nat} {ls : Array Slot} {a : Addr} {st argsL rest : List Value} (E : Exa Z h a C) (hsize : ls.size = c.maxLocals) (hlen : ∀ sig, parseMethodDescriptor y.desc = some sig → argsL.length = sig.parameters.length) (has : (Value.ref a :: argsL).toArray = as') (hst : st = argsL.reverse ++ .ref a :: rest)
    (hW : (rest.map fun v => v.category).sum = W) (hd : decode c.code pc = .ok (.invokevirtual index, 3)) (hc : cells + kc ≤ R.cells) (hs : slots + ks ≤ R.slots)
    (k : ∀ (T' : State) (v : Option Value) (L : List Loc), Stand p l e R s m args below meth c T' (locs ++ L) (cells + kc) (slots + ks) → Q' v T'.heap L → OwnOk p e below K (T'.setTop (mkF m (pc + 3) ls (v.toList ++ rest)))) :
    OwnOk p e below K (T.setTop (mkF m pc ls st)) := by
  obtain ⟨cq, kq, qa, qb, qc⟩ := isOf hZ eT E
  obtain ⟨v, _, ⟨T2, L2, k2, n2⟩, -, X2, ⟨Lc, hQ, l2, y2, z2⟩, st2⟩ := X.virtualBack hx (y := y) (z := z) hown (mvT hZ w1) (mvT hZ w2) hnf (mvT hZ w5) (mvT hZ w6) hy hB qa qc
    (g := mkF m pc ls st) rfl hsize (Steps.refl _) (argsL := argsL) (rest := rest) hlen hst (by show 2 * 0 + _ ≤ _; rw [hW]; omega) hd (fun _ _ => ⟨has, eT, hc, hs⟩)
  dsimp only [Pt.U, Pt.locs, Pt.cells, Pt.slots] at X2 l2 y2 z2 st2 hQ
  subst l2 y2 z2
  exact own_to st2 (k _ _ _ X2 hQ)
theorem own_callV (X : Stand p l e R s m args below meth c T locs cells slots) (hx : p.tables.exec = Jvm.exec) (hZ : Z.Warmed39 s.vm) {own C : String} {index : Nat} {y z : MethodName} {bytes : ByteArray} {maxL : Nat} {ret : Option FieldType}
    (hown : s.vm.findClass own = some m.cls) (w1 : (Cond.methodLink own index y).before a0 Z = true) (w2 : (Cond.declares y).before a0 Z = true) (hnf : NotFace s y) (w5 : (Cond.selects C y z).before a0 Z = true) (w6 : (Cond.instanceMethod z).before a0 Z = true) (w3 : (Cond.initialized z.cls).before a0 Z = true) (w4 : (Cond.code z bytes maxL ret).before a0 Z = true)
    (hy : y.cls ≠ "java/lang/invoke/MethodHandle" ∧ y.cls ≠ "java/lang/invoke/VarHandle") {rm : Room} {as' : Array Value} {Q' : Option Value → Heap → List Loc → Prop} (hM : own_Met l Z z bytes maxL ret rm as' h Q') (eT : T.heap = h)
    {pc W : Nat} {ls : Array Slot} {a : Addr} {st argsL rest : List Value} (E : Exa Z h a C) (hsize : ls.size = c.maxLocals) (hlen : ∀ sig, parseMethodDescriptor y.desc = some sig → argsL.length = sig.parameters.length) (has : (Value.ref a :: argsL).toArray = as') (hst : st = argsL.reverse ++ .ref a :: rest)
    (hW : (rest.map fun v => v.category).sum = W) (hd : decode c.code pc = .ok (.invokevirtual index, 3)) (hf : rm.frames + 1 ≤ R.frames) (hl : W + (maxL + 11) + rm.locals ≤ R.locals) (hc : cells + rm.cells ≤ R.cells) (hs : slots + rm.slots ≤ R.slots)
    (k : ∀ (T' : State) (v : Option Value) (L : List Loc), Stand p l e R s m args below meth c T' (locs ++ L) (cells + rm.cells) (slots + rm.slots) → Q' v T'.heap L → OwnOk p e below K (T'.setTop (mkF m (pc + 3) ls (v.toList ++ rest)))) :
    OwnOk p e below K (T.setTop (mkF m pc ls st)) := own_callVB X hx hZ hown w1 w2 hnf w5 w6 hy (own_bk hM hZ w4 w3 hf hl) eT E hsize hlen has hst hW hd hc hs k
end Own
end Jvm.RoadKit
namespace Jvm.RoadKit
open Sem ClassFile Op Lib Jvm.Stand Jvm.Free Jvm.LawKit
section OwnX
variable {p : Program} {l : Launch} {e : Env} {R : Room} {s s' : State} {m : MethodId} {args : Array Value} {below : List Frame} {meth : Method} {c : Code} {T : State} {locs : List Loc} {cells slots : Nat} {Z : State} {a0 : Array Value} {h : Heap} {K : Outcome → State → Prop} {Q : Option Value → Heap → List Loc → Prop}
theorem own_declares {y : MethodName} {bytes : ByteArray} {maxL : Nat} {ret : Option FieldType} (w6 : (Cond.instanceMethod y).before a0 Z = true) (w4 : (Cond.code y bytes maxL ret).before a0 Z = true) : (Cond.declares y).before a0 Z = true := by
  obtain ⟨mk, methM, hnamed, hmethM, hst, hab⟩ := Cond.instanceMethod_spec w6
  obtain ⟨methM', cM, hm', -, -, -, -, -, -, hsig⟩ := Cond.code_spec hnamed w4
  cases hmethM.symm.trans hm'
  simp [Cond.before, Cond.holds, Cond.value, hnamed, hmethM, hst, hsig]
theorem own_nf {y y1 : MethodName} (h : NotFace s y1) (hc : y1.cls = y.cls) (w : (Cond.instanceMethod y1).before a0 s = true) : NotFace s y := fun r0 h0 => by
  obtain ⟨mk, methM, hnamed, -, -, -⟩ := Cond.instanceMethod_spec w
  obtain ⟨kr, q1, q2⟩ := h mk hnamed
  have e1 := findClass_of_methodNamed hnamed
  have e2 := findClass_of_methodNamed h0
  rw [hc] at e1
  have e3 : mk.cls = r0.cls := Option.some.inj (e1.symm.trans e2)
  exact ⟨kr, e3 ▸ q1, q2⟩
theorem own_sameMethod {y : MethodName} (hnf : NotFace Z y) (w6 : (Cond.instanceMethod y).before a0 Z = true) (hy : y.cls ≠ "java/lang/invoke/MethodHandle" ∧ y.cls ≠ "java/lang/invoke/VarHandle") : (Cond.sameMethod y.cls y.cls y.name y.desc).before a0 Z = true := by
  obtain ⟨mk, methM, hnamed, -, -, -⟩ := Cond.instanceMethod_spec w6
  obtain ⟨kr, q1, q2⟩ := hnf mk hnamed
  have e1 := findClass_of_methodNamed hnamed
  have e2 := State.methodFound?_of_named hnamed hy
  have e3 : Z.methodNamed? ⟨y.cls, y.name, y.desc⟩ = some mk := hnamed
  simp [Cond.before, Cond.holds, Cond.value, e1, e2, e3, q1, q2]
/-- super.m(..) -/
theorem own_callUB (X : Stand p l e R s m args below meth c T locs cells slots) (hx : p.tables.exec = Jvm.exec) (hZ : Z.Warmed39 s.vm) {own C : String} {index : Nat} {y : MethodName} {bytes : ByteArray} {maxL : Nat} {ret : Option FieldType}
    (hown : s.vm.findClass own = some m.cls) (w1 : (Cond.methodLink own index y).before a0 Z = true) (w2 : (Cond.sameMethod y.cls y.cls y.name y.desc).before a0 Z = true) (w3 : (Cond.instanceMethod y).before a0 Z = true) (w4 : (Cond.superclass own y.cls).before a0 Z = true) (hn : y.name ≠ "<init>") (wc : (Cond.code y bytes maxL ret).before a0 Z = true)
    {W kc ks : Nat} {as' : Array Value} {Q' : Option Value → Heap → List Loc → Prop} (hB : own_Bk l R p e below s args y 3 W as' h kc ks Q') (eT : T.heap = h)
    {pc : Nat} {ls : Array Slot} {a : Addr} {st argsL rest : List Value} (E : Exa Z h a C) (hsize : ls.size = c.maxLocals) (hlen : ∀ sig, parseMethodDescriptor y.desc = some sig → argsL.length = sig.parameters.length) (has : (Value.ref a :: argsL).toArray = as') (hst : st = argsL.reverse ++ .ref a :: rest)
    (hW : (rest.map fun v => v.category).sum = W) (hd : decode c.code pc = .ok (.invokespecial index, 3)) (hc : cells + kc ≤ R.cells) (hs : slots + ks ≤ R.slots)
    (k : ∀ (T' : State) (v : Option Value) (L : List Loc), Stand p l e R s m args below meth c T' (locs ++ L) (cells + kc) (slots + ks) → Q' v T'.heap L → OwnOk p e below K (T'.setTop (mkF m (pc + 3) ls (v.toList ++ rest)))) :
    OwnOk p e below K (T.setTop (mkF m pc ls st)) := by
  obtain ⟨v, _, ⟨T2, L2, k2, n2⟩, -, X2, ⟨Lc, hQ, l2, y2, z2⟩, st2⟩ := superBack X hx hZ (y := y) hown w1 w2 w3 w4 hn hB eT (Ins.self E)
    (g := mkF m pc ls st) rfl hsize wc (argsL := argsL) (rest := rest) hlen hst (by show 2 * 0 + _ ≤ _; rw [hW]; omega) hd (fun _ _ => ⟨has, eT, hc, hs⟩)
  dsimp only [Pt.U, Pt.locs, Pt.cells, Pt.slots] at X2 l2 y2 z2 st2 hQ
  subst l2 y2 z2
  exact own_to st2 (k _ _ _ X2 hQ)
/-- an array's ints by a function -/
def own_F (n : Nat) (f : Nat → Int32) : List Value := (List.range n).map fun j => Value.int (f j)
theorem own_F_len (n : Nat) (f : Nat → Int32) : (own_F n f).length = n := by simp [own_F]
theorem own_F_get {n : Nat} {f : Nat → Int32} {j : Nat} (hj : j < n) : (own_F n f)[j]? = some (.int (f j)) := by simp [own_F, hj]
theorem own_F_out {n : Nat} {f : Nat → Int32} {j : Nat} (hj : n ≤ j) : (own_F n f)[j]? = none := by rw [List.getElem?_eq_none]; rw [own_F_len]; exact hj
theorem own_F_at {n : Nat} {f : Nat → Int32} {d : Value} {j : Nat} (hj : j < n) : (own_F n f).getD j d = .int (f j) := by rw [List.getD_eq_getElem?_getD, own_F_get hj]; rfl
theorem own_F_congr {n : Nat} {f g : Nat → Int32} (h : ∀ j, j < n → f j = g j) : own_F n f = own_F n g := List.map_congr_left fun j hj => by rw [h j (List.mem_range.mp hj)]
theorem own_F_set {n : Nat} {f : Nat → Int32} {i : Nat} {v : Int32} : (own_F n f).set i (.int v) = own_F n (fun j => if j = i then v else f j) := by
  apply List.ext_getElem?
  intro j
  by_cases hj : j < n
  · rw [own_F_get hj, List.getElem?_set]
    by_cases q : i = j
    · subst q; simp [own_F_len, hj]
    · have q' : ¬ j = i := fun z => q z.symm
      simp [q, q', own_F_get hj]
  · rw [own_F_out (Nat.le_of_not_lt hj), List.getElem?_eq_none]
    rw [List.length_set, own_F_len]; omega
theorem own_newF {a : Addr} {k : ClassId} {ty : FieldType} {z : Int32} (V : Arv Z h a k ty z [] (.int 0)) (n : Nat) : Arv Z h a k ty z (own_F n fun _ => 0) (.int 0) := V.pad fun i => by
  by_cases hi : i < n
  · rw [own_F_at hi]; rfl
  · rw [List.getD_eq_getElem?_getD, own_F_out (Nat.le_of_not_lt hi)]; rfl
theorem own_cl (n : Nat) (hn : n < 2147483648) : (Int32.ofNat n).toNatClampNeg = n := clamp_of rfl hn
theorem own_nn (n : Nat) (hn : n < 2147483648) : ¬ Int32.ofNat n < 0 := by
  rw [Int32.lt_iff_toInt_lt, toInt_of rfl hn]
  have : (0 : Int32).toInt = 0 := rfl
  omega
theorem own_lt {i n : Nat} (hi : i < n) (hn : n < 2147483648) : Int32.ofNat i < Int32.ofNat n := by
  rw [Int32.lt_iff_toInt_lt, toInt_of rfl hn, toInt_of rfl (by omega)]; omega
theorem own_nlt {i n : Nat} (hi : i ≤ n) (hn : n < 2147483648) : ¬ Int32.ofNat n < Int32.ofNat i := by
  rw [Int32.lt_iff_toInt_lt, toInt_of rfl hn, toInt_of rfl (by omega)]; omega
theorem own_shr0 (x : Int32) : x >>> ((0 : Int32) &&& 31) = x := by
  apply Int32.toBitVec_inj.mp
  simp [Int32.toBitVec_shiftRight]
theorem own_shl0 (x : Int32) : x <<< ((0 : Int32) &&& 31) = x := by
  apply Int32.toBitVec_inj.mp
  simp [Int32.toBitVec_shiftLeft]
theorem own_sub_le {i n : Nat} (hi : i ≤ n) (hn : n < 2147483648) : ¬ (0 : Int32) < Int32.ofNat i - Int32.ofNat n := by
  have e0 : (0 : Int32).toInt = 0 := rfl
  rw [Int32.lt_iff_toInt_lt, Int32.toInt_sub, toInt_of rfl hn, toInt_of rfl (by omega), Int.bmod_eq_of_le (by omega) (by omega), e0]; omega
theorem own_sub_gt {i n : Nat} (hi : n < i) (hn : i < 2147483648) : (0 : Int32) < Int32.ofNat i - Int32.ofNat n := by
  have e0 : (0 : Int32).toInt = 0 := rfl
  rw [Int32.lt_iff_toInt_lt, Int32.toInt_sub, toInt_of rfl hn, toInt_of rfl (by omega), Int.bmod_eq_of_le (by omega) (by omega), e0]; omega
theorem own_max18 {g : Nat} (hg : g ≤ 18) : (if (Int32.ofNat g) < (18 : Int32) then (18 : Int32) else (Int32.ofNat g)) = (18 : Int32) := by
  by_cases q : g = 18
  · subst q; rfl
  · exact if_pos (own_lt (i := g) (n := 18) (by omega) (by omega))
theorem own_min {i n : Nat} (hi : i ≤ n) (hn : n < 2147483648) : (if (Int32.ofNat i) < (Int32.ofNat n) then (Int32.ofNat i) else (Int32.ofNat n)) = Int32.ofNat i := by
  by_cases q : i = n
  · subst q; split <;> rfl
  · rw [if_pos (own_lt (by omega) hn)]
theorem own_ofNatEq {i n : Nat} (q : Int32.ofNat i = Int32.ofNat n) (hi : i < 2147483648) (hn : n < 2147483648) : i = n := by
  have := congrArg Int32.toInt q
  rw [toInt_of rfl hn, toInt_of rfl hi] at this; omega
theorem own_ofNat0 {i : Nat} (q : Int32.ofNat i = (0 : Int32)) (hi : i < 2147483648) : i = 0 := own_ofNatEq (n := 0) q hi (by omega)
/-- the place i lies in an array of n -/
theorem own_in {i n : Nat} (hi : i < n) (hn : n < 2147483648) : ¬ Int32.ofNat i < 0 ∧ Int32.ofNat i < Int32.ofNat n := ⟨own_nn i (by omega), own_lt hi hn⟩
theorem own_F_copy {n dp nn sp ns : Nat} {f g : Nat → Int32} (h1 : dp + nn ≤ n) (h2 : sp + nn ≤ ns) : (own_F n f).take dp ++ ((List.range nn).map fun i => (own_F ns g).getD (sp + i) (.int 0)) ++ (own_F n f).drop (dp + nn) = own_F n (fun j => if dp ≤ j ∧ j < dp + nn then g (sp + (j - dp)) else f j) := by
  apply List.ext_getElem?
  intro j
  by_cases hj : j < n
  · rw [own_F_get hj]
    by_cases q1 : j < dp
    · rw [List.append_assoc, List.getElem?_append_left (by rw [List.length_take, own_F_len]; omega), List.getElem?_take_of_lt q1, own_F_get hj, if_neg (by omega)]
    · by_cases q2 : j < dp + nn
      · rw [List.append_assoc, List.getElem?_append_right (by rw [List.length_take, own_F_len]; omega), List.getElem?_append_left (by rw [List.length_map, List.length_range, List.length_take, own_F_len]; omega), List.length_take, own_F_len, Nat.min_eq_left (by omega), if_pos ⟨by omega, q2⟩, List.getElem?_map, List.getElem?_range (by omega)]
        show some ((own_F ns g).getD (sp + (j - dp)) (.int 0)) = _
        rw [own_F_at (by omega)]
      · rw [List.getElem?_append_right (by rw [List.length_append, List.length_map, List.length_range, List.length_take, own_F_len]; omega), List.length_append, List.length_map, List.length_range, List.length_take, own_F_len, Nat.min_eq_left (by omega), List.getElem?_drop, if_neg (by omega)]
        rw [show dp + nn + (j - (dp + nn)) = j by omega, own_F_get hj]
  · rw [own_F_out (Nat.le_of_not_lt hj), List.getElem?_eq_none]
    rw [List.length_append, List.length_append, List.length_map, List.length_range, List.length_take, List.length_drop, own_F_len]
    omega
theorem own_cl3 {a b c : Nat} (ha : a < 2147483648) (hb : b < 2147483648) (hc : c < 2147483648) (h : a + b ≤ c) : (Int32.ofNat a).toNatClampNeg + (Int32.ofNat b).toNatClampNeg ≤ (Int32.ofNat c).toNatClampNeg := by rw [own_cl a ha, own_cl b hb, own_cl c hc]; exact h
theorem own_clF {a b n : Nat} {f : Nat → Int32} (ha : a < 2147483648) (hb : b < 2147483648) (h : a + b ≤ n) : (Int32.ofNat a).toNatClampNeg + (Int32.ofNat b).toNatClampNeg ≤ (own_F n f).length := by rw [own_cl a ha, own_cl b hb, own_F_len]; exact h
theorem own_F_copyI {n dp nn sp ns : Nat} {f g : Nat → Int32} (h1 : dp + nn ≤ n) (h2 : sp + nn ≤ ns) (b1 : dp < 2147483648) (b2 : nn < 2147483648) (b3 : sp < 2147483648) : (own_F n f).take (Int32.ofNat dp).toNatClampNeg ++ ((List.range (Int32.ofNat nn).toNatClampNeg).map fun i => (own_F ns g).getD ((Int32.ofNat sp).toNatClampNeg + i) (.int 0)) ++ (own_F n f).drop ((Int32.ofNat dp).toNatClampNeg + (Int32.ofNat nn).toNatClampNeg) = own_F n (fun j => if dp ≤ j ∧ j < dp + nn then g (sp + (j - dp)) else f j) := by
  rw [own_cl dp b1, own_cl nn b2, own_cl sp b3]
  exact own_F_copy h1 h2
end OwnX
end Jvm.RoadKit
namespace Jvm.RoadKit
open Sem Bundle ClassFile Op Lib Jvm.Stand Jvm.Free Jvm.LawKit
section OwnH
variable {p : Program} {l : Launch} {e : Env} {R : Room} {s s' : State} {m : MethodId} {args : Array Value} {below : List Frame} {meth : Method} {c : Code} {T : State} {locs : List Loc} {cells slots : Nat} {Z : State} {a0 : Array Value} {h h' : Heap} {EL : List (String × Nat)} {x : Addr} {ws : List Addr} {K : Outcome → State → Prop} {Q : Option Value → Heap → List Loc → Prop}
/-- the walk's base: the start with the tables at hand, the literals' invariant kept -/
def own_FrH (Z : State) (EL : List (String × Nat)) (s s' : State) (h : Heap) : Prop := ∃ (vm0 : Vm) (k0 : Nat), s' = s.setVm vm0 ∧ s.Since vm0 k0 ∧ k0 ≤ h.size ∧ CHr Z EL s.vm s.heap vm0 h
theorem own_FrH.start (hh : s.heap = h) (H : CHv Z EL s.vm h) : own_FrH Z EL s s h := ⟨s.vm, 0, rfl, (State.WarmedH.refl s).since 0, Nat.zero_le _, by rw [hh]; exact CHr.refl H⟩
theorem own_FrH.inv (B : own_FrH Z EL s s' h) : CHv Z EL s'.vm h := by
  obtain ⟨vm0, k0, rfl, h2, h3, h4⟩ := B
  exact h4.1
theorem own_FrH.ext (B : own_FrH Z EL s s' h) (E : Ext h h') : own_FrH Z EL s s' h' := by
  obtain ⟨vm0, k0, h1, h2, h3, h4⟩ := B
  exact ⟨vm0, k0, h1, h2, Nat.le_trans h3 E.1, h4.trans (CHr.ext E h4.1)⟩
theorem own_FrH.wr {a : Addr} {sl : Nat} {v : Value} (B : own_FrH Z EL s s' h) (W : Wr h h' a sl v) (S : Safe Z EL s'.vm h a) : own_FrH Z EL s s' h' := by
  obtain ⟨vm0, k0, rfl, h2, h3, h4⟩ := B
  exact ⟨vm0, k0, rfl, h2, Nat.le_trans h3 (Nat.le_of_eq W.size.symm), h4.trans (CHr.wr W S h4.1)⟩
theorem own_FrH.keep (B : own_FrH Z EL s s' h) (K : Keep h h' ws) (hs : ∀ x ∈ ws, Safe Z EL s'.vm h x) : own_FrH Z EL s s' h' := by
  obtain ⟨vm0, k0, rfl, h2, h3, h4⟩ := B
  exact ⟨vm0, k0, rfl, h2, Nat.le_trans h3 K.1, h4.trans (CHr.keep K hs h4.1)⟩
theorem own_FrH.sNew (B : own_FrH Z EL s s' h) (E : Ext h h') (hx : h.size ≤ x) : Safe Z EL s'.vm h' x := Safe.ext E B.inv (Safe.new hx)
theorem own_FrH.sNewK (B : own_FrH Z EL s s' h) (K : Keep h h' ws) (hs : ∀ x ∈ ws, Safe Z EL s'.vm h x) (hx : h.size ≤ x) : Safe Z EL s'.vm h' x := Safe.keep K hs B.inv (Safe.new hx)
theorem own_FrH.sExt (B : own_FrH Z EL s s' h) (E : Ext h h') (S : Safe Z EL s'.vm h x) : Safe Z EL s'.vm h' x := Safe.ext E B.inv S
theorem own_FrH.sWr {a : Addr} {sl : Nat} {v : Value} (B : own_FrH Z EL s s' h) (W : Wr h h' a sl v) (S : Safe Z EL s'.vm h a) (Sx : Safe Z EL s'.vm h x) : Safe Z EL s'.vm h' x := Safe.wr W S B.inv Sx
theorem own_FrH.sKeep (B : own_FrH Z EL s s' h) (K : Keep h h' ws) (hs : ∀ x ∈ ws, Safe Z EL s'.vm h x) (S : Safe Z EL s'.vm h x) : Safe Z EL s'.vm h' x := Safe.keep K hs B.inv S
theorem own_saf0 {vm : Vm} : ∀ x ∈ ([] : List Addr), Safe Z EL vm h x := fun _ q => by cases q
theorem own_safS {vm : Vm} {b : Addr} (S : Safe Z EL vm h b) (q : ∀ x ∈ ws, Safe Z EL vm h x) : ∀ x ∈ b :: ws, Safe Z EL vm h x := fun x hx => by
  rcases List.mem_cons.mp hx with rfl | hx
  · exact S
  · exact q x hx
theorem own_lt0 : ∀ x ∈ ([] : List Addr), x < h.size := fun _ q => by cases q
theorem own_ltS {b : Addr} (S : b < h.size) (q : ∀ x ∈ ws, x < h.size) : ∀ x ∈ b :: ws, x < h.size := fun x hx => by
  rcases List.mem_cons.mp hx with rfl | hx
  · exact S
  · exact q x hx
theorem own_safE {C : String} (hZ : Z.Warmed39 s'.vm) (E : Exa Z h x C) (h1 : C ≠ "java/lang/String") (h2 : C ≠ "[B") : Safe Z EL s'.vm h x := Safe.exa hZ.alike E h1 h2
/-- the end of a body that may intern and keeps the invariant -/
def own_KH (Z : State) (EL : List (String × Nat)) (s : State) (Q : Option Value → Heap → List Loc → Prop) (k n : Nat) (o : Outcome) (u : State) : Prop := ∃ v L, o = .returned v ∧ Q v u.heap L ∧ CHr Z EL s.vm s.heap u.vm u.heap ∧ ReturnedEndW s o u L k n
def own_MetH (l : Launch) (Z : State) (EL : List (String × Nat)) (sf : List Addr) (y : MethodName) (bytes : ByteArray) (maxL : Nat) (ret : Option FieldType) (rm : Room) (as' : Array Value) (h0 : Heap) (Q : Option Value → Heap → List Loc → Prop) : Prop :=
  ∀ ws, MetFree l y (head1 (Cond.code y bytes maxL ret :: ws) rm) (fun a U => a = as' ∧ Z.Warmed39 U.vm ∧ U.heap = h0 ∧ CHv Z EL U.vm h0 ∧ ∀ x ∈ sf, Safe Z EL U.vm h0 x) (fun _ _ _ _ _ => True) (fun _ U o U' => own_KH Z EL U Q rm.cells rm.slots o U')
theorem own_bodyH {sf : List Addr} {y : MethodName} {bytes : ByteArray} {maxL : Nat} {ret : Option FieldType} {rm : Room} {as' : Array Value} {L0 : Array Slot}
    (hpl : plainFor y = true) (ef : ∀ m, entryFrame m as' maxL = mkF m 0 L0 [])
    (body : ∀ (p : Program) (e : Env) (s : State) (m : MethodId) (below : List Frame) (meth : Method) (c : Code) (s₁ : State), p.tables.exec = Jvm.exec → c.code = bytes → c.maxLocals = maxL → Z.Warmed39 s.vm → s.vm.findClass y.cls = some m.cls → meth.name = y.name → meth.sig.returnType = ret → meth.locks = false →
      Stand p l e rm s m as' below meth c s₁ [] 0 0 → s₁.heap = h → own_FrH Z EL s s h → (∀ x ∈ sf, Safe Z EL s.vm h x) → OwnOk p e below (own_KH Z EL s Q rm.cells rm.slots) (s₁.setTop (mkF m 0 L0 []))) :
    own_MetH l Z EL sf y bytes maxL ret rm as' h Q := by
  intro ws
  refine MetFree.of_bodySF hpl hisR ?_
  intro p e s m args below meth c s₁ Bd hml0 hP hK
  obtain ⟨rfl, hZ, hh, hH, hsf⟩ := hP
  have q := body p e s m below meth c s₁ Bd.exec Bd.bytes hml0 hZ (findClass_of_methodNamed Bd.named) (name_of_methodNamed Bd.named Bd.method).1 Bd.returns Bd.notSynchronized (Stand.of_body Bd) (by rw [← hh, Bd.state]; rfl) (own_FrH.start hh hH) hsf
  rw [← ef] at q
  exact q
theorem own_retH (X : Stand p l e R s' m args below meth c T locs cells slots) (B : own_FrH Z EL s s' h) (hZ : Z.Warmed39 s'.vm) (hEL : EW Z a0 EL) {F : JFrame} {v : Option Value} (hv : meth.sig.returnType = none → v = none) (hlk : meth.locks = false)
    (st : ∀ fs, (∀ (f : JFrame) (acts : List Action), f.method = m → f.locked = none → f.entered = [] → (doReturn e (T.setTop f) acts v).1 = T.setFrames fs) → Steps p.tables e below (T.setTop F) (T.setFrames fs))
    (eT : T.heap = h) (hQ : Q v h locs) {k n : Nat} (hk : cells ≤ k) (hn : slots ≤ n) : OwnOk p e below (own_KH Z EL s Q k n) (T.setTop F) := by
  obtain ⟨vm0, k0, rfl, hS, hk0, hC⟩ := B
  obtain ⟨fs, hr, hrun, hended, hE⟩ := X.leaveW hS (by rw [eT]; exact hk0) hv hlk
  have hC2 := hC.trans (CHv.at X hZ hEL hC.1)
  refine ⟨_, _, st fs hr, hrun, hended, v, locs, rfl, ?_, ?_, hE.1, hE.2.1, hE.2.2.1, hE.2.2.2.mono hk hn⟩
  · show Q v T.heap locs
    rw [eT]; exact hQ
  · show CHr Z EL s.vm s.heap T.vm T.heap
    rw [eT]; exact hC2
theorem own_retNH (X : Stand p l e R s' m args below meth c T locs cells slots) (B : own_FrH Z EL s s' h) (hZ : Z.Warmed39 s'.vm) (hEL : EW Z a0 EL) (hx : p.tables.exec = Jvm.exec) {t : FieldType} (hret : meth.sig.returnType = some t) (ht : t = .boolean ∨ t = .byte ∨ t = .char ∨ t = .short) (hlk : meth.locks = false)
    {pc : Nat} {Ls : Array Slot} {z z' : Int32} {rest : List Value} (hd : decode c.code pc = .ok (.ireturn, 1)) (hz : nar t z = z') (eT : T.heap = h) {k n : Nat} (hk : cells ≤ k) (hn : slots ≤ n) (hQ : Q (some (.int z')) h locs) :
    OwnOk p e below (own_KH Z EL s Q k n) (T.setTop (mkF m pc Ls (.int z :: rest))) := by
  subst hz
  exact own_retH X B hZ hEL (fun q => by rw [hret] at q; cases q) hlk (fun fs hr => retN X hx hret ht hd hr) eT hQ hk hn
theorem own_retIH (X : Stand p l e R s' m args below meth c T locs cells slots) (B : own_FrH Z EL s s' h) (hZ : Z.Warmed39 s'.vm) (hEL : EW Z a0 EL) (hx : p.tables.exec = Jvm.exec) (hret : meth.sig.returnType = some .int) (hlk : meth.locks = false)
    {pc : Nat} {Ls : Array Slot} {z : Int32} {rest : List Value} (hd : decode c.code pc = .ok (.ireturn, 1)) (eT : T.heap = h) {k n : Nat} (hk : cells ≤ k) (hn : slots ≤ n) (hQ : Q (some (.int z)) h locs) :
    OwnOk p e below (own_KH Z EL s Q k n) (T.setTop (mkF m pc Ls (.int z :: rest))) :=
  own_retH X B hZ hEL (fun q => by rw [hret] at q; cases q) hlk (fun fs hr => retOut X hx hret rfl (Or.inl ⟨rfl, Or.inl rfl, z, rfl⟩) hd hr) eT hQ hk hn
theorem own_retJH (X : Stand p l e R s' m args below meth c T locs cells slots) (B : own_FrH Z EL s s' h) (hZ : Z.Warmed39 s'.vm) (hEL : EW Z a0 EL) (hx : p.tables.exec = Jvm.exec) (hret : meth.sig.returnType = some .long) (hlk : meth.locks = false)
    {pc : Nat} {Ls : Array Slot} {z : Int64} {rest : List Value} (hd : decode c.code pc = .ok (.lreturn, 1)) (eT : T.heap = h) {k n : Nat} (hk : cells ≤ k) (hn : slots ≤ n) (hQ : Q (some (.long z)) h locs) :
    OwnOk p e below (own_KH Z EL s Q k n) (T.setTop (mkF m pc Ls (.long z :: rest))) :=
  own_retH X B hZ hEL (fun q => by rw [hret] at q; cases q) hlk (fun fs hr => retOut X hx hret rfl (Or.inr (Or.inl ⟨rfl, rfl, z, rfl⟩)) hd hr) eT hQ hk hn
theorem own_retRH (X : Stand p l e R s' m args below meth c T locs cells slots) (B : own_FrH Z EL s s' h) (hZ : Z.Warmed39 s'.vm) (hEL : EW Z a0 EL) (hx : p.tables.exec = Jvm.exec) {t : FieldType} (hret : meth.sig.returnType = some t) (ht : t.isReference = true) (hlk : meth.locks = false)
    {pc : Nat} {Ls : Array Slot} {w : Value} {rest : List Value} (hw : w.isRef = true) (hd : decode c.code pc = .ok (.areturn, 1)) (eT : T.heap = h) {k n : Nat} (hk : cells ≤ k) (hn : slots ≤ n) (hQ : Q (some w) h locs) :
    OwnOk p e below (own_KH Z EL s Q k n) (T.setTop (mkF m pc Ls (w :: rest))) :=
  own_retH X B hZ hEL (fun q => by rw [hret] at q; cases q) hlk (fun fs hr => retOut X hx hret (by rcases ref_cases hw with rfl | ⟨a, rfl⟩ <;> cases t <;> rfl) (Or.inr (Or.inr (Or.inr (Or.inr ⟨rfl, ht, hw⟩)))) hd hr) eT hQ hk hn
theorem own_retVH (X : Stand p l e R s' m args below meth c T locs cells slots) (B : own_FrH Z EL s s' h) (hZ : Z.Warmed39 s'.vm) (hEL : EW Z a0 EL) (hx : p.tables.exec = Jvm.exec) (hret : meth.sig.returnType = none) (hlk : meth.locks = false)
    {pc : Nat} {Ls : Array Slot} (hd : decode c.code pc = .ok (.return_, 1)) (eT : T.heap = h) {k n : Nat} (hk : cells ≤ k) (hn : slots ≤ n) (hQ : Q none h locs) :
    OwnOk p e below (own_KH Z EL s Q k n) (T.setTop (mkF m pc Ls [])) :=
  own_retH X B hZ hEL (fun _ => rfl) hlk (fun fs hr => X.returnOut hx hret hd hr) eT hQ hk hn
/-- library's backOfSH, with addresses that the caller knows as safe -/
theorem own_backH {vm0 : Vm} {sf : List Addr} {y : MethodName} {bytes : ByteArray} {maxL : Nat} {ret : Option FieldType} {rm : Room} {len W : Nat} {as' : Array Value} (hM : own_MetH l Z EL sf y bytes maxL ret rm as' h Q)
    (hZ : Z.Warmed39 vm0) (wc : (Cond.code y bytes maxL ret).before a0 Z = true) (wz : (Cond.initialized y.cls).before a0 Z = true) (hf : rm.frames + 1 ≤ R.frames) (hl : W + (maxL + 11) + rm.locals ≤ R.locals) (hEL : EW Z a0 EL) (H : CHv Z EL vm0 h) (hsf : ∀ x ∈ sf, Safe Z EL vm0 h x) (hlt : ∀ x ∈ sf, x < h.size) :
    BackS l R p e below (s.setVm vm0) args y len W (fun A a => a = as' ∧ A.U.heap = h ∧ A.cells + rm.cells ≤ R.cells ∧ A.slots + rm.slots ≤ R.slots)
      (fun A _ v B => ∃ L, Q v B.U.heap L ∧ B.locs = A.locs ++ L ∧ B.cells = A.cells + rm.cells ∧ B.slots = A.slots + rm.slots ∧ CHr Z EL vm0 h B.U.vm B.U.heap) :=
  BackS.of_freeW (bytes := bytes) (maxL := maxL) (ret := ret) (E := fun _ first o t L k n => k = rm.cells ∧ n = rm.slots ∧ (∃ v, o = .returned v ∧ Q v t.heap L) ∧ CHr Z EL first.vm first.heap t.vm t.heap) (hM []) hf hl
    (fun m meth c A a Y hp => have hU : Z.Warmed39 A.U.vm := wtrans (s := s.setVm vm0) hZ Y.warmed
      ⟨by show (Cond.and _ .tt).before a A.U = true; rw [Cond.before_and, mv hU wc]; rfl, mv hU wc, mv hU wz, hp.2.2.1, hp.2.2.2⟩)
    (fun m meth c A a g mk Y hp => ⟨hp.1, wtrans (s := s.setVm vm0) hZ Y.warmed, hp.2.1, (CHv.at Y hZ hEL H).1, fun x hx => (CHv.at Y hZ hEL H).safe (hlt x hx) (hsf x hx)⟩) (fun _ _ _ _ _ _ _ _ _ => trivial)
    (fun _ _ _ _ ⟨v, L, h1, h2, h3, h4⟩ => ⟨L, _, _, h4, rfl, rfl, ⟨v, h1, h2⟩, h3⟩)
    (fun m meth c A a g mk v t L k n Y hp _ _ ⟨e1, e2, ⟨v', e3, e4⟩, e5⟩ => by
      cases e3; subst e1 e2
      refine ⟨L, e4, rfl, rfl, rfl, (CHv.at Y hZ hEL H).trans ?_⟩
      rw [← hp.2.1]; exact e5)
/-- a String constant is loaded: its text is known -/
theorem own_ldcH (X : Stand p l e R s' m args below meth c T locs cells slots) (B : own_FrH Z EL s s' h) (hx : p.tables.exec = Jvm.exec) (hZ : Z.Warmed39 s'.vm) (hEL : EW Z a0 EL) {own text : String} {index : Nat} (hown : s'.vm.findClass own = some m.cls) (hmem : (own, index) ∈ EL)
    (w : (Cond.stringLink own index text).before a0 Z = true) (wS : ∀ a ∈ Bundle.stringAtoms, a.before a0 Z = true) (eT : T.heap = h) {vs : List Value} {z : Int32} (ht : (∀ c ∈ text.toList, c.toNat < 256) ∧ text.toList.map (fun c => Value.int (Jvm.Lit.byteI c.toNat.toUInt16)) = vs) (hz : ¬ z < 0) (hl' : z.toNatClampNeg = vs.length)
    {pc : Nat} {ls : Array Slot} {st : List Value} (hd : decode c.code pc = .ok (.ldc index, 2)) {n : Nat} (hn : 4 * text.toList.length ≤ n) (hbig : n ≤ 536870912) (hc : cells + 2 ≤ R.cells) (hl : slots + (n + 4) ≤ R.slots)
    (k : ∀ (s'' : State) (a b : Addr) (kk : ClassId) (T' : State) (h' : Heap), Stand p l e R s'' m args below meth c T' locs (cells + 2) (slots + (n + 4)) → own_FrH Z EL s s'' h' → Z.Warmed39 s''.vm → s''.vm.findClass own = some m.cls → T'.heap = h' → Ext h h' →
      Exa Z h' a "java/lang/String" → Fld Z h' a "java/lang/String" "coder" "B" (.int 0) → Fld Z h' a "java/lang/String" "value" "[B" (.ref b) → Arv Z h' b kk .byte z vs (.int 0) → (∀ x, x < h.size → Safe Z EL s'.vm h x → Safe Z EL s''.vm h' x ∧ x ≠ a ∧ x ≠ b) → OwnOk p e below K (T'.setTop (mkF m (pc + 2) ls (.ref a :: st)))) :
    OwnOk p e below K (T.setTop (mkF m pc ls st)) := by
  obtain ⟨vm0, k0, rfl, hS, hk, hC⟩ := B
  obtain ⟨a, T', h', k1, b, kk, X', e', E, hS', hk', hZ', hown', q1, q2, q3, q4, q5, q6, hC', hL, hne, st'⟩ := ldcCH X hx hZ hown w wS eT hS hk hEL hmem hC.1 ht hz hl' (g := mkF m pc ls st) rfl hd hn hbig hc hl
  exact own_up st' (k _ a b kk T' h' X' ⟨_, _, rfl, hS', hk', hC.trans hC'⟩ hZ' hown' e' E q1 q2 q3 q4 (fun x hx S => have q := hC'.safe hx S; ⟨q, hne x q⟩))
theorem own_callSH (X : Stand p l e R s' m args below meth c T locs cells slots) (B : own_FrH Z EL s s' h) (hEL : EW Z a0 EL) {sf : List Addr} (hsf : ∀ x ∈ sf, Safe Z EL s'.vm h x) (hlt : ∀ x ∈ sf, x < h.size) (hx : p.tables.exec = Jvm.exec) (hZ : Z.Warmed39 s'.vm) {own : String} {index : Nat} {y : MethodName} {bytes : ByteArray} {maxL : Nat} {ret : Option FieldType}
    (hown : s'.vm.findClass own = some m.cls) (w1 : (Cond.methodLink own index y).before a0 Z = true) (w2 : (Cond.static y).before a0 Z = true) (w3 : (Cond.initialized y.cls).before a0 Z = true) (w4 : (Cond.code y bytes maxL ret).before a0 Z = true)
    (hy : y.cls ≠ "java/lang/invoke/MethodHandle" ∧ y.cls ≠ "java/lang/invoke/VarHandle") {rm : Room} {as' : Array Value} {Q' : Option Value → Heap → List Loc → Prop} (hM : own_MetH l Z EL sf y bytes maxL ret rm as' h Q') (eT : T.heap = h)
    {pc W : Nat} {ls : Array Slot} {st argsL rest : List Value} (hsize : ls.size = c.maxLocals) (hlen : ∀ sig, parseMethodDescriptor y.desc = some sig → argsL.length = sig.parameters.length) (has : argsL.toArray = as') (hst : st = argsL.reverse ++ rest)
    (hW : (rest.map fun v => v.category).sum = W) (hd : decode c.code pc = .ok (.invokestatic index, 3)) (hf : rm.frames + 1 ≤ R.frames) (hl : W + (maxL + 11) + rm.locals ≤ R.locals) (hc : cells + rm.cells ≤ R.cells) (hs : slots + rm.slots ≤ R.slots)
    (k : ∀ (s'' T' : State) (v : Option Value) (L : List Loc), Stand p l e R s'' m args below meth c T' (locs ++ L) (cells + rm.cells) (slots + rm.slots) → own_FrH Z EL s s'' T'.heap → Z.Warmed39 s''.vm → s''.vm.findClass own = some m.cls → Q' v T'.heap L → (∀ x, x < h.size → Safe Z EL s'.vm h x → Safe Z EL s''.vm T'.heap x) → OwnOk p e below K (T'.setTop (mkF m (pc + 3) ls (v.toList ++ rest)))) :
    OwnOk p e below K (T.setTop (mkF m pc ls st)) := by
  obtain ⟨vm0, k0, rfl, hS, hk, hC⟩ := B
  obtain ⟨v, _, ⟨T2, L2, k2, n2⟩, -, X2, hS2, hgr, ⟨Lc, hQ, l2, y2, z2, hC'⟩, st2⟩ := callSS X hx hown (mvT hZ w1) (mvT hZ w2) (mvT hZ w3) (mvT hZ w4) hy (own_backH (W := W) hM hZ w4 w3 hf hl hEL hC.1 hsf hlt)
    (g := mkF m pc ls st) rfl hsize (argsL := argsL) (rest := rest) hlen hst (by show 2 * 0 + _ ≤ _; rw [hW]; omega) hd (fun _ _ => ⟨has, eT, hc, hs⟩)
  dsimp only [Pt.U, Pt.locs, Pt.cells, Pt.slots] at X2 l2 y2 z2 st2 hQ hS2 hgr hC'
  subst l2 y2 z2
  exact own_to st2 (k _ _ _ _ X2 ⟨T2.vm, T2.heap.size, rfl, hS.trans hS2 (Nat.le_trans hk (eT ▸ hgr)), Nat.le_refl _, hC.trans hC'⟩ (State.Warmed39.trans (t := s.setVm vm0) hZ hS2.1) (by show T2.vm.findClass own = _; rw [hS2.1.alike.findClass]; exact hown) hQ (fun x hx S => hC'.safe hx S))
theorem own_callCH (X : Stand p l e R s' m args below meth c T locs cells slots) (B : own_FrH Z EL s s' h) (hEL : EW Z a0 EL) {sf : List Addr} (hsf : ∀ x ∈ sf, Safe Z EL s'.vm h x) (hlt : ∀ x ∈ sf, x < h.size) (hx : p.tables.exec = Jvm.exec) (hZ : Z.Warmed39 s'.vm) {own : String} {index : Nat} {y : MethodName} {bytes : ByteArray} {maxL : Nat} (hy1 : y.name = "<init>")
    (hown : s'.vm.findClass own = some m.cls) (w1 : (Cond.methodLink own index y).before a0 Z = true) (w2 : (Cond.instanceMethod y).before a0 Z = true) (w3 : (Cond.initialized y.cls).before a0 Z = true) (w4 : (Cond.code y bytes maxL none).before a0 Z = true)
    (hy : y.cls ≠ "java/lang/invoke/MethodHandle" ∧ y.cls ≠ "java/lang/invoke/VarHandle") {rm : Room} {as' : Array Value} {Q' : Option Value → Heap → List Loc → Prop} (hM : own_MetH l Z EL sf y bytes maxL none rm as' h Q') (eT : T.heap = h)
    {pc W : Nat} {ls : Array Slot} {a : Addr} {st argsL rest : List Value} (hsize : ls.size = c.maxLocals) (hlen : ∀ sig, parseMethodDescriptor y.desc = some sig → argsL.length = sig.parameters.length) (has : (Value.ref a :: argsL).toArray = as') (hst : st = argsL.reverse ++ .ref a :: rest)
    (hW : (rest.map fun v => v.category).sum = W) (hd : decode c.code pc = .ok (.invokespecial index, 3)) (hf : rm.frames + 1 ≤ R.frames) (hl : W + (maxL + 11) + rm.locals ≤ R.locals) (hc : cells + rm.cells ≤ R.cells) (hs : slots + rm.slots ≤ R.slots)
    (k : ∀ (s'' T' : State) (v : Option Value) (L : List Loc), Stand p l e R s'' m args below meth c T' (locs ++ L) (cells + rm.cells) (slots + rm.slots) → own_FrH Z EL s s'' T'.heap → Z.Warmed39 s''.vm → s''.vm.findClass own = some m.cls → Q' v T'.heap L → (∀ x, x < h.size → Safe Z EL s'.vm h x → Safe Z EL s''.vm T'.heap x) → OwnOk p e below K (T'.setTop (mkF m (pc + 3) ls (v.toList ++ rest)))) :
    OwnOk p e below K (T.setTop (mkF m pc ls st)) := by
  obtain ⟨vm0, k0, rfl, hS, hk, hC⟩ := B
  obtain ⟨v, _, ⟨T2, L2, k2, n2⟩, -, X2, hS2, hgr, ⟨Lc, hQ, l2, y2, z2, hC'⟩, st2⟩ := X.specialBackS hx hy1 hown (mvT hZ w1) (mvT hZ w2) (mvT hZ w4) hy (own_backH (W := W) hM hZ w4 w3 hf hl hEL hC.1 hsf hlt)
    (g := mkF m pc ls st) rfl hsize (Steps.refl _) (a := a) (argsL := argsL) (rest := rest) hlen hst (by show 2 * 0 + _ ≤ _; rw [hW]; omega) hd (fun _ _ => ⟨has, eT, hc, hs⟩)
  dsimp only [Pt.U, Pt.locs, Pt.cells, Pt.slots] at X2 l2 y2 z2 st2 hQ hS2 hgr hC'
  subst l2 y2 z2
  exact own_to st2 (k _ _ _ _ X2 ⟨T2.vm, T2.heap.size, rfl, hS.trans hS2 (Nat.le_trans hk (eT ▸ hgr)), Nat.le_refl _, hC.trans hC'⟩ (State.Warmed39.trans (t := s.setVm vm0) hZ hS2.1) (by show T2.vm.findClass own = _; rw [hS2.1.alike.findClass]; exact hown) hQ (fun x hx S => hC'.safe hx S))
theorem own_callVH (X : Stand p l e R s' m args below meth c T locs cells slots) (B : own_FrH Z EL s s' h) (hEL : EW Z a0 EL) {sf : List Addr} (hsf : ∀ x ∈ sf, Safe Z EL s'.vm h x) (hlt : ∀ x ∈ sf, x < h.size) (hx : p.tables.exec = Jvm.exec) (hZ : Z.Warmed39 s'.vm) {own C : String} {index : Nat} {y z : MethodName} {bytes : ByteArray} {maxL : Nat} {ret : Option FieldType}
    (hown : s'.vm.findClass own = some m.cls) (w1 : (Cond.methodLink own index y).before a0 Z = true) (w2 : (Cond.declares y).before a0 Z = true) (hnf : NotFace s' y) (w5 : (Cond.selects C y z).before a0 Z = true) (w6 : (Cond.instanceMethod z).before a0 Z = true) (w3 : (Cond.initialized z.cls).before a0 Z = true) (w4 : (Cond.code z bytes maxL ret).before a0 Z = true)
    (hy : y.cls ≠ "java/lang/invoke/MethodHandle" ∧ y.cls ≠ "java/lang/invoke/VarHandle") {rm : Room} {as' : Array Value} {Q' : Option Value → Heap → List Loc → Prop} (hM : own_MetH l Z EL sf z bytes maxL ret rm as' h Q') (eT : T.heap = h)
    {pc W : Nat} {ls : Array Slot} {a : Addr} {st argsL rest : List Value} (E : Exa Z h a C) (hsize : ls.size = c.maxLocals) (hlen : ∀ sig, parseMethodDescriptor y.desc = some sig → argsL.length = sig.parameters.length) (has : (Value.ref a :: argsL).toArray = as') (hst : st = argsL.reverse ++ .ref a :: rest)
    (hW : (rest.map fun v => v.category).sum = W) (hd : decode c.code pc = .ok (.invokevirtual index, 3)) (hf : rm.frames + 1 ≤ R.frames) (hl : W + (maxL + 11) + rm.locals ≤ R.locals) (hc : cells + rm.cells ≤ R.cells) (hs : slots + rm.slots ≤ R.slots)
    (k : ∀ (s'' T' : State) (v : Option Value) (L : List Loc), Stand p l e R s'' m args below meth c T' (locs ++ L) (cells + rm.cells) (slots + rm.slots) → own_FrH Z EL s s'' T'.heap → Z.Warmed39 s''.vm → s''.vm.findClass own = some m.cls → Q' v T'.heap L → (∀ x, x < h.size → Safe Z EL s'.vm h x → Safe Z EL s''.vm T'.heap x) → OwnOk p e below K (T'.setTop (mkF m (pc + 3) ls (v.toList ++ rest)))) :
    OwnOk p e below K (T.setTop (mkF m pc ls st)) := by
  obtain ⟨vm0, k0, rfl, hS, hk, hC⟩ := B
  obtain ⟨cq, kq, qa, qb, qc⟩ := isOf hZ eT E
  obtain ⟨v, _, ⟨T2, L2, k2, n2⟩, -, X2, hS2, hgr, ⟨Lc, hQ, l2, y2, z2, hC'⟩, st2⟩ := X.virtualBackS hx (y := y) (z := z) hown (mvT hZ w1) (mvT hZ w2) hnf (mvT hZ w5) (mvT hZ w6) hy (own_backH (W := W) hM hZ w4 w3 hf hl hEL hC.1 hsf hlt) qa qc
    (g := mkF m pc ls st) rfl hsize (Steps.refl _) (argsL := argsL) (rest := rest) hlen hst (by show 2 * 0 + _ ≤ _; rw [hW]; omega) hd (fun _ _ => ⟨has, eT, hc, hs⟩)
  dsimp only [Pt.U, Pt.locs, Pt.cells, Pt.slots] at X2 l2 y2 z2 st2 hQ hS2 hgr hC'
  subst l2 y2 z2
  exact own_to st2 (k _ _ _ _ X2 ⟨T2.vm, T2.heap.size, rfl, hS.trans hS2 (Nat.le_trans hk (eT ▸ hgr)), Nat.le_refl _, hC.trans hC'⟩ (State.Warmed39.trans (t := s.setVm vm0) hZ hS2.1) (by show T2.vm.findClass own = _; rw [hS2.1.alike.findClass]; exact hown) hQ (fun x hx S => hC'.safe hx S))
end OwnH
end Jvm.RoadKit
namespace Jvm.RoadKit
open Sem ClassFile Op Lib Jvm.Stand Jvm.Free Jvm.LawKit Jvm.Free.SBG
section OwnJ
variable {p : Program} {l : Launch} {e : Env} {R : Room} {s s' : State} {m : MethodId} {args : Array Value} {below : List Frame} {Z : State} {a0 : Array Value} {h : Heap} {W n0 : Nat}
/-- the j-th char of the decimal form of x, n = |x| -/
def own_dg (n : Nat) (x : Int32) (j : Nat) : Int32 := if j = 0 ∧ x < 0 then 45 else Int32.ofNat (48 + n / 10 ^ (SBG.digits n + GetChars.sgn x - 1 - j) % 10)
theorem own_dig_fits : ∀ d, d < 10 → fits .byte (.int (Int32.ofNat (48 + d))) = true := by decide
theorem own_dg_fits (n : Nat) (x : Int32) (j : Nat) : fits .byte (.int (own_dg n x j)) = true := by
  unfold own_dg
  split
  · rfl
  · exact own_dig_fits _ (Nat.mod_lt _ (by omega))
/-- Integer.stringSize -/
theorem own_ssBk (hZ : Z.Warmed39 s.vm) (wc : (Cond.code StrSize.ssN StrSize.ssB 4 (some .int)).before a0 Z = true) (wz : (Cond.initialized INT).before a0 Z = true) {x : Int32} {nn : Nat} (hn : nn ≤ 2 ^ 31) (hneg : (if x < 0 then x else -x) = negI nn) (hfr : 2 ≤ R.frames) (hlo : W + 55 ≤ R.locals) :
    own_Bk l R p e below s args StrSize.ssN 3 W #[.int x] h 0 0 (fun v h' L => v = some (.int (Int32.ofNat (SBG.digits nn + GetChars.sgn x))) ∧ Fr n0 L ∧ h' = h) := by
  refine Back.mono (StrSize.pays hfr hlo (mv hZ wc) (mv hZ wz)) (fun A a hp => ⟨by have := hp.2.2.1; omega, by have := hp.2.2.2; omega, x, hp.1⟩) (fun A a v B hp hq => ?_)
  obtain ⟨⟨q1, q2, q3, q4⟩, q5⟩ := hq
  refine ⟨[], ⟨?_, Fr.nil n0, by rw [q1]; exact hp.2.1⟩, by rw [q2, List.append_nil], q3, q4⟩
  rw [q5 x hp.1, strSizeOf_eq hn hneg]
/-- Integer.getChars -/
theorem own_gcBk (hZ : Z.Warmed39 s.vm) (wc : (Cond.code GetChars.gcN GetChars.gcB 7 (some .int)).before a0 Z = true) (wf1 : (Cond.fieldLink INT 83 INT "DigitOnes" "[B").before a0 Z = true) (wf2 : (Cond.fieldLink INT 87 INT "DigitTens" "[B").before a0 Z = true) (wz : (Cond.initialized INT).before a0 Z = true)
    (wl1 : (Cond.laysStatic INT "DigitOnes" "[B").before a0 Z = true) (wl2 : (Cond.laysStatic INT "DigitTens" "[B").before a0 Z = true) {d1 d2 t : Addr} {k1 k2 k : ClassId} {N : Int32} {cap idx nn : Nat} {f : Nat → Int32} {x : Int32}
    (S1 : Sta Z h INT "DigitOnes" "[B" (.ref d1)) (S2 : Sta Z h INT "DigitTens" "[B" (.ref d2)) (V1 : Arv Z h d1 k1 .byte (Int32.ofNat 100) (own_F 100 fun r => Int32.ofNat (48 + r % 10)) (.int 0)) (V2 : Arv Z h d2 k2 .byte (Int32.ofNat 100) (own_F 100 fun r => Int32.ofNat (48 + r / 10)) (.int 0))
    (V : Arv Z h t k .byte N (own_F cap f) (.int 0)) (hN : N = Int32.ofNat cap) (hcap : cap < 2147483648) (hn : nn ≤ 2 ^ 31) (hneg : (if x < 0 then x else -x) = negI nn) (hidx : idx ≤ cap) (hsz : SBG.digits nn + GetChars.sgn x ≤ idx) (ht1 : t ≠ d1) (ht2 : t ≠ d2) (ge : n0 ≤ t)
    (hfr : 2 ≤ R.frames) (hlo : W + 78 ≤ R.locals) :
    own_Bk l R p e below s args GetChars.gcN 3 W #[.int x, .int (Int32.ofNat idx), .ref t] h 0 0 (fun v h' L => (∃ z, v = some (.int z)) ∧ Fr n0 L ∧ Keep h h' [t] ∧ Arv Z h' t k .byte N (own_F cap fun q => if idx - (SBG.digits nn + GetChars.sgn x) ≤ q ∧ q < idx then own_dg nn x (q - (idx - (SBG.digits nn + GetChars.sgn x))) else f q) (.int 0)) := by
  intro m meth c P g ig mk a X hg hsize hdg hW hnm hp'
  obtain ⟨rfl, hh, r1, r2⟩ := hp'
  have al : Z.vm.Alike P.U.vm := hZ.alike.trans X.warmed.alike
  obtain ⟨D1, A1, -, z1, -, H1, -⟩ := V1
  obtain ⟨D2, A2, -, z2, -, H2, -⟩ := V2
  obtain ⟨C, A, qc, zc, Nn, Hs, Gf⟩ := V
  subst hN
  rw [own_cl _ hcap] at zc
  rw [own_cl 100 (by omega)] at z1 z2
  obtain ⟨cf1, i1, kk1, f1, st1, cell1, a1, a2, a3, a4, a5, a6, a7⟩ := S1
  obtain ⟨cf2, i2, kk2, f2, st2, cell2, b1, b2, b3, b4, b5, b6, b7⟩ := S2
  obtain ⟨c1, y1, j1, g1, e1, ce1, u1, u2, -⟩ := Cond.laysStatic_spec wl1
  obtain ⟨c2, y2, j2, g2, e2, ce2, v1, v2, -⟩ := Cond.laysStatic_spec wl2
  cases u1.symm.trans v1
  cases a1.symm.trans u2
  cases b1.symm.trans v2
  have hk := State.fieldFound?_class a1
  have hk2 := State.fieldFound?_class b1
  cases hk.symm.trans hk2
  cases a4.symm.trans b4
  have T1 : Tbl P.U "DigitOnes" st1 d1 D1 := by
    obtain ⟨k', w1, w2⟩ := State.fieldFound?_setVm (s := Z) al a1
    have w1' : P.U.fieldFound? INT "DigitOnes" "[B" = some (cf1, k', i1, f1) := w1
    refine ⟨cf1, i1, k', f1, cell1, w1', a2, by rw [w2]; exact a3, by rw [w2]; exact a4, by rw [hh]; exact a5, (fun q => by rw [q] at a6; cases a6), a7, by rw [hh]; exact A1.1, State.isArrayOf_alike al A1.2.1, A1.2.2, z1, fun r hr => ?_⟩
    have q := H1 r (by rw [z1]; exact hr)
    rw [own_F_at hr] at q
    rw [q]
    simp [iAt, Array.getD_eq_getD_getElem?, q]
  have T2 : Tbl P.U "DigitTens" st1 d2 D2 := by
    obtain ⟨k', w1, w2⟩ := State.fieldFound?_setVm (s := Z) al b1
    have w1' : P.U.fieldFound? INT "DigitTens" "[B" = some (cf1, k', i2, f2) := w1
    refine ⟨cf1, i2, k', f2, cell2, w1', b2, by rw [w2]; exact b3, by rw [w2]; exact b4, by rw [hh]; exact b5, (fun q => by rw [q] at b6; cases b6), b7, by rw [hh]; exact A2.1, State.isArrayOf_alike al A2.2.1, A2.2.2, z2, fun r hr => ?_⟩
    have q := H2 r (by rw [z2]; exact hr)
    rw [own_F_at hr] at q
    rw [q]
    simp [iAt, Array.getD_eq_getD_getElem?, q]
  have O1 : Ones D1 := fun r hr => by
    have q := H1 r (by rw [z1]; exact hr)
    rw [own_F_at hr] at q
    simp [iAt, Array.getD_eq_getD_getElem?, q]
  have O2 : Tens D2 := fun r hr => by
    have q := H2 r (by rw [z2]; exact hr)
    rw [own_F_at hr] at q
    simp [iAt, Array.getD_eq_getD_getElem?, q]
  have hst : t ≠ st1 := fun q => by
    subst q
    cases A.1.symm.trans a5
    rw [A.plain] at a6; cases a6
  let gg : GetChars.G := ⟨x, nn, idx, t, C, st1, d1, D1, d2, D2⟩
  have htab : GetChars.tab.before args s = true := by
    simp only [GetChars.tab, Cond.before_and, Bool.and_eq_true]
    exact ⟨mv hZ wc, mv hZ wf1, mv hZ wf2⟩
  obtain ⟨v, B, X', ⟨hv, hout, hc, hs, hsz', hkp, L, hL, hLb⟩, st⟩ := GetChars.pays gg W htab (mv hZ wz) hfr hlo m meth c P g ig mk _ X hg hsize hdg hW hnm
    ⟨rfl, by omega, by omega, rfl, by show P.U.heap[t]? = _; rw [hh]; exact A.1, State.isArrayOf_alike al A.2.1, A.2.2, by show C.slots.size < 2 ^ 31; rw [zc]; exact hcap, by show idx ≤ C.slots.size; rw [zc]; exact hidx, hsz, hn, hneg, T1, T2, hst, ht1, ht2⟩
  obtain ⟨o1, o2, o3⟩ := outCell_at gg O1 O2 hn hsz (by show idx ≤ C.slots.size; rw [zc]; exact hidx)
  have osz : (GetChars.outCell gg).slots.size = cap := by
    have q := digLoop_facts D1 D2 5 C nn idx
    show (if x < 0 then put (digLoop D1 D2 5 C nn idx).1 ((digLoop D1 D2 5 C nn idx).2 - 1) 45 else (digLoop D1 D2 5 C nn idx).1).slots.size = cap
    split
    · rw [(put_facts _ _ _).2.2, q.2.2.1, zc]
    · rw [q.2.2.1, zc]
  have ocl : (GetChars.outCell gg).cls = C.cls ∧ (GetChars.outCell gg).vm = C.vm := by
    have q := digLoop_facts D1 D2 5 C nn idx
    show (if x < 0 then put (digLoop D1 D2 5 C nn idx).1 ((digLoop D1 D2 5 C nn idx).2 - 1) 45 else (digLoop D1 D2 5 C nn idx).1).cls = C.cls ∧ (if x < 0 then put (digLoop D1 D2 5 C nn idx).1 ((digLoop D1 D2 5 C nn idx).2 - 1) 45 else (digLoop D1 D2 5 C nn idx).1).vm = C.vm
    split
    · exact ⟨((put_facts _ _ _).1).trans q.1, ((put_facts _ _ _).2.1).trans q.2.1⟩
    · exact ⟨q.1, q.2.1⟩
  have hdp := SBG.digits_pos nn
  have sg : GetChars.sgn x = if x < 0 then 1 else 0 := rfl
  have all : ∀ j, j < cap → (GetChars.outCell gg).slots[j]? = some (.int (if idx - (SBG.digits nn + GetChars.sgn x) ≤ j ∧ j < idx then own_dg nn x (j - (idx - (SBG.digits nn + GetChars.sgn x))) else f j)) := fun j hj => by
    by_cases hin : idx - (SBG.digits nn + GetChars.sgn x) ≤ j ∧ j < idx
    · rw [if_pos hin]
      unfold own_dg
      by_cases hneg0 : j - (idx - (SBG.digits nn + GetChars.sgn x)) = 0 ∧ x < 0
      · rw [if_pos hneg0]
        have q := o2 hneg0.2
        rw [if_pos hneg0.2] at sg
        have e1 : j = idx - SBG.digits nn - 1 := by have := hneg0.1; omega
        rw [e1]; exact q
      · rw [if_neg hneg0]
        by_cases hx : x < 0
        · rw [if_pos hx] at sg
          have hj0 : j - (idx - (SBG.digits nn + GetChars.sgn x)) ≠ 0 := fun q => hneg0 ⟨q, hx⟩
          have q := o1 (idx - 1 - j) (by show idx - 1 - j < SBG.digits nn; omega)
          have e1 : gg.idx - 1 - (idx - 1 - j) = j := by show idx - 1 - (idx - 1 - j) = j; omega
          rw [e1] at q
          rw [q]
          have e2 : SBG.digits nn + GetChars.sgn x - 1 - (j - (idx - (SBG.digits nn + GetChars.sgn x))) = idx - 1 - j := by omega
          rw [e2]
        · rw [if_neg hx] at sg
          have q := o1 (idx - 1 - j) (by show idx - 1 - j < SBG.digits nn; omega)
          have e1 : gg.idx - 1 - (idx - 1 - j) = j := by show idx - 1 - (idx - 1 - j) = j; omega
          rw [e1] at q
          rw [q]
          have e2 : SBG.digits nn + GetChars.sgn x - 1 - (j - (idx - (SBG.digits nn + GetChars.sgn x))) = idx - 1 - j := by omega
          rw [e2]
    · rw [if_neg hin, o3 j (by show j < idx - (SBG.digits nn + GetChars.sgn x) ∨ idx ≤ j; omega)]
      have q := Hs j (by rw [zc]; exact hj)
      rw [own_F_at hj] at q
      exact q
  refine ⟨v, B, X', ⟨L, ⟨⟨_, hv⟩, fun w hw => by rw [hLb w hw]; exact ge, ⟨?_, ?_, ?_⟩, ?_⟩, hL, hc, hs⟩, st⟩
  · rw [hsz', hh]; exact Nat.le_refl _
  · intro y cy hy hne
    exact hkp y cy (fun q => hne (by rw [q]; exact List.mem_singleton.mpr rfl)) (by rw [hh]; exact hy)
  · intro y cy hy
    by_cases q : y = t
    · subst q
      cases A.1.symm.trans hy
      exact ⟨_, hout, ocl.1, ocl.2, by rw [osz, zc]⟩
    · exact ⟨cy, hkp y cy q (by rw [hh]; exact hy), rfl, rfl, rfl⟩
  · refine ⟨GetChars.outCell gg, ⟨hout, ?_, by rw [ocl.2]; exact A.2.2⟩, ocl.1.trans qc, by rw [osz, own_cl _ hcap], Nn, fun j hj => ?_, fun j hj => ?_⟩
    · obtain ⟨w1, w2, w3, w4, w5⟩ := A.2.1
      exact ⟨by rw [ocl.2]; exact w1, w2, by rw [ocl.1]; exact w3, w4, w5⟩
    · rw [osz] at hj
      rw [own_F_at hj]; exact all j hj
    · rw [osz] at hj
      rw [own_F_at hj]
      split
      · exact own_dg_fits _ _ _
      · have q := Gf j (by rw [zc]; exact hj)
        rw [own_F_at hj] at q
        exact q
end OwnJ
end Jvm.RoadKit
namespace Jvm.RoadKit
open Sem ClassFile Op Lib Jvm.Stand Jvm.Free Jvm.LawKit Jvm.Free.SBG
section OwnT
variable {Z : State} {a0 : Array Value}
/-- one of Integer's digit tables, from the sheet's words -/
theorem own_tab {name : String} {rhs : Term} {F : Nat → Nat} (w1 : (Cond.initializedFor INT name "[B").before a0 Z = true) (w2 : (Cond.exactly (Term.static INT name "[B") "[B").before a0 Z = true)
    (w3 : (Cond.eq (.length (.static INT name "[B")) (.int 100)).before a0 Z = true) (wa : (Cond.arrayClass .byte).before a0 Z = true) (w4 : (Cond.all (.static INT name "[B") (.eq (.elem (.static INT name "[B") (.index 0)) rhs)).before a0 Z = true)
    (hrhs : ∀ r, r < 100 → rhs.eval a0 Z none [r] Z = some (.int (Int32.ofNat (F r)))) (hF : ∀ r, r < 100 → fits .byte (.int (Int32.ofNat (F r))) = true) :
    ∃ (d : Addr) (k : ClassId), Sta Z Z.heap INT name "[B" (.ref d) ∧ Arv Z Z.heap d k .byte (Int32.ofNat 100) (own_F 100 fun r => Int32.ofNat (F r)) (.int 0) ∧ d < Z.heap.size := by
  obtain ⟨d, cB, D, kB, hev, hfcB, hcellD, hkB, hstatD, hclsD, -⟩ := Cond.exactly_spec w2
  have hevAll : ∀ idx, (Term.static INT name "[B").eval a0 Z none idx Z = some (.ref d) := fun idx => by
    have : (Term.static INT name "[B").eval a0 Z none idx Z = (Term.static INT name "[B").eval a0 Z none [] Z := by simp only [Term.eval]
    rw [this]; exact hev
  have hl := Cond.eq_int w3 rfl
  obtain ⟨d', D', hev', harrAt, hlen⟩ := Term.length_spec hl
  cases hev.symm.trans hev'
  obtain ⟨hcellD', hknD, -, -⟩ := State.arrayAt?_spec harrAt
  cases hcellD.symm.trans hcellD'
  have h31 := length_lt hev harrAt hl
  have hsz : D.slots.size = 100 := by
    have h2 : Int32.ofNat D.slots.size = Int32.ofNat 100 := (Value.int.inj hlen).symm
    have := congrArg Int32.toInt h2
    rw [Int32.toInt_ofNat_small h31, Int32.toInt_ofNat_small (by omega)] at this; omega
  obtain ⟨cB', kB', comp, hnameB, hkB', hkindB⟩ := Cond.arrayClass_spec wa
  have eBA : ("[" ++ FieldType.toString .byte) = "[B" := by decide
  rw [eBA] at hnameB
  cases hfcB.symm.trans hnameB
  cases hkB.symm.trans hkB'
  have hat : ∀ r, r < 100 → D.slots[r]? = some (.int (Int32.ofNat (F r))) := fun r hr => by
    have q := Cond.all_elim (hevAll []) harrAt (Cond.before_iff.mp w4) r (by omega)
    have eL : (Term.elem (Term.static INT name "[B") (.index 0)).eval a0 Z none [r] Z = D.slots[r]? := elem_at (ix := .index 0) (hevAll [r]) harrAt (by omega) (by omega) rfl
    obtain ⟨x, y, h1, h2, h3, h4⟩ := cmp_v (Or.inl q)
    have e2 : y = .int (Int32.ofNat (F r)) := Option.some.inj (h2.symm.trans (hrhs r hr))
    subst e2
    obtain ⟨w, rfl⟩ := h4
    rw [Cond.eq_ints h1 h2] at q
    have hw : w = Int32.ofNat (F r) := of_decide_eq_true (Option.some.inj q)
    rw [← eL, h1, hw]
  refine ⟨d, D.cls, Sta.start hev (Or.inl w1), ⟨D, ⟨hcellD, ⟨(fun q h => by rw [h] at hstatD; cases hstatD), kB, (by rw [hclsD]; exact hkB), comp, hkindB⟩, hknD⟩, rfl, by rw [hsz]; rfl, by decide, fun j hj => ?_, fun j hj => ?_⟩, (Array.getElem?_eq_some_iff.mp hcellD).1⟩
  · rw [own_F_at (by omega)]; exact hat j (by omega)
  · rw [own_F_at (by omega)]; exact hF j (by omega)
theorem own_onesF : ∀ r, r < 100 → fits .byte (.int (Int32.ofNat (48 + r % 10))) = true := by decide +kernel
theorem own_tensF : ∀ r, r < 100 → fits .byte (.int (Int32.ofNat (48 + r / 10))) = true := by decide +kernel
/-- the two tables -/
theorem own_tabs (w : ∀ d ∈ [Cond.laysStatic INT "DigitOnes" "[B", Cond.initializedFor INT "DigitOnes" "[B", Cond.exactly (Term.static INT "DigitOnes" "[B") "[B", Cond.eq (.length (.static INT "DigitOnes" "[B")) (.int 100),
      Cond.all (.static INT "DigitOnes" "[B") (.eq (.elem (.static INT "DigitOnes" "[B") (.index 0)) (.add (.int 48) (.rem (.index 0) (.int 10)))),
      Cond.laysStatic INT "DigitTens" "[B", Cond.initializedFor INT "DigitTens" "[B", Cond.exactly (Term.static INT "DigitTens" "[B") "[B", Cond.eq (.length (.static INT "DigitTens" "[B")) (.int 100),
      Cond.all (.static INT "DigitTens" "[B") (.eq (.elem (.static INT "DigitTens" "[B") (.index 0)) (.add (.int 48) (.div (.index 0) (.int 10))))], d.before a0 Z = true) (wa : (Cond.arrayClass .byte).before a0 Z = true) :
    ∃ (d1 d2 : Addr) (k1 k2 : ClassId), Sta Z Z.heap INT "DigitOnes" "[B" (.ref d1) ∧ Sta Z Z.heap INT "DigitTens" "[B" (.ref d2) ∧ Arv Z Z.heap d1 k1 .byte (Int32.ofNat 100) (own_F 100 fun r => Int32.ofNat (48 + r % 10)) (.int 0) ∧ Arv Z Z.heap d2 k2 .byte (Int32.ofNat 100) (own_F 100 fun r => Int32.ofNat (48 + r / 10)) (.int 0) ∧
      (Cond.laysStatic INT "DigitOnes" "[B").before a0 Z = true ∧ (Cond.laysStatic INT "DigitTens" "[B").before a0 Z = true ∧ d1 < Z.heap.size ∧ d2 < Z.heap.size := by
  have q := fun i d (hi : _) => w d (List.mem_of_getElem? (i := i) hi)
  obtain ⟨d1, k1, a1, a2, a3⟩ := own_tab (F := fun r => 48 + r % 10) (q 1 _ rfl) (q 2 _ rfl) (q 3 _ rfl) wa (q 4 _ rfl) (fun r hr => by rw [← ones_num r hr]; rfl) own_onesF
  obtain ⟨d2, k2, b1, b2, b3⟩ := own_tab (F := fun r => 48 + r / 10) (q 6 _ rfl) (q 7 _ rfl) (q 8 _ rfl) wa (q 9 _ rfl) (fun r hr => by rw [← tens_num r hr]; rfl) own_tensF
  exact ⟨d1, d2, k1, k2, a1, b1, a2, b2, q 0 _ rfl, q 5 _ rfl, a3, b3⟩
/-- |x| -/
def own_ab (x : Int32) : Nat := x.toInt.natAbs
theorem own_ab_le (x : Int32) : own_ab x ≤ 2 ^ 31 := by
  have h1 := Int32.le_toInt x
  have h2 := Int32.toInt_lt x
  unfold own_ab; omega
theorem own_z32 : (0 : Int32).toInt = 0 := rfl
theorem own_z64 : (0 : Int64).toInt = 0 := rfl
theorem own_ab_neg (x : Int32) : (if x < 0 then x else -x) = negI (own_ab x) := by
  unfold negI own_ab
  by_cases h : x < 0
  · rw [if_pos h]
    rw [Int32.lt_iff_toInt_lt, own_z32] at h
    rw [show (-((x.toInt.natAbs : Nat) : Int)) = x.toInt by omega, Int32.ofInt_toInt]
  · rw [if_neg h]
    rw [Int32.lt_iff_toInt_lt, own_z32] at h
    rw [show (-((x.toInt.natAbs : Nat) : Int)) = -x.toInt by omega, Int32.ofInt_neg, Int32.ofInt_toInt]
theorem own_n64 {n : Nat} (h : n < 9223372036854775808) : (Int64.ofNat n).toInt = n := Int64.toInt_ofNat_of_lt h
theorem own_abJ (x : Int32) : (if x.toInt64 < 0 then -x.toInt64 else x.toInt64) = Int64.ofNat (own_ab x) := by
  have h1 := Int32.le_toInt x
  have h2 := Int32.toInt_lt x
  have e : x.toInt64.toInt = x.toInt := Int32.toInt_toInt64 x
  apply Int64.toInt_inj.mp
  rw [own_n64 (Nat.lt_of_le_of_lt (own_ab_le x) (by decide))]
  unfold own_ab
  by_cases h : x.toInt64 < 0
  · rw [if_pos h]
    rw [Int64.lt_iff_toInt_lt, own_z64, e] at h
    rw [Int64.toInt_neg, e, Int.bmod_eq_of_le (by omega) (by omega)]; omega
  · rw [if_neg h]
    rw [Int64.lt_iff_toInt_lt, own_z64, e] at h
    rw [e]; omega
theorem own_lt64 {n k : Nat} (hn : n < 9223372036854775808) (hk : k < 9223372036854775808) : Int64.ofNat n < Int64.ofNat k ↔ n < k := by
  rw [Int64.lt_iff_toInt_lt, own_n64 hn, own_n64 hk]; omega
theorem own_div64 {n k : Nat} (hn : n < 9223372036854775808) (hk : k < 9223372036854775808) : Int64.ofNat n / Int64.ofNat k = Int64.ofNat (n / k) := by
  have q : n / k ≤ n := Nat.div_le_self n k
  have q0 : (0 : Int) ≤ ((n / k : Nat) : Int) := Int.natCast_nonneg _
  apply Int64.toInt_inj.mp
  rw [Int64.toInt_div, own_n64 hn, own_n64 hk, own_n64 (by omega), ← Int.ofNat_tdiv, Int.bmod_eq_of_le (by omega) (by omega)]
theorem own_mod64 {n k : Nat} (hn : n < 9223372036854775808) (hk : k < 9223372036854775808) : Int64.ofNat n % Int64.ofNat k = Int64.ofNat (n % k) := by
  have q : n % k ≤ n := Nat.mod_le n k
  apply Int64.toInt_inj.mp
  rw [Int64.toInt_mod, own_n64 hn, own_n64 hk, own_n64 (by omega), ← Int.ofNat_tmod]
theorem own_pow_lt : ∀ e, e ≤ 9 → 10 ^ e < 9223372036854775808 := by decide
theorem own_pow_nz : ∀ e, e ≤ 9 → ¬ Int64.ofNat (10 ^ e) = 0 := by decide +kernel
/-- a decimal digit's char, as the law makes it -/
theorem own_digC : ∀ d, d < 10 → nar .char (((48 : Int32) + (Int64.ofNat d).toInt32).toUInt32.toUInt16.toUInt32.toInt32) = Int32.ofNat (48 + d) := by decide +kernel
/-- a Latin-1 char, as String.charAt reads it -/
def own_c8 (v : Int32) : Int32 := nar .char ((v &&& (255 : Int32)).toUInt32.toUInt16.toUInt32.toInt32)
theorem own_c8_dig : ∀ d, d < 10 → own_c8 (Int32.ofNat (48 + d)) = Int32.ofNat (48 + d) := by decide +kernel
theorem own_ch_dig : ∀ d, d < 10 → nar .char (Int32.ofNat (48 + d)) = Int32.ofNat (48 + d) := by decide +kernel
theorem own_c8_dg (n : Nat) (x : Int32) (j : Nat) : own_c8 (own_dg n x j) = own_dg n x j := by
  unfold own_dg
  split
  · decide
  · exact own_c8_dig _ (Nat.mod_lt _ (by omega))
theorem own_ch_dg (n : Nat) (x : Int32) (j : Nat) : nar .char (own_dg n x j) = own_dg n x j := by
  unfold own_dg
  split
  · decide
  · exact own_ch_dig _ (Nat.mod_lt _ (by omega))
/-- the length of the decimal form -/
def own_sz (x : Int32) : Nat := SBG.digits (own_ab x) + GetChars.sgn x
theorem own_sz_le (x : Int32) : own_sz x ≤ 11 := by
  have := SBG.digits_pos (own_ab x)
  unfold own_sz GetChars.sgn
  split <;> omega
theorem own_sz_pos (x : Int32) : 1 ≤ own_sz x := by
  have := SBG.digits_pos (own_ab x)
  unfold own_sz; omega
theorem own_n32 {n : Nat} (h : n < 2147483648) : (Int32.ofNat n).toInt = n := toInt_of rfl h
theorem own_andN (x m : Int32) (b : Nat) (hm : m = Int32.ofNat (2 ^ b - 1)) (hb : b < 32) : ∃ k, k < 2 ^ b ∧ x &&& m = Int32.ofNat k := by
  refine ⟨x.toBitVec.toNat % 2 ^ b, Nat.mod_lt _ (Nat.two_pow_pos b), ?_⟩
  subst hm
  have q1 : 2 ^ b ≤ 2 ^ 31 := Nat.pow_le_pow_right (by decide) (by omega)
  have q2 : x.toBitVec.toNat % 2 ^ b < 2 ^ b := Nat.mod_lt _ (Nat.two_pow_pos b)
  apply Int32.toBitVec_inj.mp
  apply BitVec.eq_of_toNat_eq
  rw [Int32.toBitVec_and, BitVec.toNat_and]
  show x.toBitVec.toNat &&& (BitVec.ofNat 32 (2 ^ b - 1)).toNat = (BitVec.ofNat 32 (x.toBitVec.toNat % 2 ^ b)).toNat
  rw [BitVec.toNat_ofNat, BitVec.toNat_ofNat, Nat.mod_eq_of_lt (by omega), Nat.mod_eq_of_lt (by omega), Nat.and_two_pow_sub_one_eq_mod]
theorem own_mod32 {a n : Nat} (ha : a < 2147483648) (hn : n < 2147483648) : Int32.ofNat a % Int32.ofNat n = Int32.ofNat (a % n) := by
  have q : a % n ≤ a := Nat.mod_le a n
  apply Int32.toInt_inj.mp
  rw [Int32.toInt_mod, own_n32 ha, own_n32 hn, own_n32 (by omega), ← Int.ofNat_tmod]
theorem own_idx (k : Int32) (n : Nat) (h1 : 0 < n) (h2 : n < 2147483648) : ∃ i, i < n ∧ (k &&& (2147483647 : Int32)) % (Int32.ofNat n) = Int32.ofNat i := by
  obtain ⟨a, ha, e⟩ := own_andN k 2147483647 31 rfl (by decide)
  exact ⟨a % n, Nat.mod_lt _ h1, by rw [e, own_mod32 ha h2]⟩
theorem own_nar_char (v : Int32) : nar .char (nar .char v) = nar .char v := by
  apply Int32.toBitVec_inj.mp
  apply BitVec.eq_of_toNat_eq
  simp [nar]
theorem own_c8_idem (v : Int32) : nar .char (own_c8 v) = own_c8 v := own_nar_char _
end OwnT
end Jvm.RoadKit
namespace Jvm.RoadKit
open Sem ClassFile Op Lib Jvm.Stand Jvm.Free Jvm.LawKit Jvm.Free.SBG
section OwnS
variable {Z : State} {args : Array Value} {h : Heap}
theorem own_elI {t : Term} {a : Addr} {j z : Int32} (ev : t.eval args Z none [] Z = some (.ref a)) {cl : Cell} (hc : Z.heap[a]? = some cl) (w : (Cond.eq (.elem t (.int j)) (.int z)).value args Z none Z [] = some true) : cl.slots[j.toNatClampNeg]? = some (.int z) := by
  obtain ⟨x, y, h1, h2, h3, h4⟩ := cmp_v (Or.inl w)
  have e2 : y = .int z := by simpa [Term.eval] using h2.symm
  subst e2
  obtain ⟨u, rfl⟩ := h4
  rw [Cond.eq_ints h1 h2] at w
  have hu : u = z := of_decide_eq_true (Option.some.inj w)
  obtain ⟨cl', q1, q2, q3⟩ := Lib.elem_at h1 ev (Term.int_eval j)
  cases hc.symm.trans q1
  rw [← hu]; exact q3
theorem own_elR {t t2 : Term} {a b : Addr} {j : Int32} (ev : t.eval args Z none [] Z = some (.ref a)) (ev2 : t2.eval args Z none [] Z = some (.ref b)) {cl : Cell} (hc : Z.heap[a]? = some cl) (w : (Cond.eq (.elem t (.int j)) t2).value args Z none Z [] = some true) : cl.slots[j.toNatClampNeg]? = some (.ref b) := by
  obtain ⟨x, y, h1, h2, h3, h4⟩ := cmp_v (Or.inl w)
  have e2 : y = .ref b := Option.some.inj (h2.symm.trans ev2)
  subst e2
  have hx : x = .ref b := by
    rcases ref_cases h4.2 with rfl | ⟨u, rfl⟩
    · simp [Cond.value, h1, h2] at w
    · simpa [Cond.value, h1, h2] using w
  subst hx
  obtain ⟨cl', q1, q2, q3⟩ := Lib.elem_at h1 ev (Term.int_eval j)
  cases hc.symm.trans q1
  exact q3
/-- an array of the start whose places are named -/
theorem own_arr0 (hf : Fit Z) {t : Term} {ty : FieldType} {a : Addr} {n : Nat} {vs : List Value} {dv : Value} (ev : t.eval args Z none [] Z = some (.ref a)) (x3 : (Cond.arrayOf t ty).value args Z none Z [] = some true) (hn : n < 2147483648) (x4 : (Cond.eq (.length t) (.int (Int32.ofNat n))).value args Z none Z [] = some true) (hl : vs.length = n)
    (H : ∀ cl : Cell, Z.heap[a]? = some cl → HasL cl 0 vs) : ∃ k, Arv Z Z.heap a k ty (Int32.ofNat n) vs dv := by
  obtain ⟨cl, A⟩ := Arr.start ev x3
  obtain ⟨x, y, h1, h2, h3, h4⟩ := cmp_v (Or.inl x4)
  obtain ⟨a', D, hev', harrAt, hlen⟩ := Term.length_spec h1
  cases ev.symm.trans hev'
  have hc := (State.arrayAt?_spec harrAt).1
  cases A.1.symm.trans hc
  subst hlen
  have h31 := length_lt ev harrAt h1
  have e2 : y = .int (Int32.ofNat n) := by simpa [Term.eval] using h2.symm
  subst e2
  rw [Cond.eq_ints h1 h2] at x4
  exact ⟨_, Arv.start hf A h31 (of_decide_eq_true (Option.some.inj x4)) (own_nn n hn) (by rw [own_cl n hn, hl]) (H _ A.1)⟩
/-- a Latin-1 String of the start, five chars -/
theorem own_str5 (hf : Fit Z) {t : Term} {a : Addr} {c0 c1 c2 c3 c4 : Int32} (ev : t.eval args Z none [] Z = some (.ref a)) (x1 : (Cond.exactly t "java/lang/String").value args Z none Z [] = some true) (x2 : (Cond.eq (.field t "java/lang/String" "coder" "B") (.int 0)).value args Z none Z [] = some true)
    (x3 : (Cond.arrayOf (.field t "java/lang/String" "value" "[B") .byte).value args Z none Z [] = some true) (x4 : (Cond.eq (.length (.field t "java/lang/String" "value" "[B")) (.int 5)).value args Z none Z [] = some true)
    (y0 : (Cond.eq (.elem (.field t "java/lang/String" "value" "[B") (.int 0)) (.int c0)).value args Z none Z [] = some true) (y1 : (Cond.eq (.elem (.field t "java/lang/String" "value" "[B") (.int 1)) (.int c1)).value args Z none Z [] = some true) (y2 : (Cond.eq (.elem (.field t "java/lang/String" "value" "[B") (.int 2)) (.int c2)).value args Z none Z [] = some true)
    (y3 : (Cond.eq (.elem (.field t "java/lang/String" "value" "[B") (.int 3)) (.int c3)).value args Z none Z [] = some true) (y4 : (Cond.eq (.elem (.field t "java/lang/String" "value" "[B") (.int 4)) (.int c4)).value args Z none Z [] = some true) :
    ∃ (u : Addr) (ku : ClassId), Exa Z Z.heap a "java/lang/String" ∧ Fld Z Z.heap a "java/lang/String" "value" "[B" (.ref u) ∧ Fld Z Z.heap a "java/lang/String" "coder" "B" (.int (0 : Int32)) ∧ Arv Z Z.heap u ku .byte (Int32.ofNat 5) (own_F 5 (fun j => [c0, c1, c2, c3, c4].getD j 0)) (.int (0 : Int32)) := by
  obtain ⟨u, eu⟩ := arr_v x3
  have F : Fld Z Z.heap a "java/lang/String" "value" "[B" (.ref u) := Fld.start (by rw [← fld_at ev]; exact eu)
  obtain ⟨ku, V⟩ := own_arr0 (n := 5) (vs := [.int c0, .int c1, .int c2, .int c3, .int c4]) (dv := .int 0) hf eu x3 (by decide) x4 rfl (fun cl hc => ⟨own_elI eu hc y0, own_elI eu hc y1, own_elI eu hc y2, own_elI eu hc y3, own_elI eu hc y4, trivial⟩)
  exact ⟨u, ku, Exa.start ev x1, F, own_fldEq ev x2, V⟩
/-- the equality of two Latin-1 texts, one of them of five chars -/
def own_eqI (n1 : Nat) (f1 : Nat → Int32) (n2 : Nat) (f2 : Nat → Int32) : Int32 := if n1 = n2 ∧ f1 0 = f2 0 ∧ f1 1 = f2 1 ∧ f1 2 = f2 2 ∧ f1 3 = f2 3 ∧ f1 4 = f2 4 then 1 else 0
theorem own_eqI_1 {n1 n2 : Nat} {f1 f2 : Nat → Int32} (q : ¬ own_eqI n1 f1 n2 f2 = 0) : own_eqI n1 f1 n2 f2 = 1 := by
  unfold own_eqI at q ⊢
  split at q
  · next r => rw [if_pos r]
  · exact absurd rfl q
theorem own_eqI_symm (n1 n2 : Nat) (f1 f2 : Nat → Int32) : own_eqI n1 f1 n2 f2 = own_eqI n2 f2 n1 f1 := by
  have e : (n1 = n2 ∧ f1 0 = f2 0 ∧ f1 1 = f2 1 ∧ f1 2 = f2 2 ∧ f1 3 = f2 3 ∧ f1 4 = f2 4) ↔ (n2 = n1 ∧ f2 0 = f1 0 ∧ f2 1 = f1 1 ∧ f2 2 = f1 2 ∧ f2 3 = f1 3 ∧ f2 4 = f1 4) := ⟨fun ⟨a, b, c, d, e, f⟩ => ⟨a.symm, b.symm, c.symm, d.symm, e.symm, f.symm⟩, fun ⟨a, b, c, d, e, f⟩ => ⟨a.symm, b.symm, c.symm, d.symm, e.symm, f.symm⟩⟩
  unfold own_eqI
  by_cases q : n1 = n2 ∧ f1 0 = f2 0 ∧ f1 1 = f2 1 ∧ f1 2 = f2 2 ∧ f1 3 = f2 3 ∧ f1 4 = f2 4
  · rw [if_pos q, if_pos (e.mp q)]
  · rw [if_neg q, if_neg (fun r => q (e.mpr r))]
/-- one String, told twice -/
theorem own_alias {a u1 u2 : Addr} {k1 k2 : ClassId} {n1 n2 : Nat} {f1 f2 : Nat → Int32} (F1 : Fld Z h a "java/lang/String" "value" "[B" (.ref u1)) (F2 : Fld Z h a "java/lang/String" "value" "[B" (.ref u2)) (V1 : Arv Z h u1 k1 .byte (Int32.ofNat n1) (own_F n1 f1) (.int 0)) (V2 : Arv Z h u2 k2 .byte (Int32.ofNat n2) (own_F n2 f2) (.int 0))
    (b1 : n1 < 2147483648) (b2 : n2 < 2147483648) (h5 : n1 = 5 ∨ n2 = 5) : own_eqI n1 f1 n2 f2 = 1 := by
  have hu : u1 = u2 := Decidable.byContradiction fun q => Fld.ne F1 F2 (fun e => q (Value.ref.inj e)) rfl
  subst hu
  obtain ⟨cl, A, -, S1, -, H1, -⟩ := V1
  obtain ⟨cl', A', -, S2, -, H2, -⟩ := V2
  cases A.1.symm.trans A'.1
  rw [own_cl n1 b1] at S1
  rw [own_cl n2 b2] at S2
  have hn : n1 = n2 := S1.symm.trans S2
  have hn5 : n1 = 5 := by omega
  subst hn
  have key : ∀ j, j < n1 → f1 j = f2 j := fun j hj => by
    have q1 := H1 j (by omega)
    have q2 := H2 j (by omega)
    rw [own_F_at hj] at q1 q2
    exact Value.int.inj (Option.some.inj (q1.symm.trans q2))
  unfold own_eqI
  rw [if_pos ⟨rfl, key 0 (by omega), key 1 (by omega), key 2 (by omega), key 3 (by omega), key 4 (by omega)⟩]
end OwnS
end Jvm.RoadKit
namespace Jvm.Pilot.@@N@@
open Jvm Jvm.ClassFile Sem Op Lib Jvm.Free Jvm.Stand Jvm.LawKit Jvm.RoadKit Bundle Jvm.Pilot.@@N@@.Jvm.D
theorem d1_0 : decode method_3_code 0 = .ok (.aload_n 0, 1) := by decide +kernel
theorem d1_1 : decode method_3_code 1 = .ok (.ifnonnull 10, 3) := by decide +kernel
theorem d1_4 : decode method_3_code 4 = .ok (.iload_n 2, 1) := by decide +kernel
theorem d1_5 : decode method_3_code 5 = .ok (.sipush 255, 3) := by decide +kernel
theorem d1_8 : decode method_3_code 8 = .ok (.iand, 1) := by decide +kernel
theorem d1_9 : decode method_3_code 9 = .ok (.i2c, 1) := by decide +kernel
theorem d1_10 : decode method_3_code 10 = .ok (.ireturn, 1) := by decide +kernel
theorem d1_11 : decode method_3_code 11 = .ok (.aload_n 0, 1) := by decide +kernel
theorem d1_12 : decode method_3_code 12 = .ok (.iload_n 1, 1) := by decide +kernel
theorem d1_13 : decode method_3_code 13 = .ok (.invokevirtual 36, 3) := by decide +kernel
theorem d1_16 : decode method_3_code 16 = .ok (.ireturn, 1) := by decide +kernel
theorem d2_0 : decode jdk_42_method_56_code 0 = .ok (.aload_n 0, 1) := by decide +kernel
theorem d2_1 : decode jdk_42_method_56_code 1 = .ok (.invokevirtual 492, 3) := by decide +kernel
theorem d2_4 : decode jdk_42_method_56_code 4 = .ok (.ifCond .eq 12, 3) := by decide +kernel
theorem d2_7 : decode jdk_42_method_56_code 7 = .ok (.aload_n 0, 1) := by decide +kernel
theorem d2_8 : decode jdk_42_method_56_code 8 = .ok (.getfield 9, 3) := by decide +kernel
theorem d2_11 : decode jdk_42_method_56_code 11 = .ok (.iload_n 1, 1) := by decide +kernel
theorem d2_12 : decode jdk_42_method_56_code 12 = .ok (.invokestatic 495, 3) := by decide +kernel
theorem d2_15 : decode jdk_42_method_56_code 15 = .ok (.ireturn, 1) := by decide +kernel
theorem d3_0 : decode jdk_42_method_154_code 0 = .ok (.getstatic 38, 3) := by decide +kernel
theorem d3_3 : decode jdk_42_method_154_code 3 = .ok (.ifCond .eq 14, 3) := by decide +kernel
theorem d3_6 : decode jdk_42_method_154_code 6 = .ok (.aload_n 0, 1) := by decide +kernel
theorem d3_7 : decode jdk_42_method_154_code 7 = .ok (.getfield 15, 3) := by decide +kernel
theorem d3_10 : decode jdk_42_method_154_code 10 = .ok (.ifCond .ne 7, 3) := by decide +kernel
theorem d3_13 : decode jdk_42_method_154_code 13 = .ok (.iconst 1, 1) := by decide +kernel
theorem d3_14 : decode jdk_42_method_154_code 14 = .ok (.goto 4, 3) := by decide +kernel
theorem d3_18 : decode jdk_42_method_154_code 18 = .ok (.ireturn, 1) := by decide +kernel
theorem d4_0 : decode jdk_43_method_2_code 0 = .ok (.iload_n 1, 1) := by decide +kernel
theorem d4_1 : decode jdk_43_method_2_code 1 = .ok (.aload_n 0, 1) := by decide +kernel
theorem d4_2 : decode jdk_43_method_2_code 2 = .ok (.arraylength, 1) := by decide +kernel
theorem d4_3 : decode jdk_43_method_2_code 3 = .ok (.invokestatic 9, 3) := by decide +kernel
theorem d4_6 : decode jdk_43_method_2_code 6 = .ok (.aload_n 0, 1) := by decide +kernel
theorem d4_7 : decode jdk_43_method_2_code 7 = .ok (.iload_n 1, 1) := by decide +kernel
theorem d4_8 : decode jdk_43_method_2_code 8 = .ok (.baload, 1) := by decide +kernel
theorem d4_9 : decode jdk_43_method_2_code 9 = .ok (.sipush 255, 3) := by decide +kernel
theorem d4_12 : decode jdk_43_method_2_code 12 = .ok (.iand, 1) := by decide +kernel
theorem d4_13 : decode jdk_43_method_2_code 13 = .ok (.i2c, 1) := by decide +kernel
theorem d4_14 : decode jdk_43_method_2_code 14 = .ok (.ireturn, 1) := by decide +kernel
theorem d5_0 : decode jdk_42_method_155_code 0 = .ok (.iload_n 0, 1) := by decide +kernel
theorem d5_1 : decode jdk_42_method_155_code 1 = .ok (.iload_n 1, 1) := by decide +kernel
theorem d5_2 : decode jdk_42_method_155_code 2 = .ok (.getstatic 1053, 3) := by decide +kernel
theorem d5_5 : decode jdk_42_method_155_code 5 = .ok (.invokestatic 1059, 3) := by decide +kernel
theorem d5_8 : decode jdk_42_method_155_code 8 = .ok (.pop, 1) := by decide +kernel
theorem d5_9 : decode jdk_42_method_155_code 9 = .ok (.return_, 1) := by decide +kernel
theorem d6_0 : decode jdk_41_method_11_code 0 = .ok (.iload_n 0, 1) := by decide +kernel
theorem d6_1 : decode jdk_41_method_11_code 1 = .ok (.ifCond .lt 8, 3) := by decide +kernel
theorem d6_4 : decode jdk_41_method_11_code 4 = .ok (.iload_n 0, 1) := by decide +kernel
theorem d6_5 : decode jdk_41_method_11_code 5 = .ok (.iload_n 1, 1) := by decide +kernel
theorem d6_6 : decode jdk_41_method_11_code 6 = .ok (.if_icmp .lt 10, 3) := by decide +kernel
theorem d6_16 : decode jdk_41_method_11_code 16 = .ok (.iload_n 0, 1) := by decide +kernel
theorem d6_17 : decode jdk_41_method_11_code 17 = .ok (.ireturn, 1) := by decide +kernel
theorem d7_0 : decode prog_40_method_5_code 0 = .ok (.invokestatic 36, 3) := by decide +kernel
theorem d7_3 : decode prog_40_method_5_code 3 = .ok (.astore_n 1, 1) := by decide +kernel
theorem d7_4 : decode prog_40_method_5_code 4 = .ok (.aload_n 1, 1) := by decide +kernel
theorem d7_5 : decode prog_40_method_5_code 5 = .ok (.arraylength, 1) := by decide +kernel
theorem d7_6 : decode prog_40_method_5_code 6 = .ok (.istore_n 2, 1) := by decide +kernel
theorem d7_7 : decode prog_40_method_5_code 7 = .ok (.iconst 0, 1) := by decide +kernel
theorem d7_8 : decode prog_40_method_5_code 8 = .ok (.istore_n 3, 1) := by decide +kernel
theorem d7_9 : decode prog_40_method_5_code 9 = .ok (.iload_n 3, 1) := by decide +kernel
theorem d7_10 : decode prog_40_method_5_code 10 = .ok (.iload_n 2, 1) := by decide +kernel
theorem d7_11 : decode prog_40_method_5_code 11 = .ok (.if_icmp .ge 29, 3) := by decide +kernel
theorem d7_14 : decode prog_40_method_5_code 14 = .ok (.aload_n 1, 1) := by decide +kernel
theorem d7_15 : decode prog_40_method_5_code 15 = .ok (.iload_n 3, 1) := by decide +kernel
theorem d7_16 : decode prog_40_method_5_code 16 = .ok (.aaload, 1) := by decide +kernel
theorem d7_17 : decode prog_40_method_5_code 17 = .ok (.astore 4, 2) := by decide +kernel
theorem d7_19 : decode prog_40_method_5_code 19 = .ok (.aload 4, 2) := by decide +kernel
theorem d7_21 : decode prog_40_method_5_code 21 = .ok (.getfield 32, 3) := by decide +kernel
theorem d7_24 : decode prog_40_method_5_code 24 = .ok (.aload_n 0, 1) := by decide +kernel
theorem d7_25 : decode prog_40_method_5_code 25 = .ok (.invokevirtual 40, 3) := by decide +kernel
theorem d7_28 : decode prog_40_method_5_code 28 = .ok (.ifCond .eq 6, 3) := by decide +kernel
theorem d7_31 : decode prog_40_method_5_code 31 = .ok (.aload 4, 2) := by decide +kernel
theorem d7_33 : decode prog_40_method_5_code 33 = .ok (.areturn, 1) := by decide +kernel
theorem d7_34 : decode prog_40_method_5_code 34 = .ok (.iinc 3 1, 3) := by decide +kernel
theorem d7_37 : decode prog_40_method_5_code 37 = .ok (.goto (-28), 3) := by decide +kernel
theorem d7_40 : decode prog_40_method_5_code 40 = .ok (.aconst_null, 1) := by decide +kernel
theorem d7_41 : decode prog_40_method_5_code 41 = .ok (.areturn, 1) := by decide +kernel
theorem d8_0 : decode prog_40_method_1_code 0 = .ok (.getstatic 13, 3) := by decide +kernel
theorem d8_3 : decode prog_40_method_1_code 3 = .ok (.invokevirtual 17, 3) := by decide +kernel
theorem d8_6 : decode prog_40_method_1_code 6 = .ok (.checkcast 18, 3) := by decide +kernel
theorem d8_9 : decode prog_40_method_1_code 9 = .ok (.areturn, 1) := by decide +kernel
theorem d9_0 : decode jdk_42_method_66_code 0 = .ok (.aload_n 0, 1) := by decide +kernel
theorem d9_1 : decode jdk_42_method_66_code 1 = .ok (.aload_n 1, 1) := by decide +kernel
theorem d9_2 : decode jdk_42_method_66_code 2 = .ok (.if_acmp .ne 5, 3) := by decide +kernel
theorem d9_5 : decode jdk_42_method_66_code 5 = .ok (.iconst 1, 1) := by decide +kernel
theorem d9_6 : decode jdk_42_method_66_code 6 = .ok (.ireturn, 1) := by decide +kernel
theorem d9_7 : decode jdk_42_method_66_code 7 = .ok (.aload_n 1, 1) := by decide +kernel
theorem d9_8 : decode jdk_42_method_66_code 8 = .ok (.instanceof 10, 3) := by decide +kernel
theorem d9_11 : decode jdk_42_method_66_code 11 = .ok (.ifCond .eq 43, 3) := by decide +kernel
theorem d9_14 : decode jdk_42_method_66_code 14 = .ok (.aload_n 1, 1) := by decide +kernel
theorem d9_15 : decode jdk_42_method_66_code 15 = .ok (.checkcast 10, 3) := by decide +kernel
theorem d9_18 : decode jdk_42_method_66_code 18 = .ok (.astore_n 2, 1) := by decide +kernel
theorem d9_19 : decode jdk_42_method_66_code 19 = .ok (.getstatic 38, 3) := by decide +kernel
theorem d9_22 : decode jdk_42_method_66_code 22 = .ok (.ifCond .eq 14, 3) := by decide +kernel
theorem d9_25 : decode jdk_42_method_66_code 25 = .ok (.aload_n 0, 1) := by decide +kernel
theorem d9_26 : decode jdk_42_method_66_code 26 = .ok (.getfield 15, 3) := by decide +kernel
theorem d9_29 : decode jdk_42_method_66_code 29 = .ok (.aload_n 2, 1) := by decide +kernel
theorem d9_30 : decode jdk_42_method_66_code 30 = .ok (.getfield 15, 3) := by decide +kernel
theorem d9_33 : decode jdk_42_method_66_code 33 = .ok (.if_icmp .ne 21, 3) := by decide +kernel
theorem d9_36 : decode jdk_42_method_66_code 36 = .ok (.aload_n 0, 1) := by decide +kernel
theorem d9_37 : decode jdk_42_method_66_code 37 = .ok (.getfield 9, 3) := by decide +kernel
theorem d9_40 : decode jdk_42_method_66_code 40 = .ok (.aload_n 2, 1) := by decide +kernel
theorem d9_41 : decode jdk_42_method_66_code 41 = .ok (.getfield 9, 3) := by decide +kernel
theorem d9_44 : decode jdk_42_method_66_code 44 = .ok (.invokestatic 541, 3) := by decide +kernel
theorem d9_47 : decode jdk_42_method_66_code 47 = .ok (.ifCond .eq 7, 3) := by decide +kernel
theorem d9_50 : decode jdk_42_method_66_code 50 = .ok (.iconst 1, 1) := by decide +kernel
theorem d9_51 : decode jdk_42_method_66_code 51 = .ok (.goto 4, 3) := by decide +kernel
theorem d9_54 : decode jdk_42_method_66_code 54 = .ok (.iconst 0, 1) := by decide +kernel
theorem d9_55 : decode jdk_42_method_66_code 55 = .ok (.ireturn, 1) := by decide +kernel
theorem d10_0 : decode jdk_43_method_13_code 0 = .ok (.aload_n 0, 1) := by decide +kernel
theorem d10_1 : decode jdk_43_method_13_code 1 = .ok (.arraylength, 1) := by decide +kernel
theorem d10_2 : decode jdk_43_method_13_code 2 = .ok (.aload_n 1, 1) := by decide +kernel
theorem d10_3 : decode jdk_43_method_13_code 3 = .ok (.arraylength, 1) := by decide +kernel
theorem d10_4 : decode jdk_43_method_13_code 4 = .ok (.if_icmp .ne 30, 3) := by decide +kernel
theorem d10_7 : decode jdk_43_method_13_code 7 = .ok (.iconst 0, 1) := by decide +kernel
theorem d10_8 : decode jdk_43_method_13_code 8 = .ok (.istore_n 2, 1) := by decide +kernel
theorem d10_9 : decode jdk_43_method_13_code 9 = .ok (.iload_n 2, 1) := by decide +kernel
theorem d10_10 : decode jdk_43_method_13_code 10 = .ok (.aload_n 0, 1) := by decide +kernel
theorem d10_11 : decode jdk_43_method_13_code 11 = .ok (.arraylength, 1) := by decide +kernel
theorem d10_12 : decode jdk_43_method_13_code 12 = .ok (.if_icmp .ge 20, 3) := by decide +kernel
theorem d10_15 : decode jdk_43_method_13_code 15 = .ok (.aload_n 0, 1) := by decide +kernel
theorem d10_16 : decode jdk_43_method_13_code 16 = .ok (.iload_n 2, 1) := by decide +kernel
theorem d10_17 : decode jdk_43_method_13_code 17 = .ok (.baload, 1) := by decide +kernel
theorem d10_18 : decode jdk_43_method_13_code 18 = .ok (.aload_n 1, 1) := by decide +kernel
theorem d10_19 : decode jdk_43_method_13_code 19 = .ok (.iload_n 2, 1) := by decide +kernel
theorem d10_20 : decode jdk_43_method_13_code 20 = .ok (.baload, 1) := by decide +kernel
theorem d10_21 : decode jdk_43_method_13_code 21 = .ok (.if_icmp .eq 5, 3) := by decide +kernel
theorem d10_24 : decode jdk_43_method_13_code 24 = .ok (.iconst 0, 1) := by decide +kernel
theorem d10_25 : decode jdk_43_method_13_code 25 = .ok (.ireturn, 1) := by decide +kernel
theorem d10_26 : decode jdk_43_method_13_code 26 = .ok (.iinc 2 1, 3) := by decide +kernel
theorem d10_29 : decode jdk_43_method_13_code 29 = .ok (.goto (-20), 3) := by decide +kernel
theorem d10_32 : decode jdk_43_method_13_code 32 = .ok (.iconst 1, 1) := by decide +kernel
theorem d10_33 : decode jdk_43_method_13_code 33 = .ok (.ireturn, 1) := by decide +kernel
theorem d10_34 : decode jdk_43_method_13_code 34 = .ok (.iconst 0, 1) := by decide +kernel
theorem d10_35 : decode jdk_43_method_13_code 35 = .ok (.ireturn, 1) := by decide +kernel
theorem d11_0 : decode method_4_code 0 = .ok (.aload_n 0, 1) := by decide +kernel
theorem d11_1 : decode method_4_code 1 = .ok (.ifnonnull 5, 3) := by decide +kernel
theorem d11_4 : decode method_4_code 4 = .ok (.aconst_null, 1) := by decide +kernel
theorem d11_5 : decode method_4_code 5 = .ok (.areturn, 1) := by decide +kernel
theorem d11_6 : decode method_4_code 6 = .ok (.aload_n 0, 1) := by decide +kernel
theorem d11_7 : decode method_4_code 7 = .ok (.ldc 8, 2) := by decide +kernel
theorem d11_9 : decode method_4_code 9 = .ok (.invokevirtual 40, 3) := by decide +kernel
theorem d11_12 : decode method_4_code 12 = .ok (.ifCond .eq 7, 3) := by decide +kernel
theorem d11_15 : decode method_4_code 15 = .ok (.getstatic 44, 3) := by decide +kernel
theorem d11_18 : decode method_4_code 18 = .ok (.areturn, 1) := by decide +kernel
theorem d11_19 : decode method_4_code 19 = .ok (.aload_n 0, 1) := by decide +kernel
theorem d11_20 : decode method_4_code 20 = .ok (.ldc 10, 2) := by decide +kernel
theorem d11_22 : decode method_4_code 22 = .ok (.invokevirtual 40, 3) := by decide +kernel
theorem d11_25 : decode method_4_code 25 = .ok (.ifCond .eq 7, 3) := by decide +kernel
theorem d11_28 : decode method_4_code 28 = .ok (.getstatic 48, 3) := by decide +kernel
theorem d11_31 : decode method_4_code 31 = .ok (.areturn, 1) := by decide +kernel
theorem d11_32 : decode method_4_code 32 = .ok (.aload_n 0, 1) := by decide +kernel
theorem d11_33 : decode method_4_code 33 = .ok (.ldc 12, 2) := by decide +kernel
theorem d11_35 : decode method_4_code 35 = .ok (.invokevirtual 40, 3) := by decide +kernel
theorem d11_38 : decode method_4_code 38 = .ok (.ifCond .eq 7, 3) := by decide +kernel
theorem d11_41 : decode method_4_code 41 = .ok (.getstatic 51, 3) := by decide +kernel
theorem d11_44 : decode method_4_code 44 = .ok (.areturn, 1) := by decide +kernel
theorem d11_45 : decode method_4_code 45 = .ok (.aconst_null, 1) := by decide +kernel
theorem d11_46 : decode method_4_code 46 = .ok (.areturn, 1) := by decide +kernel
theorem d12_0 : decode jdk_42_method_3_code 0 = .ok (.aload_n 0, 1) := by decide +kernel
theorem d12_1 : decode jdk_42_method_3_code 1 = .ok (.aload_n 1, 1) := by decide +kernel
theorem d12_2 : decode jdk_42_method_3_code 2 = .ok (.iconst 0, 1) := by decide +kernel
theorem d12_3 : decode jdk_42_method_3_code 3 = .ok (.aload_n 1, 1) := by decide +kernel
theorem d12_4 : decode jdk_42_method_3_code 4 = .ok (.arraylength, 1) := by decide +kernel
theorem d12_5 : decode jdk_42_method_3_code 5 = .ok (.aconst_null, 1) := by decide +kernel
theorem d12_6 : decode jdk_42_method_3_code 6 = .ok (.invokespecial 27, 3) := by decide +kernel
theorem d12_9 : decode jdk_42_method_3_code 9 = .ok (.return_, 1) := by decide +kernel
theorem d13_0 : decode jdk_42_method_149_code 0 = .ok (.aload_n 0, 1) := by decide +kernel
theorem d13_1 : decode jdk_42_method_149_code 1 = .ok (.invokespecial 1, 3) := by decide +kernel
theorem d13_4 : decode jdk_42_method_149_code 4 = .ok (.iload_n 3, 1) := by decide +kernel
theorem d13_5 : decode jdk_42_method_149_code 5 = .ok (.ifCond .ne 22, 3) := by decide +kernel
theorem d13_27 : decode jdk_42_method_149_code 27 = .ok (.getstatic 38, 3) := by decide +kernel
theorem d13_30 : decode jdk_42_method_149_code 30 = .ok (.ifCond .eq 28, 3) := by decide +kernel
theorem d13_33 : decode jdk_42_method_149_code 33 = .ok (.aload_n 1, 1) := by decide +kernel
theorem d13_34 : decode jdk_42_method_149_code 34 = .ok (.iload_n 2, 1) := by decide +kernel
theorem d13_35 : decode jdk_42_method_149_code 35 = .ok (.iload_n 3, 1) := by decide +kernel
theorem d13_36 : decode jdk_42_method_149_code 36 = .ok (.invokestatic 177, 3) := by decide +kernel
theorem d13_39 : decode jdk_42_method_149_code 39 = .ok (.astore 5, 2) := by decide +kernel
theorem d13_41 : decode jdk_42_method_149_code 41 = .ok (.aload_n 0, 1) := by decide +kernel
theorem d13_42 : decode jdk_42_method_149_code 42 = .ok (.aload 5, 2) := by decide +kernel
theorem d13_44 : decode jdk_42_method_149_code 44 = .ok (.iload_n 3, 1) := by decide +kernel
theorem d13_45 : decode jdk_42_method_149_code 45 = .ok (.invokestatic 47, 3) := by decide +kernel
theorem d13_48 : decode jdk_42_method_149_code 48 = .ok (.putfield 15, 3) := by decide +kernel
theorem d13_51 : decode jdk_42_method_149_code 51 = .ok (.aload_n 0, 1) := by decide +kernel
theorem d13_52 : decode jdk_42_method_149_code 52 = .ok (.aload 5, 2) := by decide +kernel
theorem d13_54 : decode jdk_42_method_149_code 54 = .ok (.putfield 9, 3) := by decide +kernel
theorem d13_57 : decode jdk_42_method_149_code 57 = .ok (.return_, 1) := by decide +kernel
theorem d15_0 : decode jdk_52_method_16_code 0 = .ok (.iload_n 2, 1) := by decide +kernel
theorem d15_1 : decode jdk_52_method_16_code 1 = .ok (.newarray .byte, 2) := by decide +kernel
theorem d15_3 : decode jdk_52_method_16_code 3 = .ok (.astore_n 3, 1) := by decide +kernel
theorem d15_4 : decode jdk_52_method_16_code 4 = .ok (.aload_n 0, 1) := by decide +kernel
theorem d15_5 : decode jdk_52_method_16_code 5 = .ok (.iload_n 1, 1) := by decide +kernel
theorem d15_6 : decode jdk_52_method_16_code 6 = .ok (.aload_n 3, 1) := by decide +kernel
theorem d15_7 : decode jdk_52_method_16_code 7 = .ok (.iconst 0, 1) := by decide +kernel
theorem d15_8 : decode jdk_52_method_16_code 8 = .ok (.iload_n 2, 1) := by decide +kernel
theorem d15_9 : decode jdk_52_method_16_code 9 = .ok (.invokestatic 115, 3) := by decide +kernel
theorem d15_12 : decode jdk_52_method_16_code 12 = .ok (.istore 4, 2) := by decide +kernel
theorem d15_14 : decode jdk_52_method_16_code 14 = .ok (.iload 4, 2) := by decide +kernel
theorem d15_16 : decode jdk_52_method_16_code 16 = .ok (.iload_n 2, 1) := by decide +kernel
theorem d15_17 : decode jdk_52_method_16_code 17 = .ok (.if_icmp .eq 40, 3) := by decide +kernel
theorem d15_57 : decode jdk_52_method_16_code 57 = .ok (.aload_n 3, 1) := by decide +kernel
theorem d15_58 : decode jdk_52_method_16_code 58 = .ok (.areturn, 1) := by decide +kernel
theorem d16_0 : decode jdk_52_method_21_code 0 = .ok (.iconst 0, 1) := by decide +kernel
theorem d16_1 : decode jdk_52_method_21_code 1 = .ok (.istore 5, 2) := by decide +kernel
theorem d16_3 : decode jdk_52_method_21_code 3 = .ok (.iload 5, 2) := by decide +kernel
theorem d16_5 : decode jdk_52_method_21_code 5 = .ok (.iload 4, 2) := by decide +kernel
theorem d16_7 : decode jdk_52_method_21_code 7 = .ok (.if_icmp .ge 37, 3) := by decide +kernel
theorem d16_10 : decode jdk_52_method_21_code 10 = .ok (.aload_n 0, 1) := by decide +kernel
theorem d16_11 : decode jdk_52_method_21_code 11 = .ok (.iload_n 1, 1) := by decide +kernel
theorem d16_12 : decode jdk_52_method_21_code 12 = .ok (.caload, 1) := by decide +kernel
theorem d16_13 : decode jdk_52_method_21_code 13 = .ok (.istore 6, 2) := by decide +kernel
theorem d16_15 : decode jdk_52_method_21_code 15 = .ok (.iload 6, 2) := by decide +kernel
theorem d16_17 : decode jdk_52_method_21_code 17 = .ok (.sipush 255, 3) := by decide +kernel
theorem d16_20 : decode jdk_52_method_21_code 20 = .ok (.if_icmp .le 6, 3) := by decide +kernel
theorem d16_26 : decode jdk_52_method_21_code 26 = .ok (.aload_n 2, 1) := by decide +kernel
theorem d16_27 : decode jdk_52_method_21_code 27 = .ok (.iload_n 3, 1) := by decide +kernel
theorem d16_28 : decode jdk_52_method_21_code 28 = .ok (.iload 6, 2) := by decide +kernel
theorem d16_30 : decode jdk_52_method_21_code 30 = .ok (.i2b, 1) := by decide +kernel
theorem d16_31 : decode jdk_52_method_21_code 31 = .ok (.bastore, 1) := by decide +kernel
theorem d16_32 : decode jdk_52_method_21_code 32 = .ok (.iinc 1 1, 3) := by decide +kernel
theorem d16_35 : decode jdk_52_method_21_code 35 = .ok (.iinc 3 1, 3) := by decide +kernel
theorem d16_38 : decode jdk_52_method_21_code 38 = .ok (.iinc 5 1, 3) := by decide +kernel
theorem d16_41 : decode jdk_52_method_21_code 41 = .ok (.goto (-38), 3) := by decide +kernel
theorem d16_44 : decode jdk_52_method_21_code 44 = .ok (.iload 4, 2) := by decide +kernel
theorem d16_46 : decode jdk_52_method_21_code 46 = .ok (.ireturn, 1) := by decide +kernel
theorem d17_0 : decode jdk_52_method_15_code 0 = .ok (.iload_n 1, 1) := by decide +kernel
theorem d17_1 : decode jdk_52_method_15_code 1 = .ok (.aload_n 0, 1) := by decide +kernel
theorem d17_2 : decode jdk_52_method_15_code 2 = .ok (.arraylength, 1) := by decide +kernel
theorem d17_3 : decode jdk_52_method_15_code 3 = .ok (.isub, 1) := by decide +kernel
theorem d17_4 : decode jdk_52_method_15_code 4 = .ok (.bipush 31, 2) := by decide +kernel
theorem d17_6 : decode jdk_52_method_15_code 6 = .ok (.iushr, 1) := by decide +kernel
theorem d17_7 : decode jdk_52_method_15_code 7 = .ok (.i2b, 1) := by decide +kernel
theorem d17_8 : decode jdk_52_method_15_code 8 = .ok (.ireturn, 1) := by decide +kernel
theorem pd_0 : parseMethodDescriptor "(IILjava/util/function/BiFunction;)I" = some ⟨[.int, .int, (.object "java/util/function/BiFunction")], some .int⟩ := by decide +kernel
theorem pd_1 : parseMethodDescriptor "(II)V" = some ⟨[.int, .int], none⟩ := by decide +kernel
theorem pd_2 : parseMethodDescriptor "()Z" = some ⟨[], some .boolean⟩ := by decide +kernel
theorem pd_3 : parseMethodDescriptor "([BI)C" = some ⟨[(.array .byte), .int], some .char⟩ := by decide +kernel
theorem pd_4 : parseMethodDescriptor "([B[B)Z" = some ⟨[(.array .byte), (.array .byte)], some .boolean⟩ := by decide +kernel
theorem pd_5 : parseMethodDescriptor "([CI[BII)I" = some ⟨[(.array .char), .int, (.array .byte), .int, .int], some .int⟩ := by decide +kernel
theorem pd_6 : parseMethodDescriptor "([CII)[B" = some ⟨[(.array .char), .int, .int], some (.array .byte)⟩ := by decide +kernel
theorem pd_7 : parseMethodDescriptor "([BI)B" = some ⟨[(.array .byte), .int], some .byte⟩ := by decide +kernel
theorem pd_8 : parseMethodDescriptor "([CIILjava/lang/Void;)V" = some ⟨[(.array .char), .int, .int, (.object "java/lang/Void")], none⟩ := by decide +kernel
theorem pd_9 : parseMethodDescriptor "()[Lcom/example/gridpost/gridpost/store/OperationKind;" = some ⟨[], some (.array (.object "com/example/gridpost/gridpost/store/OperationKind"))⟩ := by decide +kernel
theorem pd_10 : parseMethodDescriptor "(Ljava/lang/Object;)Z" = some ⟨[(.object "java/lang/Object")], some .boolean⟩ := by decide +kernel
theorem pd_11 : parseMethodDescriptor "(I)C" = some ⟨[.int], some .char⟩ := by decide +kernel
theorem pd_12 : parseMethodDescriptor "(Ljava/lang/String;)Lcom/example/gridpost/gridpost/store/OperationKind;" = some ⟨[(.object "java/lang/String")], some (.object "com/example/gridpost/gridpost/store/OperationKind")⟩ := by decide +kernel
theorem pd_13 : parseMethodDescriptor "([C)V" = some ⟨[(.array .char)], none⟩ := by decide +kernel
theorem pd_14 : parseMethodDescriptor "(Ljava/lang/String;II)C" = some ⟨[(.object "java/lang/String"), .int, .int], some .char⟩ := by decide +kernel
theorem wd_0 {a0 : Array Value} {Z : State} (hw : ∀ d ∈ tables_1, d.before a0 Z = true) : (Jvm.Cond.constant "com/example/gridpost/gridpost/store/OperationKindFromWireNamePinLaw" (7 : Nat) (2147483647 : Int32)).before a0 Z = true := hw _ (List.mem_of_getElem? (i := 0) rfl)
theorem wd_1 {a0 : Array Value} {Z : State} (hw : ∀ d ∈ tables_1, d.before a0 Z = true) : (Jvm.Cond.stringLink "com/example/gridpost/gridpost/store/OperationKindFromWireNamePinLaw" (8 : Nat) "start").before a0 Z = true := hw _ (List.mem_of_getElem? (i := 1) rfl)
theorem wd_2 {a0 : Array Value} {Z : State} (hw : ∀ d ∈ tables_1, d.before a0 Z = true) : (Jvm.Cond.initialized "java/lang/String").before a0 Z = true := hw _ (List.mem_of_getElem? (i := 2) rfl)
theorem wd_3 {a0 : Array Value} {Z : State} (hw : ∀ d ∈ tables_1, d.before a0 Z = true) : (Jvm.Cond.instantiable "java/lang/String" (4 : Nat)).before a0 Z = true := hw _ (List.mem_of_getElem? (i := 3) rfl)
theorem wd_4 {a0 : Array Value} {Z : State} (hw : ∀ d ∈ tables_1, d.before a0 Z = true) : (Jvm.Cond.arrayClass Jvm.ClassFile.FieldType.byte).before a0 Z = true := hw _ (List.mem_of_getElem? (i := 4) rfl)
theorem wd_5 {a0 : Array Value} {Z : State} (hw : ∀ d ∈ tables_1, d.before a0 Z = true) : (Jvm.Cond.laysFinal "java/lang/String" "java/lang/String" "value" "[B").before a0 Z = true := hw _ (List.mem_of_getElem? (i := 5) rfl)
theorem wd_6 {a0 : Array Value} {Z : State} (hw : ∀ d ∈ tables_1, d.before a0 Z = true) : (Jvm.Cond.laysFinal "java/lang/String" "java/lang/String" "coder" "B").before a0 Z = true := hw _ (List.mem_of_getElem? (i := 6) rfl)
theorem wd_7 {a0 : Array Value} {Z : State} (hw : ∀ d ∈ tables_1, d.before a0 Z = true) : (Jvm.Cond.soleField "java/lang/String" "value").before a0 Z = true := hw _ (List.mem_of_getElem? (i := 7) rfl)
theorem wd_8 {a0 : Array Value} {Z : State} (hw : ∀ d ∈ tables_1, d.before a0 Z = true) : (Jvm.Cond.soleField "java/lang/String" "coder").before a0 Z = true := hw _ (List.mem_of_getElem? (i := 8) rfl)
theorem wd_9 {a0 : Array Value} {Z : State} (hw : ∀ d ∈ tables_1, d.before a0 Z = true) : (Jvm.Cond.arrayClass Jvm.ClassFile.FieldType.char).before a0 Z = true := hw _ (List.mem_of_getElem? (i := 9) rfl)
theorem wd_10 {a0 : Array Value} {Z : State} (hw : ∀ d ∈ tables_1, d.before a0 Z = true) : (Jvm.Cond.methodLink "com/example/gridpost/gridpost/store/OperationKindFromWireNamePinLaw" (14 : Nat) ({ cls := "com/example/gridpost/gridpost/store/OperationKindFromWireNamePinLaw", name := "pick", desc := "(Ljava/lang/String;II)C" } : Jvm.MethodName)).before a0 Z = true := hw _ (List.mem_of_getElem? (i := 10) rfl)
theorem wd_11 {a0 : Array Value} {Z : State} (hw : ∀ d ∈ tables_1, d.before a0 Z = true) : (Jvm.Cond.static ({ cls := "com/example/gridpost/gridpost/store/OperationKindFromWireNamePinLaw", name := "pick", desc := "(Ljava/lang/String;II)C" } : Jvm.MethodName)).before a0 Z = true := hw _ (List.mem_of_getElem? (i := 11) rfl)
theorem wd_12 {a0 : Array Value} {Z : State} (hw : ∀ d ∈ tables_1, d.before a0 Z = true) : (Jvm.Cond.initialized "com/example/gridpost/gridpost/store/OperationKindFromWireNamePinLaw").before a0 Z = true := hw _ (List.mem_of_getElem? (i := 12) rfl)
theorem wd_13 {a0 : Array Value} {Z : State} (hw : ∀ d ∈ tables_1, d.before a0 Z = true) : (Jvm.Cond.code ({ cls := "com/example/gridpost/gridpost/store/OperationKindFromWireNamePinLaw", name := "pick", desc := "(Ljava/lang/String;II)C" } : Jvm.MethodName) method_3_code (3 : Nat) (Option.some Jvm.ClassFile.FieldType.char)).before a0 Z = true := hw _ (List.mem_of_getElem? (i := 13) rfl)
theorem wd_14 {a0 : Array Value} {Z : State} (hw : ∀ d ∈ tables_1, d.before a0 Z = true) : (Jvm.Cond.methodLink "com/example/gridpost/gridpost/store/OperationKindFromWireNamePinLaw" (36 : Nat) ({ cls := "java/lang/String", name := "charAt", desc := "(I)C" } : Jvm.MethodName)).before a0 Z = true := hw _ (List.mem_of_getElem? (i := 14) rfl)
theorem wd_15 {a0 : Array Value} {Z : State} (hw : ∀ d ∈ tables_1, d.before a0 Z = true) : (Jvm.Cond.declares ({ cls := "java/lang/String", name := "charAt", desc := "(I)C" } : Jvm.MethodName)).before a0 Z = true := hw _ (List.mem_of_getElem? (i := 15) rfl)
theorem wd_16 {a0 : Array Value} {Z : State} (hw : ∀ d ∈ tables_1, d.before a0 Z = true) : (Jvm.Cond.instanceMethod ({ cls := "java/lang/String", name := "charAt", desc := "(I)C" } : Jvm.MethodName)).before a0 Z = true := hw _ (List.mem_of_getElem? (i := 16) rfl)
theorem wd_17 {a0 : Array Value} {Z : State} (hw : ∀ d ∈ tables_1, d.before a0 Z = true) : (Jvm.Cond.selects "java/lang/String" ({ cls := "java/lang/String", name := "charAt", desc := "(I)C" } : Jvm.MethodName) ({ cls := "java/lang/String", name := "charAt", desc := "(I)C" } : Jvm.MethodName)).before a0 Z = true := hw _ (List.mem_of_getElem? (i := 17) rfl)
theorem wd_18 {a0 : Array Value} {Z : State} (hw : ∀ d ∈ tables_1, d.before a0 Z = true) : (Jvm.Cond.code ({ cls := "java/lang/String", name := "charAt", desc := "(I)C" } : Jvm.MethodName) jdk_42_method_56_code (2 : Nat) (Option.some Jvm.ClassFile.FieldType.char)).before a0 Z = true := hw _ (List.mem_of_getElem? (i := 18) rfl)
theorem wd_19 {a0 : Array Value} {Z : State} (hw : ∀ d ∈ tables_1, d.before a0 Z = true) : (Jvm.Cond.methodLink "java/lang/String" (492 : Nat) ({ cls := "java/lang/String", name := "isLatin1", desc := "()Z" } : Jvm.MethodName)).before a0 Z = true := hw _ (List.mem_of_getElem? (i := 19) rfl)
theorem wd_20 {a0 : Array Value} {Z : State} (hw : ∀ d ∈ tables_1, d.before a0 Z = true) : (Jvm.Cond.declares ({ cls := "java/lang/String", name := "isLatin1", desc := "()Z" } : Jvm.MethodName)).before a0 Z = true := hw _ (List.mem_of_getElem? (i := 20) rfl)
theorem wd_21 {a0 : Array Value} {Z : State} (hw : ∀ d ∈ tables_1, d.before a0 Z = true) : (Jvm.Cond.instanceMethod ({ cls := "java/lang/String", name := "isLatin1", desc := "()Z" } : Jvm.MethodName)).before a0 Z = true := hw _ (List.mem_of_getElem? (i := 21) rfl)
theorem wd_22 {a0 : Array Value} {Z : State} (hw : ∀ d ∈ tables_1, d.before a0 Z = true) : (Jvm.Cond.selects "java/lang/String" ({ cls := "java/lang/String", name := "isLatin1", desc := "()Z" } : Jvm.MethodName) ({ cls := "java/lang/String", name := "isLatin1", desc := "()Z" } : Jvm.MethodName)).before a0 Z = true := hw _ (List.mem_of_getElem? (i := 22) rfl)
theorem wd_23 {a0 : Array Value} {Z : State} (hw : ∀ d ∈ tables_1, d.before a0 Z = true) : (Jvm.Cond.code ({ cls := "java/lang/String", name := "isLatin1", desc := "()Z" } : Jvm.MethodName) jdk_42_method_154_code (1 : Nat) (Option.some Jvm.ClassFile.FieldType.boolean)).before a0 Z = true := hw _ (List.mem_of_getElem? (i := 23) rfl)
theorem wd_24 {a0 : Array Value} {Z : State} (hw : ∀ d ∈ tables_1, d.before a0 Z = true) : (Jvm.Cond.fieldLink "java/lang/String" (38 : Nat) "java/lang/String" "COMPACT_STRINGS" "Z").before a0 Z = true := hw _ (List.mem_of_getElem? (i := 24) rfl)
theorem wd_25 {a0 : Array Value} {Z : State} (hw : ∀ d ∈ tables_1, d.before a0 Z = true) : (Jvm.Cond.fieldLink "java/lang/String" (15 : Nat) "java/lang/String" "coder" "B").before a0 Z = true := hw _ (List.mem_of_getElem? (i := 25) rfl)
theorem wd_26 {a0 : Array Value} {Z : State} (hw : ∀ d ∈ tables_1, d.before a0 Z = true) : (Jvm.Cond.fieldLink "java/lang/String" (9 : Nat) "java/lang/String" "value" "[B").before a0 Z = true := hw _ (List.mem_of_getElem? (i := 26) rfl)
theorem wd_27 {a0 : Array Value} {Z : State} (hw : ∀ d ∈ tables_1, d.before a0 Z = true) : (Jvm.Cond.methodLink "java/lang/String" (495 : Nat) ({ cls := "java/lang/StringLatin1", name := "charAt", desc := "([BI)C" } : Jvm.MethodName)).before a0 Z = true := hw _ (List.mem_of_getElem? (i := 27) rfl)
theorem wd_28 {a0 : Array Value} {Z : State} (hw : ∀ d ∈ tables_1, d.before a0 Z = true) : (Jvm.Cond.static ({ cls := "java/lang/StringLatin1", name := "charAt", desc := "([BI)C" } : Jvm.MethodName)).before a0 Z = true := hw _ (List.mem_of_getElem? (i := 28) rfl)
theorem wd_29 {a0 : Array Value} {Z : State} (hw : ∀ d ∈ tables_1, d.before a0 Z = true) : (Jvm.Cond.initialized "java/lang/StringLatin1").before a0 Z = true := hw _ (List.mem_of_getElem? (i := 29) rfl)
theorem wd_30 {a0 : Array Value} {Z : State} (hw : ∀ d ∈ tables_1, d.before a0 Z = true) : (Jvm.Cond.code ({ cls := "java/lang/StringLatin1", name := "charAt", desc := "([BI)C" } : Jvm.MethodName) jdk_43_method_2_code (2 : Nat) (Option.some Jvm.ClassFile.FieldType.char)).before a0 Z = true := hw _ (List.mem_of_getElem? (i := 30) rfl)
theorem wd_31 {a0 : Array Value} {Z : State} (hw : ∀ d ∈ tables_1, d.before a0 Z = true) : (Jvm.Cond.methodLink "java/lang/StringLatin1" (9 : Nat) ({ cls := "java/lang/String", name := "checkIndex", desc := "(II)V" } : Jvm.MethodName)).before a0 Z = true := hw _ (List.mem_of_getElem? (i := 31) rfl)
theorem wd_32 {a0 : Array Value} {Z : State} (hw : ∀ d ∈ tables_1, d.before a0 Z = true) : (Jvm.Cond.static ({ cls := "java/lang/String", name := "checkIndex", desc := "(II)V" } : Jvm.MethodName)).before a0 Z = true := hw _ (List.mem_of_getElem? (i := 32) rfl)
theorem wd_33 {a0 : Array Value} {Z : State} (hw : ∀ d ∈ tables_1, d.before a0 Z = true) : (Jvm.Cond.code ({ cls := "java/lang/String", name := "checkIndex", desc := "(II)V" } : Jvm.MethodName) jdk_42_method_155_code (2 : Nat) (Option.none : Option Jvm.ClassFile.FieldType)).before a0 Z = true := hw _ (List.mem_of_getElem? (i := 33) rfl)
theorem wd_34 {a0 : Array Value} {Z : State} (hw : ∀ d ∈ tables_1, d.before a0 Z = true) : (Jvm.Cond.fieldLink "java/lang/String" (1053 : Nat) "jdk/internal/util/Preconditions" "SIOOBE_FORMATTER" "Ljava/util/function/BiFunction;").before a0 Z = true := hw _ (List.mem_of_getElem? (i := 34) rfl)
theorem wd_35 {a0 : Array Value} {Z : State} (hw : ∀ d ∈ tables_1, d.before a0 Z = true) : (Jvm.Cond.initialized "jdk/internal/util/Preconditions").before a0 Z = true := hw _ (List.mem_of_getElem? (i := 35) rfl)
theorem wd_36 {a0 : Array Value} {Z : State} (hw : ∀ d ∈ tables_1, d.before a0 Z = true) : (Jvm.Cond.methodLink "java/lang/String" (1059 : Nat) ({ cls := "jdk/internal/util/Preconditions", name := "checkIndex", desc := "(IILjava/util/function/BiFunction;)I" } : Jvm.MethodName)).before a0 Z = true := hw _ (List.mem_of_getElem? (i := 36) rfl)
theorem wd_37 {a0 : Array Value} {Z : State} (hw : ∀ d ∈ tables_1, d.before a0 Z = true) : (Jvm.Cond.static ({ cls := "jdk/internal/util/Preconditions", name := "checkIndex", desc := "(IILjava/util/function/BiFunction;)I" } : Jvm.MethodName)).before a0 Z = true := hw _ (List.mem_of_getElem? (i := 37) rfl)
theorem wd_38 {a0 : Array Value} {Z : State} (hw : ∀ d ∈ tables_1, d.before a0 Z = true) : (Jvm.Cond.code ({ cls := "jdk/internal/util/Preconditions", name := "checkIndex", desc := "(IILjava/util/function/BiFunction;)I" } : Jvm.MethodName) jdk_41_method_11_code (3 : Nat) (Option.some Jvm.ClassFile.FieldType.int)).before a0 Z = true := hw _ (List.mem_of_getElem? (i := 38) rfl)
theorem wd_39 {a0 : Array Value} {Z : State} (hw : ∀ d ∈ tables_1, d.before a0 Z = true) : (Jvm.Cond.stringLink "com/example/gridpost/gridpost/store/OperationKindFromWireNamePinLaw" (25 : Nat) "").before a0 Z = true := hw _ (List.mem_of_getElem? (i := 39) rfl)
theorem wd_40 {a0 : Array Value} {Z : State} (hw : ∀ d ∈ tables_1, d.before a0 Z = true) : (Jvm.Cond.methodLink "com/example/gridpost/gridpost/store/OperationKindFromWireNamePinLaw" (27 : Nat) ({ cls := "com/example/gridpost/gridpost/store/OperationKind", name := "fromWireName", desc := "(Ljava/lang/String;)Lcom/example/gridpost/gridpost/store/OperationKind;" } : Jvm.MethodName)).before a0 Z = true := hw _ (List.mem_of_getElem? (i := 40) rfl)
theorem wd_41 {a0 : Array Value} {Z : State} (hw : ∀ d ∈ tables_1, d.before a0 Z = true) : (Jvm.Cond.static ({ cls := "com/example/gridpost/gridpost/store/OperationKind", name := "fromWireName", desc := "(Ljava/lang/String;)Lcom/example/gridpost/gridpost/store/OperationKind;" } : Jvm.MethodName)).before a0 Z = true := hw _ (List.mem_of_getElem? (i := 41) rfl)
theorem wd_42 {a0 : Array Value} {Z : State} (hw : ∀ d ∈ tables_1, d.before a0 Z = true) : (Jvm.Cond.initialized "com/example/gridpost/gridpost/store/OperationKind").before a0 Z = true := hw _ (List.mem_of_getElem? (i := 42) rfl)
theorem wd_43 {a0 : Array Value} {Z : State} (hw : ∀ d ∈ tables_1, d.before a0 Z = true) : (Jvm.Cond.code ({ cls := "com/example/gridpost/gridpost/store/OperationKind", name := "fromWireName", desc := "(Ljava/lang/String;)Lcom/example/gridpost/gridpost/store/OperationKind;" } : Jvm.MethodName) prog_40_method_5_code (5 : Nat) (Option.some (Jvm.ClassFile.FieldType.object "com/example/gridpost/gridpost/store/OperationKind"))).before a0 Z = true := hw _ (List.mem_of_getElem? (i := 43) rfl)
theorem wd_44 {a0 : Array Value} {Z : State} (hw : ∀ d ∈ tables_1, d.before a0 Z = true) : (Jvm.Cond.methodLink "com/example/gridpost/gridpost/store/OperationKind" (36 : Nat) ({ cls := "com/example/gridpost/gridpost/store/OperationKind", name := "values", desc := "()[Lcom/example/gridpost/gridpost/store/OperationKind;" } : Jvm.MethodName)).before a0 Z = true := hw _ (List.mem_of_getElem? (i := 44) rfl)
theorem wd_45 {a0 : Array Value} {Z : State} (hw : ∀ d ∈ tables_1, d.before a0 Z = true) : (Jvm.Cond.static ({ cls := "com/example/gridpost/gridpost/store/OperationKind", name := "values", desc := "()[Lcom/example/gridpost/gridpost/store/OperationKind;" } : Jvm.MethodName)).before a0 Z = true := hw _ (List.mem_of_getElem? (i := 45) rfl)
theorem wd_46 {a0 : Array Value} {Z : State} (hw : ∀ d ∈ tables_1, d.before a0 Z = true) : (Jvm.Cond.code ({ cls := "com/example/gridpost/gridpost/store/OperationKind", name := "values", desc := "()[Lcom/example/gridpost/gridpost/store/OperationKind;" } : Jvm.MethodName) prog_40_method_1_code (0 : Nat) (Option.some (Jvm.ClassFile.FieldType.array (Jvm.ClassFile.FieldType.object "com/example/gridpost/gridpost/store/OperationKind")))).before a0 Z = true := hw _ (List.mem_of_getElem? (i := 46) rfl)
theorem wd_47 {a0 : Array Value} {Z : State} (hw : ∀ d ∈ tables_1, d.before a0 Z = true) : (Jvm.Cond.fieldLink "com/example/gridpost/gridpost/store/OperationKind" (13 : Nat) "com/example/gridpost/gridpost/store/OperationKind" "$VALUES" "[Lcom/example/gridpost/gridpost/store/OperationKind;").before a0 Z = true := hw _ (List.mem_of_getElem? (i := 47) rfl)
theorem wd_48 {a0 : Array Value} {Z : State} (hw : ∀ d ∈ tables_1, d.before a0 Z = true) : (Jvm.Cond.laysStatic "com/example/gridpost/gridpost/store/OperationKind" "$VALUES" "[Lcom/example/gridpost/gridpost/store/OperationKind;").before a0 Z = true := hw _ (List.mem_of_getElem? (i := 48) rfl)
theorem wd_49 {a0 : Array Value} {Z : State} (hw : ∀ d ∈ tables_1, d.before a0 Z = true) : (Jvm.Cond.methodLink "com/example/gridpost/gridpost/store/OperationKind" (17 : Nat) ({ cls := "[Lcom/example/gridpost/gridpost/store/OperationKind;", name := "clone", desc := "()Ljava/lang/Object;" } : Jvm.MethodName)).before a0 Z = true := hw _ (List.mem_of_getElem? (i := 49) rfl)
theorem wd_50 {a0 : Array Value} {Z : State} (hw : ∀ d ∈ tables_1, d.before a0 Z = true) : (Jvm.Cond.sameMethod "[Lcom/example/gridpost/gridpost/store/OperationKind;" "java/lang/Object" "clone" "()Ljava/lang/Object;").before a0 Z = true := hw _ (List.mem_of_getElem? (i := 50) rfl)
theorem wd_52 {a0 : Array Value} {Z : State} (hw : ∀ d ∈ tables_1, d.before a0 Z = true) : (Jvm.Cond.instanceMethod ({ cls := "java/lang/Object", name := "clone", desc := "()Ljava/lang/Object;" } : Jvm.MethodName)).before a0 Z = true := hw _ (List.mem_of_getElem? (i := 52) rfl)
theorem wd_53 {a0 : Array Value} {Z : State} (hw : ∀ d ∈ tables_1, d.before a0 Z = true) : (Jvm.Cond.selects "[Lcom/example/gridpost/gridpost/store/OperationKind;" ({ cls := "[Lcom/example/gridpost/gridpost/store/OperationKind;", name := "clone", desc := "()Ljava/lang/Object;" } : Jvm.MethodName) ({ cls := "java/lang/Object", name := "clone", desc := "()Ljava/lang/Object;" } : Jvm.MethodName)).before a0 Z = true := hw _ (List.mem_of_getElem? (i := 53) rfl)
theorem wd_54 {a0 : Array Value} {Z : State} (hw : ∀ d ∈ tables_1, d.before a0 Z = true) : (Jvm.Cond.native ({ cls := "java/lang/Object", name := "clone", desc := "()Ljava/lang/Object;" } : Jvm.MethodName)).before a0 Z = true := hw _ (List.mem_of_getElem? (i := 54) rfl)
theorem wd_55 {a0 : Array Value} {Z : State} (hw : ∀ d ∈ tables_1, d.before a0 Z = true) : (Jvm.Cond.castable "[Lcom/example/gridpost/gridpost/store/OperationKind;" "java/lang/Cloneable").before a0 Z = true := hw _ (List.mem_of_getElem? (i := 55) rfl)
theorem wd_56 {a0 : Array Value} {Z : State} (hw : ∀ d ∈ tables_1, d.before a0 Z = true) : (Jvm.Cond.laysStatic "com/example/gridpost/gridpost/store/OperationKind" "START" "Lcom/example/gridpost/gridpost/store/OperationKind;").before a0 Z = true := hw _ (List.mem_of_getElem? (i := 56) rfl)
theorem wd_57 {a0 : Array Value} {Z : State} (hw : ∀ d ∈ tables_1, d.before a0 Z = true) : (Jvm.Cond.laysStatic "com/example/gridpost/gridpost/store/OperationKind" "ABORT" "Lcom/example/gridpost/gridpost/store/OperationKind;").before a0 Z = true := hw _ (List.mem_of_getElem? (i := 57) rfl)
theorem wd_58 {a0 : Array Value} {Z : State} (hw : ∀ d ∈ tables_1, d.before a0 Z = true) : (Jvm.Cond.laysStatic "com/example/gridpost/gridpost/store/OperationKind" "PAUSE" "Lcom/example/gridpost/gridpost/store/OperationKind;").before a0 Z = true := hw _ (List.mem_of_getElem? (i := 58) rfl)
theorem wd_60 {a0 : Array Value} {Z : State} (hw : ∀ d ∈ tables_1, d.before a0 Z = true) : (Jvm.Cond.classLink "com/example/gridpost/gridpost/store/OperationKind" (18 : Nat) "[Lcom/example/gridpost/gridpost/store/OperationKind;").before a0 Z = true := hw _ (List.mem_of_getElem? (i := 60) rfl)
theorem wd_62 {a0 : Array Value} {Z : State} (hw : ∀ d ∈ tables_1, d.before a0 Z = true) : (Jvm.Cond.fieldLink "com/example/gridpost/gridpost/store/OperationKind" (32 : Nat) "com/example/gridpost/gridpost/store/OperationKind" "wireName" "Ljava/lang/String;").before a0 Z = true := hw _ (List.mem_of_getElem? (i := 62) rfl)
theorem wd_64 {a0 : Array Value} {Z : State} (hw : ∀ d ∈ tables_1, d.before a0 Z = true) : (Jvm.Cond.methodLink "com/example/gridpost/gridpost/store/OperationKind" (40 : Nat) ({ cls := "java/lang/String", name := "equals", desc := "(Ljava/lang/Object;)Z" } : Jvm.MethodName)).before a0 Z = true := hw _ (List.mem_of_getElem? (i := 64) rfl)
theorem wd_65 {a0 : Array Value} {Z : State} (hw : ∀ d ∈ tables_1, d.before a0 Z = true) : (Jvm.Cond.declares ({ cls := "java/lang/String", name := "equals", desc := "(Ljava/lang/Object;)Z" } : Jvm.MethodName)).before a0 Z = true := hw _ (List.mem_of_getElem? (i := 65) rfl)
theorem wd_66 {a0 : Array Value} {Z : State} (hw : ∀ d ∈ tables_1, d.before a0 Z = true) : (Jvm.Cond.instanceMethod ({ cls := "java/lang/String", name := "equals", desc := "(Ljava/lang/Object;)Z" } : Jvm.MethodName)).before a0 Z = true := hw _ (List.mem_of_getElem? (i := 66) rfl)
theorem wd_67 {a0 : Array Value} {Z : State} (hw : ∀ d ∈ tables_1, d.before a0 Z = true) : (Jvm.Cond.selects "java/lang/String" ({ cls := "java/lang/String", name := "equals", desc := "(Ljava/lang/Object;)Z" } : Jvm.MethodName) ({ cls := "java/lang/String", name := "equals", desc := "(Ljava/lang/Object;)Z" } : Jvm.MethodName)).before a0 Z = true := hw _ (List.mem_of_getElem? (i := 67) rfl)
theorem wd_68 {a0 : Array Value} {Z : State} (hw : ∀ d ∈ tables_1, d.before a0 Z = true) : (Jvm.Cond.code ({ cls := "java/lang/String", name := "equals", desc := "(Ljava/lang/Object;)Z" } : Jvm.MethodName) jdk_42_method_66_code (3 : Nat) (Option.some Jvm.ClassFile.FieldType.boolean)).before a0 Z = true := hw _ (List.mem_of_getElem? (i := 68) rfl)
theorem wd_69 {a0 : Array Value} {Z : State} (hw : ∀ d ∈ tables_1, d.before a0 Z = true) : (Jvm.Cond.classLink "java/lang/String" (10 : Nat) "java/lang/String").before a0 Z = true := hw _ (List.mem_of_getElem? (i := 69) rfl)
theorem wd_71 {a0 : Array Value} {Z : State} (hw : ∀ d ∈ tables_1, d.before a0 Z = true) : (Jvm.Cond.methodLink "java/lang/String" (541 : Nat) ({ cls := "java/lang/StringLatin1", name := "equals", desc := "([B[B)Z" } : Jvm.MethodName)).before a0 Z = true := hw _ (List.mem_of_getElem? (i := 71) rfl)
theorem wd_72 {a0 : Array Value} {Z : State} (hw : ∀ d ∈ tables_1, d.before a0 Z = true) : (Jvm.Cond.static ({ cls := "java/lang/StringLatin1", name := "equals", desc := "([B[B)Z" } : Jvm.MethodName)).before a0 Z = true := hw _ (List.mem_of_getElem? (i := 72) rfl)
theorem wd_73 {a0 : Array Value} {Z : State} (hw : ∀ d ∈ tables_1, d.before a0 Z = true) : (Jvm.Cond.code ({ cls := "java/lang/StringLatin1", name := "equals", desc := "([B[B)Z" } : Jvm.MethodName) jdk_43_method_13_code (3 : Nat) (Option.some Jvm.ClassFile.FieldType.boolean)).before a0 Z = true := hw _ (List.mem_of_getElem? (i := 73) rfl)
theorem wd_74 {a0 : Array Value} {Z : State} (hw : ∀ d ∈ tables_1, d.before a0 Z = true) : (Jvm.Cond.methodLink "com/example/gridpost/gridpost/store/OperationKindFromWireNamePinLaw" (33 : Nat) ({ cls := "com/example/gridpost/gridpost/store/OperationKindFromWireNamePinLaw", name := "expected", desc := "(Ljava/lang/String;)Lcom/example/gridpost/gridpost/store/OperationKind;" } : Jvm.MethodName)).before a0 Z = true := hw _ (List.mem_of_getElem? (i := 74) rfl)
theorem wd_75 {a0 : Array Value} {Z : State} (hw : ∀ d ∈ tables_1, d.before a0 Z = true) : (Jvm.Cond.static ({ cls := "com/example/gridpost/gridpost/store/OperationKindFromWireNamePinLaw", name := "expected", desc := "(Ljava/lang/String;)Lcom/example/gridpost/gridpost/store/OperationKind;" } : Jvm.MethodName)).before a0 Z = true := hw _ (List.mem_of_getElem? (i := 75) rfl)
theorem wd_76 {a0 : Array Value} {Z : State} (hw : ∀ d ∈ tables_1, d.before a0 Z = true) : (Jvm.Cond.code ({ cls := "com/example/gridpost/gridpost/store/OperationKindFromWireNamePinLaw", name := "expected", desc := "(Ljava/lang/String;)Lcom/example/gridpost/gridpost/store/OperationKind;" } : Jvm.MethodName) method_4_code (1 : Nat) (Option.some (Jvm.ClassFile.FieldType.object "com/example/gridpost/gridpost/store/OperationKind"))).before a0 Z = true := hw _ (List.mem_of_getElem? (i := 76) rfl)
theorem wd_77 {a0 : Array Value} {Z : State} (hw : ∀ d ∈ tables_1, d.before a0 Z = true) : (Jvm.Cond.methodLink "com/example/gridpost/gridpost/store/OperationKindFromWireNamePinLaw" (40 : Nat) ({ cls := "java/lang/String", name := "equals", desc := "(Ljava/lang/Object;)Z" } : Jvm.MethodName)).before a0 Z = true := hw _ (List.mem_of_getElem? (i := 77) rfl)
theorem wd_78 {a0 : Array Value} {Z : State} (hw : ∀ d ∈ tables_1, d.before a0 Z = true) : (Jvm.Cond.stringLink "com/example/gridpost/gridpost/store/OperationKindFromWireNamePinLaw" (10 : Nat) "abort").before a0 Z = true := hw _ (List.mem_of_getElem? (i := 78) rfl)
theorem wd_79 {a0 : Array Value} {Z : State} (hw : ∀ d ∈ tables_1, d.before a0 Z = true) : (Jvm.Cond.stringLink "com/example/gridpost/gridpost/store/OperationKindFromWireNamePinLaw" (12 : Nat) "pause").before a0 Z = true := hw _ (List.mem_of_getElem? (i := 79) rfl)
theorem wd_80 {a0 : Array Value} {Z : State} (hw : ∀ d ∈ tables_1, d.before a0 Z = true) : (Jvm.Cond.classLink "com/example/gridpost/gridpost/store/OperationKindFromWireNamePinLaw" (20 : Nat) "java/lang/String").before a0 Z = true := hw _ (List.mem_of_getElem? (i := 80) rfl)
theorem wd_81 {a0 : Array Value} {Z : State} (hw : ∀ d ∈ tables_1, d.before a0 Z = true) : (Jvm.Cond.methodLink "com/example/gridpost/gridpost/store/OperationKindFromWireNamePinLaw" (22 : Nat) ({ cls := "java/lang/String", name := "<init>", desc := "([C)V" } : Jvm.MethodName)).before a0 Z = true := hw _ (List.mem_of_getElem? (i := 81) rfl)
theorem wd_82 {a0 : Array Value} {Z : State} (hw : ∀ d ∈ tables_1, d.before a0 Z = true) : (Jvm.Cond.instanceMethod ({ cls := "java/lang/String", name := "<init>", desc := "([C)V" } : Jvm.MethodName)).before a0 Z = true := hw _ (List.mem_of_getElem? (i := 82) rfl)
theorem wd_83 {a0 : Array Value} {Z : State} (hw : ∀ d ∈ tables_1, d.before a0 Z = true) : (Jvm.Cond.code ({ cls := "java/lang/String", name := "<init>", desc := "([C)V" } : Jvm.MethodName) jdk_42_method_3_code (2 : Nat) (Option.none : Option Jvm.ClassFile.FieldType)).before a0 Z = true := hw _ (List.mem_of_getElem? (i := 83) rfl)
theorem wd_84 {a0 : Array Value} {Z : State} (hw : ∀ d ∈ tables_1, d.before a0 Z = true) : (Jvm.Cond.methodLink "java/lang/String" (27 : Nat) ({ cls := "java/lang/String", name := "<init>", desc := "([CIILjava/lang/Void;)V" } : Jvm.MethodName)).before a0 Z = true := hw _ (List.mem_of_getElem? (i := 84) rfl)
theorem wd_85 {a0 : Array Value} {Z : State} (hw : ∀ d ∈ tables_1, d.before a0 Z = true) : (Jvm.Cond.instanceMethod ({ cls := "java/lang/String", name := "<init>", desc := "([CIILjava/lang/Void;)V" } : Jvm.MethodName)).before a0 Z = true := hw _ (List.mem_of_getElem? (i := 85) rfl)
theorem wd_86 {a0 : Array Value} {Z : State} (hw : ∀ d ∈ tables_1, d.before a0 Z = true) : (Jvm.Cond.code ({ cls := "java/lang/String", name := "<init>", desc := "([CIILjava/lang/Void;)V" } : Jvm.MethodName) jdk_42_method_149_code (6 : Nat) (Option.none : Option Jvm.ClassFile.FieldType)).before a0 Z = true := hw _ (List.mem_of_getElem? (i := 86) rfl)
theorem wd_87 {a0 : Array Value} {Z : State} (hw : ∀ d ∈ tables_1, d.before a0 Z = true) : (Jvm.Cond.methodLink "java/lang/String" (1 : Nat) ({ cls := "java/lang/Object", name := "<init>", desc := "()V" } : Jvm.MethodName)).before a0 Z = true := hw _ (List.mem_of_getElem? (i := 87) rfl)
theorem wd_88 {a0 : Array Value} {Z : State} (hw : ∀ d ∈ tables_1, d.before a0 Z = true) : (Jvm.Cond.instanceMethod ({ cls := "java/lang/Object", name := "<init>", desc := "()V" } : Jvm.MethodName)).before a0 Z = true := hw _ (List.mem_of_getElem? (i := 88) rfl)
theorem wd_89 {a0 : Array Value} {Z : State} (hw : ∀ d ∈ tables_1, d.before a0 Z = true) : (Jvm.Cond.code ({ cls := "java/lang/Object", name := "<init>", desc := "()V" } : Jvm.MethodName) object_method_1_code (1 : Nat) (Option.none : Option Jvm.ClassFile.FieldType)).before a0 Z = true := hw _ (List.mem_of_getElem? (i := 89) rfl)
theorem wd_90 {a0 : Array Value} {Z : State} (hw : ∀ d ∈ tables_1, d.before a0 Z = true) : (Jvm.Cond.methodLink "java/lang/String" (177 : Nat) ({ cls := "java/lang/StringUTF16", name := "compress", desc := "([CII)[B" } : Jvm.MethodName)).before a0 Z = true := hw _ (List.mem_of_getElem? (i := 90) rfl)
theorem wd_91 {a0 : Array Value} {Z : State} (hw : ∀ d ∈ tables_1, d.before a0 Z = true) : (Jvm.Cond.static ({ cls := "java/lang/StringUTF16", name := "compress", desc := "([CII)[B" } : Jvm.MethodName)).before a0 Z = true := hw _ (List.mem_of_getElem? (i := 91) rfl)
theorem wd_92 {a0 : Array Value} {Z : State} (hw : ∀ d ∈ tables_1, d.before a0 Z = true) : (Jvm.Cond.initialized "java/lang/StringUTF16").before a0 Z = true := hw _ (List.mem_of_getElem? (i := 92) rfl)
theorem wd_93 {a0 : Array Value} {Z : State} (hw : ∀ d ∈ tables_1, d.before a0 Z = true) : (Jvm.Cond.code ({ cls := "java/lang/StringUTF16", name := "compress", desc := "([CII)[B" } : Jvm.MethodName) jdk_52_method_16_code (6 : Nat) (Option.some (Jvm.ClassFile.FieldType.array Jvm.ClassFile.FieldType.byte))).before a0 Z = true := hw _ (List.mem_of_getElem? (i := 93) rfl)
theorem wd_94 {a0 : Array Value} {Z : State} (hw : ∀ d ∈ tables_1, d.before a0 Z = true) : (Jvm.Cond.methodLink "java/lang/StringUTF16" (115 : Nat) ({ cls := "java/lang/StringUTF16", name := "compress", desc := "([CI[BII)I" } : Jvm.MethodName)).before a0 Z = true := hw _ (List.mem_of_getElem? (i := 94) rfl)
theorem wd_95 {a0 : Array Value} {Z : State} (hw : ∀ d ∈ tables_1, d.before a0 Z = true) : (Jvm.Cond.static ({ cls := "java/lang/StringUTF16", name := "compress", desc := "([CI[BII)I" } : Jvm.MethodName)).before a0 Z = true := hw _ (List.mem_of_getElem? (i := 95) rfl)
theorem wd_96 {a0 : Array Value} {Z : State} (hw : ∀ d ∈ tables_1, d.before a0 Z = true) : (Jvm.Cond.code ({ cls := "java/lang/StringUTF16", name := "compress", desc := "([CI[BII)I" } : Jvm.MethodName) jdk_52_method_21_code (7 : Nat) (Option.some Jvm.ClassFile.FieldType.int)).before a0 Z = true := hw _ (List.mem_of_getElem? (i := 96) rfl)
theorem wd_97 {a0 : Array Value} {Z : State} (hw : ∀ d ∈ tables_1, d.before a0 Z = true) : (Jvm.Cond.methodLink "java/lang/String" (47 : Nat) ({ cls := "java/lang/StringUTF16", name := "coderFromArrayLen", desc := "([BI)B" } : Jvm.MethodName)).before a0 Z = true := hw _ (List.mem_of_getElem? (i := 97) rfl)
theorem wd_98 {a0 : Array Value} {Z : State} (hw : ∀ d ∈ tables_1, d.before a0 Z = true) : (Jvm.Cond.static ({ cls := "java/lang/StringUTF16", name := "coderFromArrayLen", desc := "([BI)B" } : Jvm.MethodName)).before a0 Z = true := hw _ (List.mem_of_getElem? (i := 98) rfl)
theorem wd_99 {a0 : Array Value} {Z : State} (hw : ∀ d ∈ tables_1, d.before a0 Z = true) : (Jvm.Cond.code ({ cls := "java/lang/StringUTF16", name := "coderFromArrayLen", desc := "([BI)B" } : Jvm.MethodName) jdk_52_method_15_code (2 : Nat) (Option.some Jvm.ClassFile.FieldType.byte)).before a0 Z = true := hw _ (List.mem_of_getElem? (i := 99) rfl)
theorem wd_100 {a0 : Array Value} {Z : State} (hw : ∀ d ∈ tables_1, d.before a0 Z = true) : (Jvm.Cond.fieldLink "com/example/gridpost/gridpost/store/OperationKindFromWireNamePinLaw" (51 : Nat) "com/example/gridpost/gridpost/store/OperationKind" "PAUSE" "Lcom/example/gridpost/gridpost/store/OperationKind;").before a0 Z = true := hw _ (List.mem_of_getElem? (i := 100) rfl)
theorem wd_101 {a0 : Array Value} {Z : State} (hw : ∀ d ∈ tables_1, d.before a0 Z = true) : (Jvm.Cond.fieldLink "com/example/gridpost/gridpost/store/OperationKindFromWireNamePinLaw" (48 : Nat) "com/example/gridpost/gridpost/store/OperationKind" "ABORT" "Lcom/example/gridpost/gridpost/store/OperationKind;").before a0 Z = true := hw _ (List.mem_of_getElem? (i := 101) rfl)
theorem wd_102 {a0 : Array Value} {Z : State} (hw : ∀ d ∈ tables_1, d.before a0 Z = true) : (Jvm.Cond.fieldLink "com/example/gridpost/gridpost/store/OperationKindFromWireNamePinLaw" (44 : Nat) "com/example/gridpost/gridpost/store/OperationKind" "START" "Lcom/example/gridpost/gridpost/store/OperationKind;").before a0 Z = true := hw _ (List.mem_of_getElem? (i := 102) rfl)
theorem own_wS {a0 : Array Value} {Z : State} (hw : ∀ d ∈ tables_1, d.before a0 Z = true) : ∀ d ∈ Bundle.stringAtoms, d.before a0 Z = true := fun d hd => by
  simp only [Bundle.stringAtoms, List.mem_cons, List.not_mem_nil, or_false] at hd
  rcases hd with rfl | rfl | rfl | rfl | rfl | rfl | rfl
  · exact (wd_2 hw)
  · exact (wd_3 hw)
  · exact (wd_4 hw)
  · exact (wd_5 hw)
  · exact (wd_6 hw)
  · exact (wd_7 hw)
  · exact (wd_8 hw)
def own_EL : List (String × Nat) := consts_1
theorem own_ew {a0 : Array Value} {Z : State} (hw : ∀ d ∈ tables_1, d.before a0 Z = true) : EW Z a0 own_EL := (EW.cons (wd_1 hw) (by decide) (EW.cons (wd_78 hw) (by decide) (EW.cons (wd_79 hw) (by decide) (EW.cons (wd_39 hw) (by decide) EW.nil))))
def Q_j_pchk (j : Nat) (h0 : Heap) (n0 : Nat) (v : Option Value) (h : Heap) (L : List Loc) : Prop := v = some (.int (Int32.ofNat j)) ∧ Fr n0 L ∧ h = h0
set_option maxRecDepth 65536 in
set_option maxHeartbeats 40000000 in
theorem j_pchk (l : Launch) (Z : State) (a0 : Array Value) (hw : ∀ d ∈ tables_1, d.before a0 Z = true) (j n : Nat) (fm : Value) (hfm : fm.isRef = true) (h0 : Heap) (n0 : Nat) (OL : Old Z n0 h0) (hj : j < n) (hn : n < 2147483648) :
    own_Met l Z (⟨"jdk/internal/util/Preconditions", "checkIndex", "(IILjava/util/function/BiFunction;)I"⟩ : MethodName) jdk_41_method_11_code 3 (some .int) ({ frames := 0, cells := 0, slots := 0, locals := 0 } : Room) #[(.int (Int32.ofNat j)), (.int (Int32.ofNat n)), fm] h0 (Q_j_pchk j h0 n0) := by
  refine own_body (L0 := #[.val (.int (Int32.ofNat j)), .val (.int (Int32.ofNat n)), .val fm]) (plainFor_of_name (by first | (simp [plainName, overriddenIn]; done) | decide +kernel)) (fun m => by first | (simp [entryFrame, mkF, argsToLocals, Value.category]; done) | rfl | (rcases ref_cases hfm with rfl | ⟨_, rfl⟩ <;> rfl)) ?_
  intro p e s m below meth c s₁ hx hby hml hZ hown hnm hret hlk X0 e0
  have N0 := Fr.nil n0
  have Z0 : n0 ≤ h0.size := OL.1 ▸ OL.2.1
  show OwnOk p e below _ (s₁.setTop (mkF m 0 #[.val (.int (Int32.ofNat j)), .val (.int (Int32.ofNat n)), .val fm] []))
  refine own_up (fun tx kx => XS.iloadN X0.here hx rfl (hb hby d6_0) rfl kx) ?_
  show OwnOk p e below _ (s₁.setTop (mkF m 1 #[.val (.int (Int32.ofNat j)), .val (.int (Int32.ofNat n)), .val fm] [(.int (Int32.ofNat j))]))
  refine own_up (fun tx kx => XS.ifNo X0.here hx rfl (hb hby d6_1) rfl ((if0 _ _).trans (flt (own_nn j (by omega))).1) kx) ?_
  show OwnOk p e below _ (s₁.setTop (mkF m 4 #[.val (.int (Int32.ofNat j)), .val (.int (Int32.ofNat n)), .val fm] []))
  refine own_up (fun tx kx => XS.iloadN X0.here hx rfl (hb hby d6_4) rfl kx) ?_
  show OwnOk p e below _ (s₁.setTop (mkF m 5 #[.val (.int (Int32.ofNat j)), .val (.int (Int32.ofNat n)), .val fm] [(.int (Int32.ofNat j))]))
  refine own_up (fun tx kx => XS.iloadN X0.here hx rfl (hb hby d6_5) rfl kx) ?_
  show OwnOk p e below _ (s₁.setTop (mkF m 6 #[.val (.int (Int32.ofNat j)), .val (.int (Int32.ofNat n)), .val fm] [(.int (Int32.ofNat n)), (.int (Int32.ofNat j))]))
  refine own_up (fun tx kx => XS.icmpYes X0.here hx rfl (pc0 := 6) (pc' := 16) rfl (hb hby d6_6) rfl (tlt (own_lt hj hn)).1 (by decide) (by decide) kx) ?_
  show OwnOk p e below _ (s₁.setTop (mkF m 16 #[.val (.int (Int32.ofNat j)), .val (.int (Int32.ofNat n)), .val fm] []))
  refine own_up (fun tx kx => XS.iloadN X0.here hx rfl (hb hby d6_16) rfl kx) ?_
  show OwnOk p e below _ (s₁.setTop (mkF m 17 #[.val (.int (Int32.ofNat j)), .val (.int (Int32.ofNat n)), .val fm] [(.int (Int32.ofNat j))]))
  refine own_retI X0 hx (show meth.sig.returnType = some .int from hret) hlk (hb hby d6_17) e0 (Nat.le_of_ble_eq_true rfl) (Nat.le_of_ble_eq_true rfl) ?_
  exact ⟨rfl, N0, rfl⟩
def Q_j_chk (h0 : Heap) (n0 : Nat) (v : Option Value) (h : Heap) (L : List Loc) : Prop := v = none ∧ Fr n0 L ∧ h = h0
set_option maxRecDepth 65536 in
set_option maxHeartbeats 40000000 in
theorem j_chk (l : Launch) (Z : State) (a0 : Array Value) (hw : ∀ d ∈ tables_1, d.before a0 Z = true) (j n : Nat) (fm : Value) (hfm : fm.isRef = true) (h0 : Heap) (n0 : Nat) (OL : Old Z n0 h0) (SF : Sta Z Z.heap "jdk/internal/util/Preconditions" "SIOOBE_FORMATTER" "Ljava/util/function/BiFunction;" fm) (hj : j < n) (hn : n < 2147483648) :
    own_Met l Z (⟨"java/lang/String", "checkIndex", "(II)V"⟩ : MethodName) jdk_42_method_155_code 2 none ({ frames := 1, cells := 0, slots := 0, locals := 14 } : Room) #[(.int (Int32.ofNat j)), (.int (Int32.ofNat n))] h0 (Q_j_chk h0 n0) := by
  refine own_body (L0 := #[.val (.int (Int32.ofNat j)), .val (.int (Int32.ofNat n))]) (plainFor_of_name (by first | (simp [plainName, overriddenIn]; done) | decide +kernel)) (fun m => by first | (simp [entryFrame, mkF, argsToLocals, Value.category]; done) | rfl) ?_
  intro p e s m below meth c s₁ hx hby hml hZ hown hnm hret hlk X0 e0
  have N0 := Fr.nil n0
  have Z0 : n0 ≤ h0.size := OL.1 ▸ OL.2.1
  show OwnOk p e below _ (s₁.setTop (mkF m 0 #[.val (.int (Int32.ofNat j)), .val (.int (Int32.ofNat n))] []))
  refine own_up (fun tx kx => XS.iloadN X0.here hx rfl (hb hby d5_0) rfl kx) ?_
  show OwnOk p e below _ (s₁.setTop (mkF m 1 #[.val (.int (Int32.ofNat j)), .val (.int (Int32.ofNat n))] [(.int (Int32.ofNat j))]))
  refine own_up (fun tx kx => XS.iloadN X0.here hx rfl (hb hby d5_1) rfl kx) ?_
  show OwnOk p e below _ (s₁.setTop (mkF m 2 #[.val (.int (Int32.ofNat j)), .val (.int (Int32.ofNat n))] [(.int (Int32.ofNat n)), (.int (Int32.ofNat j))]))
  obtain ⟨T11, X11, e11, st11⟩ := getS2 X0 hx hZ hown (host := "") (Or.inl (wd_34 hw)) Via.refl e0 (SF.ext OL.2) (g := (mkF m 2 #[.val (.int (Int32.ofNat j)), .val (.int (Int32.ofNat n))] [(.int (Int32.ofNat n)), (.int (Int32.ofNat j))])) rfl (hb hby d5_2)
  refine own_up st11 ?_
  show OwnOk p e below _ (T11.setTop (mkF m 5 #[.val (.int (Int32.ofNat j)), .val (.int (Int32.ofNat n))] [fm, (.int (Int32.ofNat n)), (.int (Int32.ofNat j))]))
  refine own_callS X11 hx hZ (y := (⟨"jdk/internal/util/Preconditions", "checkIndex", "(IILjava/util/function/BiFunction;)I"⟩ : MethodName)) hown (wd_36 hw) (wd_37 hw) (wd_35 hw) (wd_38 hw) (by decide) (j_pchk l Z a0 hw j n fm hfm h0 n0 OL hj hn) e11 (argsL := [(.int (Int32.ofNat j)), (.int (Int32.ofNat n)), fm]) (rest := []) (by rw [hml]; rfl) (lenOf pd_0 rfl) rfl rfl (W := 0) rfl (hb hby d5_5) (by decide) (by decide) (by decide) (by decide) (fun T12 v12 L12 X12 hQ12 => ?_)
  obtain ⟨rfl, Nq12, hh12⟩ := hQ12
  have N12 := Fr.app N0 Nq12
  show OwnOk p e below _ (T12.setTop (mkF m 8 #[.val (.int (Int32.ofNat j)), .val (.int (Int32.ofNat n))] [(.int (Int32.ofNat j))]))
  refine own_up (fun tx kx => XS.pop X12.here hx rfl (hb hby d5_8) rfl rfl kx) ?_
  show OwnOk p e below _ (T12.setTop (mkF m 9 #[.val (.int (Int32.ofNat j)), .val (.int (Int32.ofNat n))] []))
  refine own_retV X12 hx (show meth.sig.returnType = none from hret) hlk (hb hby d5_9) hh12 (Nat.le_of_ble_eq_true rfl) (Nat.le_of_ble_eq_true rfl) ?_
  exact ⟨rfl, N12, rfl⟩
def Q_j_sLat (h0 : Heap) (n0 : Nat) (v : Option Value) (h : Heap) (L : List Loc) : Prop := v = some (.int 1) ∧ Fr n0 L ∧ h = h0
set_option maxRecDepth 65536 in
set_option maxHeartbeats 40000000 in
theorem j_sLat (l : Launch) (Z : State) (a0 : Array Value) (hw : ∀ d ∈ tables_1, d.before a0 Z = true) (a : Addr) (cz : Int32) (h0 : Heap) (n0 : Nat) (OL : Old Z n0 h0) (SC : Sta Z Z.heap "java/lang/String" "COMPACT_STRINGS" "Z" (.int cz)) (hcz : ¬ cz = 0) (F_coder_a : Fld Z h0 a "java/lang/String" "coder" "B" (.int (0 : Int32))) :
    own_Met l Z (⟨"java/lang/String", "isLatin1", "()Z"⟩ : MethodName) jdk_42_method_154_code 1 (some .boolean) ({ frames := 0, cells := 0, slots := 0, locals := 0 } : Room) #[(.ref a)] h0 (Q_j_sLat h0 n0) := by
  refine own_body (L0 := #[.val (.ref a)]) (plainFor_of_name (by first | (simp [plainName, overriddenIn]; done) | decide +kernel)) (fun m => by first | (simp [entryFrame, mkF, argsToLocals, Value.category]; done) | rfl) ?_
  intro p e s m below meth c s₁ hx hby hml hZ hown hnm hret hlk X0 e0
  have N0 := Fr.nil n0
  have Z0 : n0 ≤ h0.size := OL.1 ▸ OL.2.1
  show OwnOk p e below _ (s₁.setTop (mkF m 0 #[.val (.ref a)] []))
  obtain ⟨T11, X11, e11, st11⟩ := getS2 X0 hx hZ hown (host := "") (Or.inl (wd_24 hw)) Via.refl e0 (SC.ext OL.2) (g := (mkF m 0 #[.val (.ref a)] [])) rfl (hb hby d3_0)
  refine own_up st11 ?_
  show OwnOk p e below _ (T11.setTop (mkF m 3 #[.val (.ref a)] [(.int cz)]))
  refine own_up (fun tx kx => XS.ifNo X11.here hx rfl (hb hby d3_3) rfl ((if0 _ _).trans (feq hcz).1) kx) ?_
  show OwnOk p e below _ (T11.setTop (mkF m 6 #[.val (.ref a)] []))
  refine own_up (fun tx kx => XS.aloadN X11.here hx rfl (hb hby d3_6) rfl rfl kx) ?_
  show OwnOk p e below _ (T11.setTop (mkF m 7 #[.val (.ref a)] [(.ref a)]))
  obtain ⟨T12, X12, e12, st12⟩ := getF X11 hx hZ hown (host := "") (Or.inl (wd_25 hw)) Via.refl e11 F_coder_a (g := (mkF m 7 #[.val (.ref a)] [(.ref a)])) rfl rfl (hb hby d3_7)
  refine own_up st12 ?_
  show OwnOk p e below _ (T12.setTop (mkF m 10 #[.val (.ref a)] [(.int (0 : Int32))]))
  refine own_up (fun tx kx => XS.ifNo X12.here hx rfl (hb hby d3_10) rfl ((if0 _ _).trans (teq rfl).2) kx) ?_
  show OwnOk p e below _ (T12.setTop (mkF m 13 #[.val (.ref a)] []))
  refine own_up (fun tx kx => XS.iconst X12.here hx rfl (hb hby d3_13) kx) ?_
  show OwnOk p e below _ (T12.setTop (mkF m 14 #[.val (.ref a)] [(.int (1 : Int32))]))
  refine own_up (fun tx kx => XS.goto X12.here hx rfl (pc0 := 14) (pc' := 18) rfl (hb hby d3_14) (by decide) (by decide) kx) ?_
  show OwnOk p e below _ (T12.setTop (mkF m 18 #[.val (.ref a)] [(.int (1 : Int32))]))
  refine own_retN X12 hx (t := .boolean) (show meth.sig.returnType = some .boolean from hret) (by simp) hlk (hb hby d3_18) (z' := (1 : Int32)) rfl e12 (Nat.le_of_ble_eq_true rfl) (Nat.le_of_ble_eq_true rfl) ?_
  exact ⟨rfl, N0, rfl⟩
def Q_j_lch (g : Nat → Int32) (j : Nat) (h0 : Heap) (n0 : Nat) (v : Option Value) (h : Heap) (L : List Loc) : Prop := v = some (.int (own_c8 (g j))) ∧ Fr n0 L ∧ h = h0
set_option maxRecDepth 65536 in
set_option maxHeartbeats 40000000 in
theorem j_lch (l : Launch) (Z : State) (a0 : Array Value) (hw : ∀ d ∈ tables_1, d.before a0 Z = true) (u : Addr) (ku : ClassId) (ln : Nat) (g : Nat → Int32) (j : Nat) (fm : Value) (hfm : fm.isRef = true) (h0 : Heap) (n0 : Nat) (OL : Old Z n0 h0) (SF : Sta Z Z.heap "jdk/internal/util/Preconditions" "SIOOBE_FORMATTER" "Ljava/util/function/BiFunction;" fm) (V_u : Arv Z h0 u ku .byte (Int32.ofNat ln) (own_F ln g) (.int (0 : Int32))) (hj : j < ln) (hn : ln < 2147483648) :
    own_Met l Z (⟨"java/lang/StringLatin1", "charAt", "([BI)C"⟩ : MethodName) jdk_43_method_2_code 2 (some .char) ({ frames := 2, cells := 0, slots := 0, locals := 30 } : Room) #[(.ref u), (.int (Int32.ofNat j))] h0 (Q_j_lch g j h0 n0) := by
  refine own_body (L0 := #[.val (.ref u), .val (.int (Int32.ofNat j))]) (plainFor_of_name (by first | (simp [plainName, overriddenIn]; done) | decide +kernel)) (fun m => by first | (simp [entryFrame, mkF, argsToLocals, Value.category]; done) | rfl) ?_
  intro p e s m below meth c s₁ hx hby hml hZ hown hnm hret hlk X0 e0
  have N0 := Fr.nil n0
  have Z0 : n0 ≤ h0.size := OL.1 ▸ OL.2.1
  show OwnOk p e below _ (s₁.setTop (mkF m 0 #[.val (.ref u), .val (.int (Int32.ofNat j))] []))
  refine own_up (fun tx kx => XS.iloadN X0.here hx rfl (hb hby d4_0) rfl kx) ?_
  show OwnOk p e below _ (s₁.setTop (mkF m 1 #[.val (.ref u), .val (.int (Int32.ofNat j))] [(.int (Int32.ofNat j))]))
  refine own_up (fun tx kx => XS.aloadN X0.here hx rfl (hb hby d4_1) rfl rfl kx) ?_
  show OwnOk p e below _ (s₁.setTop (mkF m 2 #[.val (.ref u), .val (.int (Int32.ofNat j))] [(.ref u), (.int (Int32.ofNat j))]))
  obtain ⟨cl11, Ar11, qc11, Sz11, Nn11, Hs11, Gf11⟩ := id V_u
  have hlen11 : cl11.slots.size.toInt32 = (Int32.ofNat ln) := len_of Sz11 Nn11
  refine own_up (fun tx kx => X0.arraylength hx (own_ar e0 Ar11.1) (State.isArrayOf_alike hZ.alike Ar11.2.1) (g := (mkF m 2 #[.val (.ref u), .val (.int (Int32.ofNat j))] [(.ref u), (.int (Int32.ofNat j))])) rfl rfl (hb hby d4_2) _ kx) ?_
  rw [hlen11]
  show OwnOk p e below _ (s₁.setTop (mkF m 3 #[.val (.ref u), .val (.int (Int32.ofNat j))] [(.int (Int32.ofNat ln)), (.int (Int32.ofNat j))]))
  refine own_callS X0 hx hZ (y := (⟨"java/lang/String", "checkIndex", "(II)V"⟩ : MethodName)) hown (wd_31 hw) (wd_32 hw) (wd_2 hw) (wd_33 hw) (by decide) (j_chk l Z a0 hw j ln fm hfm h0 n0 OL SF hj hn) e0 (argsL := [(.int (Int32.ofNat j)), (.int (Int32.ofNat ln))]) (rest := []) (by rw [hml]; rfl) (lenOf pd_1 rfl) rfl rfl (W := 0) rfl (hb hby d4_3) (by decide) (by decide) (by decide) (by decide) (fun T12 v12 L12 X12 hQ12 => ?_)
  obtain ⟨rfl, Nq12, hh12⟩ := hQ12
  have N12 := Fr.app N0 Nq12
  show OwnOk p e below _ (T12.setTop (mkF m 6 #[.val (.ref u), .val (.int (Int32.ofNat j))] []))
  refine own_up (fun tx kx => XS.aloadN X12.here hx rfl (hb hby d4_6) rfl rfl kx) ?_
  show OwnOk p e below _ (T12.setTop (mkF m 7 #[.val (.ref u), .val (.int (Int32.ofNat j))] [(.ref u)]))
  refine own_up (fun tx kx => XS.iloadN X12.here hx rfl (hb hby d4_7) rfl kx) ?_
  show OwnOk p e below _ (T12.setTop (mkF m 8 #[.val (.ref u), .val (.int (Int32.ofNat j))] [(.int (Int32.ofNat j)), (.ref u)]))
  obtain ⟨cl13, Ar13, qc13, Sz13, Nn13, Hs13, Gf13⟩ := id V_u
  have hin13 : ¬ ((Int32.ofNat j) < 0 ∨ cl13.slots.size ≤ ((Int32.ofNat j)).toNatClampNeg) := inb_of Sz13 (own_in hj hn)
  have hat13 : cl13.slots[((Int32.ofNat j)).toNatClampNeg]? = some (.int (g j)) := Hs13.at hin13 (by rw [own_cl j (by omega)]; exact own_F_at hj)
  refine own_up (fun tx kx => X12.baloadBytes hx (j := (Int32.ofNat j)) (v := (.int (g j))) (own_ar hh12 Ar13.1) (State.isArrayOf_alike hZ.alike Ar13.2.1) Ar13.2.2 hin13 hat13 (g := (mkF m 8 #[.val (.ref u), .val (.int (Int32.ofNat j))] [(.int (Int32.ofNat j)), (.ref u)])) rfl rfl (hb hby d4_8) _ kx) ?_
  show OwnOk p e below _ (T12.setTop (mkF m 9 #[.val (.ref u), .val (.int (Int32.ofNat j))] [(.int (g j))]))
  refine own_up (fun tx kx => XS.sipush X12.here hx rfl (hb hby d4_9) kx) ?_
  show OwnOk p e below _ (T12.setTop (mkF m 12 #[.val (.ref u), .val (.int (Int32.ofNat j))] [(.int (255 : Int32)), (.int (g j))]))
  refine own_up (fun tx kx => XS.iand X12.here hx rfl (hb hby d4_12) rfl kx) ?_
  show OwnOk p e below _ (T12.setTop (mkF m 13 #[.val (.ref u), .val (.int (Int32.ofNat j))] [(.int ((g j) &&& (255 : Int32)))]))
  refine own_up (fun tx kx => XS.i2c X12.here hx rfl (hb hby d4_13) rfl kx) ?_
  show OwnOk p e below _ (T12.setTop (mkF m 14 #[.val (.ref u), .val (.int (Int32.ofNat j))] [(.int (((g j) &&& (255 : Int32)).toUInt32.toUInt16.toUInt32.toInt32))]))
  refine own_retN X12 hx (t := .char) (show meth.sig.returnType = some .char from hret) (by simp) hlk (hb hby d4_14) (z' := own_c8 (g j)) rfl hh12 (Nat.le_of_ble_eq_true rfl) (Nat.le_of_ble_eq_true rfl) ?_
  exact ⟨rfl, N12, rfl⟩
def Q_j_charAt (g : Nat → Int32) (j : Nat) (h0 : Heap) (n0 : Nat) (v : Option Value) (h : Heap) (L : List Loc) : Prop := v = some (.int (own_c8 (g j))) ∧ Fr n0 L ∧ h = h0
set_option maxRecDepth 65536 in
set_option maxHeartbeats 40000000 in
theorem j_charAt (l : Launch) (Z : State) (a0 : Array Value) (hw : ∀ d ∈ tables_1, d.before a0 Z = true) (a u : Addr) (ku : ClassId) (ln : Nat) (g : Nat → Int32) (cz : Int32) (j : Nat) (fm : Value) (hfm : fm.isRef = true) (h0 : Heap) (n0 : Nat) (OL : Old Z n0 h0) (SC : Sta Z Z.heap "java/lang/String" "COMPACT_STRINGS" "Z" (.int cz)) (hcz : ¬ cz = 0) (SF : Sta Z Z.heap "jdk/internal/util/Preconditions" "SIOOBE_FORMATTER" "Ljava/util/function/BiFunction;" fm) (E_a : Exa Z h0 a "java/lang/String") (F_value_a : Fld Z h0 a "java/lang/String" "value" "[B" (.ref u)) (F_coder_a : Fld Z h0 a "java/lang/String" "coder" "B" (.int (0 : Int32))) (V_u : Arv Z h0 u ku .byte (Int32.ofNat ln) (own_F ln g) (.int (0 : Int32))) (hj : j < ln) (hn : ln < 2147483648) :
    own_Met l Z (⟨"java/lang/String", "charAt", "(I)C"⟩ : MethodName) jdk_42_method_56_code 2 (some .char) ({ frames := 3, cells := 0, slots := 0, locals := 45 } : Room) #[(.ref a), (.int (Int32.ofNat j))] h0 (Q_j_charAt g j h0 n0) := by
  refine own_body (L0 := #[.val (.ref a), .val (.int (Int32.ofNat j))]) (plainFor_of_name (by first | (simp [plainName, overriddenIn]; done) | decide +kernel)) (fun m => by first | (simp [entryFrame, mkF, argsToLocals, Value.category]; done) | rfl) ?_
  intro p e s m below meth c s₁ hx hby hml hZ hown hnm hret hlk X0 e0
  have N0 := Fr.nil n0
  have Z0 : n0 ≤ h0.size := OL.1 ▸ OL.2.1
  show OwnOk p e below _ (s₁.setTop (mkF m 0 #[.val (.ref a), .val (.int (Int32.ofNat j))] []))
  refine own_up (fun tx kx => XS.aloadN X0.here hx rfl (hb hby d2_0) rfl rfl kx) ?_
  show OwnOk p e below _ (s₁.setTop (mkF m 1 #[.val (.ref a), .val (.int (Int32.ofNat j))] [(.ref a)]))
  refine own_callV X0 hx hZ (y := (⟨"java/lang/String", "isLatin1", "()Z"⟩ : MethodName)) (z := (⟨"java/lang/String", "isLatin1", "()Z"⟩ : MethodName)) hown (wd_19 hw) (wd_20 hw) (notFace_of_selects (args := #[]) (mvT hZ (wd_22 hw))) (wd_22 hw) (wd_21 hw) (wd_2 hw) (wd_23 hw) (by decide) (j_sLat l Z a0 hw a cz h0 n0 OL SC hcz F_coder_a) e0 (argsL := []) (rest := []) E_a (by rw [hml]; rfl) (lenOf pd_2 rfl) rfl rfl (W := 0) rfl (hb hby d2_1) (by decide) (by decide) (by decide) (by decide) (fun T11 v11 L11 X11 hQ11 => ?_)
  obtain ⟨rfl, Nq11, hh11⟩ := hQ11
  have N11 := Fr.app N0 Nq11
  show OwnOk p e below _ (T11.setTop (mkF m 4 #[.val (.ref a), .val (.int (Int32.ofNat j))] [(.int (1 : Int32))]))
  refine own_up (fun tx kx => XS.ifNo X11.here hx rfl (hb hby d2_4) rfl ((if0 _ _).trans (feq (by decide)).1) kx) ?_
  show OwnOk p e below _ (T11.setTop (mkF m 7 #[.val (.ref a), .val (.int (Int32.ofNat j))] []))
  refine own_up (fun tx kx => XS.aloadN X11.here hx rfl (hb hby d2_7) rfl rfl kx) ?_
  show OwnOk p e below _ (T11.setTop (mkF m 8 #[.val (.ref a), .val (.int (Int32.ofNat j))] [(.ref a)]))
  obtain ⟨T12, X12, e12, st12⟩ := getF X11 hx hZ hown (host := "") (Or.inl (wd_26 hw)) Via.refl hh11 F_value_a (g := (mkF m 8 #[.val (.ref a), .val (.int (Int32.ofNat j))] [(.ref a)])) rfl rfl (hb hby d2_8)
  refine own_up st12 ?_
  show OwnOk p e below _ (T12.setTop (mkF m 11 #[.val (.ref a), .val (.int (Int32.ofNat j))] [(.ref u)]))
  refine own_up (fun tx kx => XS.iloadN X12.here hx rfl (hb hby d2_11) rfl kx) ?_
  show OwnOk p e below _ (T12.setTop (mkF m 12 #[.val (.ref a), .val (.int (Int32.ofNat j))] [(.int (Int32.ofNat j)), (.ref u)]))
  refine own_callS X12 hx hZ (y := (⟨"java/lang/StringLatin1", "charAt", "([BI)C"⟩ : MethodName)) hown (wd_27 hw) (wd_28 hw) (wd_29 hw) (wd_30 hw) (by decide) (j_lch l Z a0 hw u ku ln g j fm hfm h0 n0 OL SF V_u hj hn) e12 (argsL := [(.ref u), (.int (Int32.ofNat j))]) (rest := []) (by rw [hml]; rfl) (lenOf pd_3 rfl) rfl rfl (W := 0) rfl (hb hby d2_12) (by decide) (by decide) (by decide) (by decide) (fun T13 v13 L13 X13 hQ13 => ?_)
  obtain ⟨rfl, Nq13, hh13⟩ := hQ13
  have N13 := Fr.app N11 Nq13
  show OwnOk p e below _ (T13.setTop (mkF m 15 #[.val (.ref a), .val (.int (Int32.ofNat j))] [(.int (own_c8 (g j)))]))
  refine own_retN X13 hx (t := .char) (show meth.sig.returnType = some .char from hret) (by simp) hlk (hb hby d2_15) (z' := own_c8 (g j)) (own_c8_idem _) hh13 (Nat.le_of_ble_eq_true rfl) (Nat.le_of_ble_eq_true rfl) ?_
  exact ⟨rfl, N13, rfl⟩
def Q_j_leq (n1 : Nat) (f1 : Nat → Int32) (n2 : Nat) (f2 : Nat → Int32) (h0 : Heap) (n0 : Nat) (v : Option Value) (h : Heap) (L : List Loc) : Prop := v = some (.int (own_eqI n1 f1 n2 f2)) ∧ Fr n0 L ∧ h = h0
set_option maxRecDepth 65536 in
set_option maxHeartbeats 40000000 in
theorem j_leq (l : Launch) (Z : State) (a0 : Array Value) (hw : ∀ d ∈ tables_1, d.before a0 Z = true) (u1 : Addr) (k1 : ClassId) (n1 : Nat) (f1 : Nat → Int32) (u2 : Addr) (k2 : ClassId) (n2 : Nat) (f2 : Nat → Int32) (h0 : Heap) (n0 : Nat) (OL : Old Z n0 h0) (V_u1 : Arv Z h0 u1 k1 .byte (Int32.ofNat n1) (own_F n1 f1) (.int (0 : Int32))) (V_u2 : Arv Z h0 u2 k2 .byte (Int32.ofNat n2) (own_F n2 f2) (.int (0 : Int32))) (b1 : n1 ≤ 100) (b2 : n2 ≤ 100) (h5 : n1 = 5 ∨ n2 = 5) :
    own_Met l Z (⟨"java/lang/StringLatin1", "equals", "([B[B)Z"⟩ : MethodName) jdk_43_method_13_code 3 (some .boolean) ({ frames := 0, cells := 0, slots := 0, locals := 0 } : Room) #[(.ref u1), (.ref u2)] h0 (Q_j_leq n1 f1 n2 f2 h0 n0) := by
  refine own_body (L0 := #[.val (.ref u1), .val (.ref u2), .unset]) (plainFor_of_name (by first | (simp [plainName, overriddenIn]; done) | decide +kernel)) (fun m => by first | (simp [entryFrame, mkF, argsToLocals, Value.category]; done) | rfl) ?_
  intro p e s m below meth c s₁ hx hby hml hZ hown hnm hret hlk X0 e0
  have N0 := Fr.nil n0
  have Z0 : n0 ≤ h0.size := OL.1 ▸ OL.2.1
  show OwnOk p e below _ (s₁.setTop (mkF m 0 #[.val (.ref u1), .val (.ref u2), .unset] []))
  refine own_up (fun tx kx => XS.aloadN X0.here hx rfl (hb hby d10_0) rfl rfl kx) ?_
  show OwnOk p e below _ (s₁.setTop (mkF m 1 #[.val (.ref u1), .val (.ref u2), .unset] [(.ref u1)]))
  obtain ⟨cl11, Ar11, qc11, Sz11, Nn11, Hs11, Gf11⟩ := id V_u1
  have hlen11 : cl11.slots.size.toInt32 = (Int32.ofNat n1) := len_of Sz11 Nn11
  refine own_up (fun tx kx => X0.arraylength hx (own_ar e0 Ar11.1) (State.isArrayOf_alike hZ.alike Ar11.2.1) (g := (mkF m 1 #[.val (.ref u1), .val (.ref u2), .unset] [(.ref u1)])) rfl rfl (hb hby d10_1) _ kx) ?_
  rw [hlen11]
  show OwnOk p e below _ (s₁.setTop (mkF m 2 #[.val (.ref u1), .val (.ref u2), .unset] [(.int (Int32.ofNat n1))]))
  refine own_up (fun tx kx => XS.aloadN X0.here hx rfl (hb hby d10_2) rfl rfl kx) ?_
  show OwnOk p e below _ (s₁.setTop (mkF m 3 #[.val (.ref u1), .val (.ref u2), .unset] [(.ref u2), (.int (Int32.ofNat n1))]))
  obtain ⟨cl12, Ar12, qc12, Sz12, Nn12, Hs12, Gf12⟩ := id V_u2
  have hlen12 : cl12.slots.size.toInt32 = (Int32.ofNat n2) := len_of Sz12 Nn12
  refine own_up (fun tx kx => X0.arraylength hx (own_ar e0 Ar12.1) (State.isArrayOf_alike hZ.alike Ar12.2.1) (g := (mkF m 3 #[.val (.ref u1), .val (.ref u2), .unset] [(.ref u2), (.int (Int32.ofNat n1))])) rfl rfl (hb hby d10_3) _ kx) ?_
  rw [hlen12]
  show OwnOk p e below _ (s₁.setTop (mkF m 4 #[.val (.ref u1), .val (.ref u2), .unset] [(.int (Int32.ofNat n2)), (.int (Int32.ofNat n1))]))
  by_cases hn : (Int32.ofNat n1) = (Int32.ofNat n2)
  · refine own_up (fun tx kx => XS.icmpNo X0.here hx rfl (hb hby d10_4) rfl (teq hn).2 kx) ?_
    show OwnOk p e below _ (s₁.setTop (mkF m 7 #[.val (.ref u1), .val (.ref u2), .unset] []))
    have e12 : n1 = n2 := own_ofNatEq hn (by omega) (by omega)
    obtain rfl : n1 = 5 := by omega
    obtain rfl : n2 = 5 := e12.symm
    show OwnOk p e below _ (s₁.setTop (mkF m 7 #[.val (.ref u1), .val (.ref u2), .unset] []))
    refine own_up (fun tx kx => XS.iconst X0.here hx rfl (hb hby d10_7) kx) ?_
    show OwnOk p e below _ (s₁.setTop (mkF m 8 #[.val (.ref u1), .val (.ref u2), .unset] [(.int (0 : Int32))]))
    refine own_up (fun tx kx => XS.istoreN X0.here hx rfl (hb hby d10_8) rfl (l' := #[.val (.ref u1), .val (.ref u2), .val (.int (0 : Int32))]) rfl kx) ?_
    show OwnOk p e below _ (s₁.setTop (mkF m 9 #[.val (.ref u1), .val (.ref u2), .val (.int (0 : Int32))] []))
    refine own_up (fun tx kx => XS.iloadN X0.here hx rfl (hb hby d10_9) rfl kx) ?_
    show OwnOk p e below _ (s₁.setTop (mkF m 10 #[.val (.ref u1), .val (.ref u2), .val (.int (0 : Int32))] [(.int (0 : Int32))]))
    refine own_up (fun tx kx => XS.aloadN X0.here hx rfl (hb hby d10_10) rfl rfl kx) ?_
    show OwnOk p e below _ (s₁.setTop (mkF m 11 #[.val (.ref u1), .val (.ref u2), .val (.int (0 : Int32))] [(.ref u1), (.int (0 : Int32))]))
    obtain ⟨cl13, Ar13, qc13, Sz13, Nn13, Hs13, Gf13⟩ := id V_u1
    have hlen13 : cl13.slots.size.toInt32 = (Int32.ofNat 5) := len_of Sz13 Nn13
    refine own_up (fun tx kx => X0.arraylength hx (own_ar e0 Ar13.1) (State.isArrayOf_alike hZ.alike Ar13.2.1) (g := (mkF m 11 #[.val (.ref u1), .val (.ref u2), .val (.int (0 : Int32))] [(.ref u1), (.int (0 : Int32))])) rfl rfl (hb hby d10_11) _ kx) ?_
    rw [hlen13]
    show OwnOk p e below _ (s₁.setTop (mkF m 12 #[.val (.ref u1), .val (.ref u2), .val (.int (0 : Int32))] [(.int (Int32.ofNat 5)), (.int (0 : Int32))]))
    refine own_up (fun tx kx => XS.icmpNo X0.here hx rfl (hb hby d10_12) rfl (tlt (by decide)).2.1 kx) ?_
    show OwnOk p e below _ (s₁.setTop (mkF m 15 #[.val (.ref u1), .val (.ref u2), .val (.int (0 : Int32))] []))
    refine own_up (fun tx kx => XS.aloadN X0.here hx rfl (hb hby d10_15) rfl rfl kx) ?_
    show OwnOk p e below _ (s₁.setTop (mkF m 16 #[.val (.ref u1), .val (.ref u2), .val (.int (0 : Int32))] [(.ref u1)]))
    refine own_up (fun tx kx => XS.iloadN X0.here hx rfl (hb hby d10_16) rfl kx) ?_
    show OwnOk p e below _ (s₁.setTop (mkF m 17 #[.val (.ref u1), .val (.ref u2), .val (.int (0 : Int32))] [(.int (0 : Int32)), (.ref u1)]))
    obtain ⟨cl14, Ar14, qc14, Sz14, Nn14, Hs14, Gf14⟩ := id V_u1
    have hin14 : ¬ ((0 : Int32) < 0 ∨ cl14.slots.size ≤ ((0 : Int32)).toNatClampNeg) := inb_of Sz14 ⟨by decide, by decide⟩
    have hat14 : cl14.slots[((0 : Int32)).toNatClampNeg]? = some (.int (f1 0)) := Hs14.at hin14 rfl
    refine own_up (fun tx kx => X0.baloadBytes hx (j := (0 : Int32)) (v := (.int (f1 0))) (own_ar e0 Ar14.1) (State.isArrayOf_alike hZ.alike Ar14.2.1) Ar14.2.2 hin14 hat14 (g := (mkF m 17 #[.val (.ref u1), .val (.ref u2), .val (.int (0 : Int32))] [(.int (0 : Int32)), (.ref u1)])) rfl rfl (hb hby d10_17) _ kx) ?_
    show OwnOk p e below _ (s₁.setTop (mkF m 18 #[.val (.ref u1), .val (.ref u2), .val (.int (0 : Int32))] [(.int (f1 0))]))
    refine own_up (fun tx kx => XS.aloadN X0.here hx rfl (hb hby d10_18) rfl rfl kx) ?_
    show OwnOk p e below _ (s₁.setTop (mkF m 19 #[.val (.ref u1), .val (.ref u2), .val (.int (0 : Int32))] [(.ref u2), (.int (f1 0))]))
    refine own_up (fun tx kx => XS.iloadN X0.here hx rfl (hb hby d10_19) rfl kx) ?_
    show OwnOk p e below _ (s₁.setTop (mkF m 20 #[.val (.ref u1), .val (.ref u2), .val (.int (0 : Int32))] [(.int (0 : Int32)), (.ref u2), (.int (f1 0))]))
    obtain ⟨cl15, Ar15, qc15, Sz15, Nn15, Hs15, Gf15⟩ := id V_u2
    have hin15 : ¬ ((0 : Int32) < 0 ∨ cl15.slots.size ≤ ((0 : Int32)).toNatClampNeg) := inb_of Sz15 ⟨by decide, by decide⟩
    have hat15 : cl15.slots[((0 : Int32)).toNatClampNeg]? = some (.int (f2 0)) := Hs15.at hin15 rfl
    refine own_up (fun tx kx => X0.baloadBytes hx (j := (0 : Int32)) (v := (.int (f2 0))) (own_ar e0 Ar15.1) (State.isArrayOf_alike hZ.alike Ar15.2.1) Ar15.2.2 hin15 hat15 (g := (mkF m 20 #[.val (.ref u1), .val (.ref u2), .val (.int (0 : Int32))] [(.int (0 : Int32)), (.ref u2), (.int (f1 0))])) rfl rfl (hb hby d10_20) _ kx) ?_
    show OwnOk p e below _ (s₁.setTop (mkF m 21 #[.val (.ref u1), .val (.ref u2), .val (.int (0 : Int32))] [(.int (f2 0)), (.int (f1 0))]))
    by_cases hq0 : (f1 0) = (f2 0)
    case neg =>
      refine own_up (fun tx kx => XS.icmpNo X0.here hx rfl (hb hby d10_21) rfl (feq hq0).1 kx) ?_
      show OwnOk p e below _ (s₁.setTop (mkF m 24 #[.val (.ref u1), .val (.ref u2), .val (.int (0 : Int32))] []))
      refine own_up (fun tx kx => XS.iconst X0.here hx rfl (hb hby d10_24) kx) ?_
      show OwnOk p e below _ (s₁.setTop (mkF m 25 #[.val (.ref u1), .val (.ref u2), .val (.int (0 : Int32))] [(.int (0 : Int32))]))
      refine own_retN X0 hx (t := .boolean) (show meth.sig.returnType = some .boolean from hret) (by simp) hlk (hb hby d10_25) (z' := own_eqI 5 f1 5 f2) (by unfold own_eqI; rw [if_neg (fun q => hq0 q.2.1)]; rfl) e0 (Nat.le_of_ble_eq_true rfl) (Nat.le_of_ble_eq_true rfl) ?_
      exact ⟨rfl, N0, rfl⟩
    refine own_up (fun tx kx => XS.icmpYes X0.here hx rfl (pc0 := 21) (pc' := 26) rfl (hb hby d10_21) rfl (teq hq0).1 (by decide) (by decide) kx) ?_
    show OwnOk p e below _ (s₁.setTop (mkF m 26 #[.val (.ref u1), .val (.ref u2), .val (.int (0 : Int32))] []))
    have hi26_16 : ((0 : Int32) + (1 : Int32)) = (1 : Int32) := by decide
    refine own_up (fun tx kx => XS.iinc X0.here hx rfl (hb hby d10_26) rfl (l' := #[.val (.ref u1), .val (.ref u2), .val (.int ((0 : Int32) + (1 : Int32)))]) rfl kx) ?_
    rw [hi26_16]
    show OwnOk p e below _ (s₁.setTop (mkF m 29 #[.val (.ref u1), .val (.ref u2), .val (.int (1 : Int32))] []))
    refine own_up (fun tx kx => XS.goto X0.here hx rfl (pc0 := 29) (pc' := 9) rfl (hb hby d10_29) (by decide) (by decide) kx) ?_
    show OwnOk p e below _ (s₁.setTop (mkF m 9 #[.val (.ref u1), .val (.ref u2), .val (.int (1 : Int32))] []))
    refine own_up (fun tx kx => XS.iloadN X0.here hx rfl (hb hby d10_9) rfl kx) ?_
    show OwnOk p e below _ (s₁.setTop (mkF m 10 #[.val (.ref u1), .val (.ref u2), .val (.int (1 : Int32))] [(.int (1 : Int32))]))
    refine own_up (fun tx kx => XS.aloadN X0.here hx rfl (hb hby d10_10) rfl rfl kx) ?_
    show OwnOk p e below _ (s₁.setTop (mkF m 11 #[.val (.ref u1), .val (.ref u2), .val (.int (1 : Int32))] [(.ref u1), (.int (1 : Int32))]))
    obtain ⟨cl17, Ar17, qc17, Sz17, Nn17, Hs17, Gf17⟩ := id V_u1
    have hlen17 : cl17.slots.size.toInt32 = (Int32.ofNat 5) := len_of Sz17 Nn17
    refine own_up (fun tx kx => X0.arraylength hx (own_ar e0 Ar17.1) (State.isArrayOf_alike hZ.alike Ar17.2.1) (g := (mkF m 11 #[.val (.ref u1), .val (.ref u2), .val (.int (1 : Int32))] [(.ref u1), (.int (1 : Int32))])) rfl rfl (hb hby d10_11) _ kx) ?_
    rw [hlen17]
    show OwnOk p e below _ (s₁.setTop (mkF m 12 #[.val (.ref u1), .val (.ref u2), .val (.int (1 : Int32))] [(.int (Int32.ofNat 5)), (.int (1 : Int32))]))
    refine own_up (fun tx kx => XS.icmpNo X0.here hx rfl (hb hby d10_12) rfl (tlt (by decide)).2.1 kx) ?_
    show OwnOk p e below _ (s₁.setTop (mkF m 15 #[.val (.ref u1), .val (.ref u2), .val (.int (1 : Int32))] []))
    refine own_up (fun tx kx => XS.aloadN X0.here hx rfl (hb hby d10_15) rfl rfl kx) ?_
    show OwnOk p e below _ (s₁.setTop (mkF m 16 #[.val (.ref u1), .val (.ref u2), .val (.int (1 : Int32))] [(.ref u1)]))
    refine own_up (fun tx kx => XS.iloadN X0.here hx rfl (hb hby d10_16) rfl kx) ?_
    show OwnOk p e below _ (s₁.setTop (mkF m 17 #[.val (.ref u1), .val (.ref u2), .val (.int (1 : Int32))] [(.int (1 : Int32)), (.ref u1)]))
    obtain ⟨cl18, Ar18, qc18, Sz18, Nn18, Hs18, Gf18⟩ := id V_u1
    have hin18 : ¬ ((1 : Int32) < 0 ∨ cl18.slots.size ≤ ((1 : Int32)).toNatClampNeg) := inb_of Sz18 ⟨by decide, by decide⟩
    have hat18 : cl18.slots[((1 : Int32)).toNatClampNeg]? = some (.int (f1 1)) := Hs18.at hin18 rfl
    refine own_up (fun tx kx => X0.baloadBytes hx (j := (1 : Int32)) (v := (.int (f1 1))) (own_ar e0 Ar18.1) (State.isArrayOf_alike hZ.alike Ar18.2.1) Ar18.2.2 hin18 hat18 (g := (mkF m 17 #[.val (.ref u1), .val (.ref u2), .val (.int (1 : Int32))] [(.int (1 : Int32)), (.ref u1)])) rfl rfl (hb hby d10_17) _ kx) ?_
    show OwnOk p e below _ (s₁.setTop (mkF m 18 #[.val (.ref u1), .val (.ref u2), .val (.int (1 : Int32))] [(.int (f1 1))]))
    refine own_up (fun tx kx => XS.aloadN X0.here hx rfl (hb hby d10_18) rfl rfl kx) ?_
    show OwnOk p e below _ (s₁.setTop (mkF m 19 #[.val (.ref u1), .val (.ref u2), .val (.int (1 : Int32))] [(.ref u2), (.int (f1 1))]))
    refine own_up (fun tx kx => XS.iloadN X0.here hx rfl (hb hby d10_19) rfl kx) ?_
    show OwnOk p e below _ (s₁.setTop (mkF m 20 #[.val (.ref u1), .val (.ref u2), .val (.int (1 : Int32))] [(.int (1 : Int32)), (.ref u2), (.int (f1 1))]))
    obtain ⟨cl19, Ar19, qc19, Sz19, Nn19, Hs19, Gf19⟩ := id V_u2
    have hin19 : ¬ ((1 : Int32) < 0 ∨ cl19.slots.size ≤ ((1 : Int32)).toNatClampNeg) := inb_of Sz19 ⟨by decide, by decide⟩
    have hat19 : cl19.slots[((1 : Int32)).toNatClampNeg]? = some (.int (f2 1)) := Hs19.at hin19 rfl
    refine own_up (fun tx kx => X0.baloadBytes hx (j := (1 : Int32)) (v := (.int (f2 1))) (own_ar e0 Ar19.1) (State.isArrayOf_alike hZ.alike Ar19.2.1) Ar19.2.2 hin19 hat19 (g := (mkF m 20 #[.val (.ref u1), .val (.ref u2), .val (.int (1 : Int32))] [(.int (1 : Int32)), (.ref u2), (.int (f1 1))])) rfl rfl (hb hby d10_20) _ kx) ?_
    show OwnOk p e below _ (s₁.setTop (mkF m 21 #[.val (.ref u1), .val (.ref u2), .val (.int (1 : Int32))] [(.int (f2 1)), (.int (f1 1))]))
    by_cases hq1 : (f1 1) = (f2 1)
    case neg =>
      refine own_up (fun tx kx => XS.icmpNo X0.here hx rfl (hb hby d10_21) rfl (feq hq1).1 kx) ?_
      show OwnOk p e below _ (s₁.setTop (mkF m 24 #[.val (.ref u1), .val (.ref u2), .val (.int (1 : Int32))] []))
      refine own_up (fun tx kx => XS.iconst X0.here hx rfl (hb hby d10_24) kx) ?_
      show OwnOk p e below _ (s₁.setTop (mkF m 25 #[.val (.ref u1), .val (.ref u2), .val (.int (1 : Int32))] [(.int (0 : Int32))]))
      refine own_retN X0 hx (t := .boolean) (show meth.sig.returnType = some .boolean from hret) (by simp) hlk (hb hby d10_25) (z' := own_eqI 5 f1 5 f2) (by unfold own_eqI; rw [if_neg (fun q => hq1 q.2.2.1)]; rfl) e0 (Nat.le_of_ble_eq_true rfl) (Nat.le_of_ble_eq_true rfl) ?_
      exact ⟨rfl, N0, rfl⟩
    refine own_up (fun tx kx => XS.icmpYes X0.here hx rfl (pc0 := 21) (pc' := 26) rfl (hb hby d10_21) rfl (teq hq1).1 (by decide) (by decide) kx) ?_
    show OwnOk p e below _ (s₁.setTop (mkF m 26 #[.val (.ref u1), .val (.ref u2), .val (.int (1 : Int32))] []))
    have hi26_20 : ((1 : Int32) + (1 : Int32)) = (2 : Int32) := by decide
    refine own_up (fun tx kx => XS.iinc X0.here hx rfl (hb hby d10_26) rfl (l' := #[.val (.ref u1), .val (.ref u2), .val (.int ((1 : Int32) + (1 : Int32)))]) rfl kx) ?_
    rw [hi26_20]
    show OwnOk p e below _ (s₁.setTop (mkF m 29 #[.val (.ref u1), .val (.ref u2), .val (.int (2 : Int32))] []))
    refine own_up (fun tx kx => XS.goto X0.here hx rfl (pc0 := 29) (pc' := 9) rfl (hb hby d10_29) (by decide) (by decide) kx) ?_
    show OwnOk p e below _ (s₁.setTop (mkF m 9 #[.val (.ref u1), .val (.ref u2), .val (.int (2 : Int32))] []))
    refine own_up (fun tx kx => XS.iloadN X0.here hx rfl (hb hby d10_9) rfl kx) ?_
    show OwnOk p e below _ (s₁.setTop (mkF m 10 #[.val (.ref u1), .val (.ref u2), .val (.int (2 : Int32))] [(.int (2 : Int32))]))
    refine own_up (fun tx kx => XS.aloadN X0.here hx rfl (hb hby d10_10) rfl rfl kx) ?_
    show OwnOk p e below _ (s₁.setTop (mkF m 11 #[.val (.ref u1), .val (.ref u2), .val (.int (2 : Int32))] [(.ref u1), (.int (2 : Int32))]))
    obtain ⟨cl21, Ar21, qc21, Sz21, Nn21, Hs21, Gf21⟩ := id V_u1
    have hlen21 : cl21.slots.size.toInt32 = (Int32.ofNat 5) := len_of Sz21 Nn21
    refine own_up (fun tx kx => X0.arraylength hx (own_ar e0 Ar21.1) (State.isArrayOf_alike hZ.alike Ar21.2.1) (g := (mkF m 11 #[.val (.ref u1), .val (.ref u2), .val (.int (2 : Int32))] [(.ref u1), (.int (2 : Int32))])) rfl rfl (hb hby d10_11) _ kx) ?_
    rw [hlen21]
    show OwnOk p e below _ (s₁.setTop (mkF m 12 #[.val (.ref u1), .val (.ref u2), .val (.int (2 : Int32))] [(.int (Int32.ofNat 5)), (.int (2 : Int32))]))
    refine own_up (fun tx kx => XS.icmpNo X0.here hx rfl (hb hby d10_12) rfl (tlt (by decide)).2.1 kx) ?_
    show OwnOk p e below _ (s₁.setTop (mkF m 15 #[.val (.ref u1), .val (.ref u2), .val (.int (2 : Int32))] []))
    refine own_up (fun tx kx => XS.aloadN X0.here hx rfl (hb hby d10_15) rfl rfl kx) ?_
    show OwnOk p e below _ (s₁.setTop (mkF m 16 #[.val (.ref u1), .val (.ref u2), .val (.int (2 : Int32))] [(.ref u1)]))
    refine own_up (fun tx kx => XS.iloadN X0.here hx rfl (hb hby d10_16) rfl kx) ?_
    show OwnOk p e below _ (s₁.setTop (mkF m 17 #[.val (.ref u1), .val (.ref u2), .val (.int (2 : Int32))] [(.int (2 : Int32)), (.ref u1)]))
    obtain ⟨cl22, Ar22, qc22, Sz22, Nn22, Hs22, Gf22⟩ := id V_u1
    have hin22 : ¬ ((2 : Int32) < 0 ∨ cl22.slots.size ≤ ((2 : Int32)).toNatClampNeg) := inb_of Sz22 ⟨by decide, by decide⟩
    have hat22 : cl22.slots[((2 : Int32)).toNatClampNeg]? = some (.int (f1 2)) := Hs22.at hin22 rfl
    refine own_up (fun tx kx => X0.baloadBytes hx (j := (2 : Int32)) (v := (.int (f1 2))) (own_ar e0 Ar22.1) (State.isArrayOf_alike hZ.alike Ar22.2.1) Ar22.2.2 hin22 hat22 (g := (mkF m 17 #[.val (.ref u1), .val (.ref u2), .val (.int (2 : Int32))] [(.int (2 : Int32)), (.ref u1)])) rfl rfl (hb hby d10_17) _ kx) ?_
    show OwnOk p e below _ (s₁.setTop (mkF m 18 #[.val (.ref u1), .val (.ref u2), .val (.int (2 : Int32))] [(.int (f1 2))]))
    refine own_up (fun tx kx => XS.aloadN X0.here hx rfl (hb hby d10_18) rfl rfl kx) ?_
    show OwnOk p e below _ (s₁.setTop (mkF m 19 #[.val (.ref u1), .val (.ref u2), .val (.int (2 : Int32))] [(.ref u2), (.int (f1 2))]))
    refine own_up (fun tx kx => XS.iloadN X0.here hx rfl (hb hby d10_19) rfl kx) ?_
    show OwnOk p e below _ (s₁.setTop (mkF m 20 #[.val (.ref u1), .val (.ref u2), .val (.int (2 : Int32))] [(.int (2 : Int32)), (.ref u2), (.int (f1 2))]))
    obtain ⟨cl23, Ar23, qc23, Sz23, Nn23, Hs23, Gf23⟩ := id V_u2
    have hin23 : ¬ ((2 : Int32) < 0 ∨ cl23.slots.size ≤ ((2 : Int32)).toNatClampNeg) := inb_of Sz23 ⟨by decide, by decide⟩
    have hat23 : cl23.slots[((2 : Int32)).toNatClampNeg]? = some (.int (f2 2)) := Hs23.at hin23 rfl
    refine own_up (fun tx kx => X0.baloadBytes hx (j := (2 : Int32)) (v := (.int (f2 2))) (own_ar e0 Ar23.1) (State.isArrayOf_alike hZ.alike Ar23.2.1) Ar23.2.2 hin23 hat23 (g := (mkF m 20 #[.val (.ref u1), .val (.ref u2), .val (.int (2 : Int32))] [(.int (2 : Int32)), (.ref u2), (.int (f1 2))])) rfl rfl (hb hby d10_20) _ kx) ?_
    show OwnOk p e below _ (s₁.setTop (mkF m 21 #[.val (.ref u1), .val (.ref u2), .val (.int (2 : Int32))] [(.int (f2 2)), (.int (f1 2))]))
    by_cases hq2 : (f1 2) = (f2 2)
    case neg =>
      refine own_up (fun tx kx => XS.icmpNo X0.here hx rfl (hb hby d10_21) rfl (feq hq2).1 kx) ?_
      show OwnOk p e below _ (s₁.setTop (mkF m 24 #[.val (.ref u1), .val (.ref u2), .val (.int (2 : Int32))] []))
      refine own_up (fun tx kx => XS.iconst X0.here hx rfl (hb hby d10_24) kx) ?_
      show OwnOk p e below _ (s₁.setTop (mkF m 25 #[.val (.ref u1), .val (.ref u2), .val (.int (2 : Int32))] [(.int (0 : Int32))]))
      refine own_retN X0 hx (t := .boolean) (show meth.sig.returnType = some .boolean from hret) (by simp) hlk (hb hby d10_25) (z' := own_eqI 5 f1 5 f2) (by unfold own_eqI; rw [if_neg (fun q => hq2 q.2.2.2.1)]; rfl) e0 (Nat.le_of_ble_eq_true rfl) (Nat.le_of_ble_eq_true rfl) ?_
      exact ⟨rfl, N0, rfl⟩
    refine own_up (fun tx kx => XS.icmpYes X0.here hx rfl (pc0 := 21) (pc' := 26) rfl (hb hby d10_21) rfl (teq hq2).1 (by decide) (by decide) kx) ?_
    show OwnOk p e below _ (s₁.setTop (mkF m 26 #[.val (.ref u1), .val (.ref u2), .val (.int (2 : Int32))] []))
    have hi26_24 : ((2 : Int32) + (1 : Int32)) = (3 : Int32) := by decide
    refine own_up (fun tx kx => XS.iinc X0.here hx rfl (hb hby d10_26) rfl (l' := #[.val (.ref u1), .val (.ref u2), .val (.int ((2 : Int32) + (1 : Int32)))]) rfl kx) ?_
    rw [hi26_24]
    show OwnOk p e below _ (s₁.setTop (mkF m 29 #[.val (.ref u1), .val (.ref u2), .val (.int (3 : Int32))] []))
    refine own_up (fun tx kx => XS.goto X0.here hx rfl (pc0 := 29) (pc' := 9) rfl (hb hby d10_29) (by decide) (by decide) kx) ?_
    show OwnOk p e below _ (s₁.setTop (mkF m 9 #[.val (.ref u1), .val (.ref u2), .val (.int (3 : Int32))] []))
    refine own_up (fun tx kx => XS.iloadN X0.here hx rfl (hb hby d10_9) rfl kx) ?_
    show OwnOk p e below _ (s₁.setTop (mkF m 10 #[.val (.ref u1), .val (.ref u2), .val (.int (3 : Int32))] [(.int (3 : Int32))]))
    refine own_up (fun tx kx => XS.aloadN X0.here hx rfl (hb hby d10_10) rfl rfl kx) ?_
    show OwnOk p e below _ (s₁.setTop (mkF m 11 #[.val (.ref u1), .val (.ref u2), .val (.int (3 : Int32))] [(.ref u1), (.int (3 : Int32))]))
    obtain ⟨cl25, Ar25, qc25, Sz25, Nn25, Hs25, Gf25⟩ := id V_u1
    have hlen25 : cl25.slots.size.toInt32 = (Int32.ofNat 5) := len_of Sz25 Nn25
    refine own_up (fun tx kx => X0.arraylength hx (own_ar e0 Ar25.1) (State.isArrayOf_alike hZ.alike Ar25.2.1) (g := (mkF m 11 #[.val (.ref u1), .val (.ref u2), .val (.int (3 : Int32))] [(.ref u1), (.int (3 : Int32))])) rfl rfl (hb hby d10_11) _ kx) ?_
    rw [hlen25]
    show OwnOk p e below _ (s₁.setTop (mkF m 12 #[.val (.ref u1), .val (.ref u2), .val (.int (3 : Int32))] [(.int (Int32.ofNat 5)), (.int (3 : Int32))]))
    refine own_up (fun tx kx => XS.icmpNo X0.here hx rfl (hb hby d10_12) rfl (tlt (by decide)).2.1 kx) ?_
    show OwnOk p e below _ (s₁.setTop (mkF m 15 #[.val (.ref u1), .val (.ref u2), .val (.int (3 : Int32))] []))
    refine own_up (fun tx kx => XS.aloadN X0.here hx rfl (hb hby d10_15) rfl rfl kx) ?_
    show OwnOk p e below _ (s₁.setTop (mkF m 16 #[.val (.ref u1), .val (.ref u2), .val (.int (3 : Int32))] [(.ref u1)]))
    refine own_up (fun tx kx => XS.iloadN X0.here hx rfl (hb hby d10_16) rfl kx) ?_
    show OwnOk p e below _ (s₁.setTop (mkF m 17 #[.val (.ref u1), .val (.ref u2), .val (.int (3 : Int32))] [(.int (3 : Int32)), (.ref u1)]))
    obtain ⟨cl26, Ar26, qc26, Sz26, Nn26, Hs26, Gf26⟩ := id V_u1
    have hin26 : ¬ ((3 : Int32) < 0 ∨ cl26.slots.size ≤ ((3 : Int32)).toNatClampNeg) := inb_of Sz26 ⟨by decide, by decide⟩
    have hat26 : cl26.slots[((3 : Int32)).toNatClampNeg]? = some (.int (f1 3)) := Hs26.at hin26 rfl
    refine own_up (fun tx kx => X0.baloadBytes hx (j := (3 : Int32)) (v := (.int (f1 3))) (own_ar e0 Ar26.1) (State.isArrayOf_alike hZ.alike Ar26.2.1) Ar26.2.2 hin26 hat26 (g := (mkF m 17 #[.val (.ref u1), .val (.ref u2), .val (.int (3 : Int32))] [(.int (3 : Int32)), (.ref u1)])) rfl rfl (hb hby d10_17) _ kx) ?_
    show OwnOk p e below _ (s₁.setTop (mkF m 18 #[.val (.ref u1), .val (.ref u2), .val (.int (3 : Int32))] [(.int (f1 3))]))
    refine own_up (fun tx kx => XS.aloadN X0.here hx rfl (hb hby d10_18) rfl rfl kx) ?_
    show OwnOk p e below _ (s₁.setTop (mkF m 19 #[.val (.ref u1), .val (.ref u2), .val (.int (3 : Int32))] [(.ref u2), (.int (f1 3))]))
    refine own_up (fun tx kx => XS.iloadN X0.here hx rfl (hb hby d10_19) rfl kx) ?_
    show OwnOk p e below _ (s₁.setTop (mkF m 20 #[.val (.ref u1), .val (.ref u2), .val (.int (3 : Int32))] [(.int (3 : Int32)), (.ref u2), (.int (f1 3))]))
    obtain ⟨cl27, Ar27, qc27, Sz27, Nn27, Hs27, Gf27⟩ := id V_u2
    have hin27 : ¬ ((3 : Int32) < 0 ∨ cl27.slots.size ≤ ((3 : Int32)).toNatClampNeg) := inb_of Sz27 ⟨by decide, by decide⟩
    have hat27 : cl27.slots[((3 : Int32)).toNatClampNeg]? = some (.int (f2 3)) := Hs27.at hin27 rfl
    refine own_up (fun tx kx => X0.baloadBytes hx (j := (3 : Int32)) (v := (.int (f2 3))) (own_ar e0 Ar27.1) (State.isArrayOf_alike hZ.alike Ar27.2.1) Ar27.2.2 hin27 hat27 (g := (mkF m 20 #[.val (.ref u1), .val (.ref u2), .val (.int (3 : Int32))] [(.int (3 : Int32)), (.ref u2), (.int (f1 3))])) rfl rfl (hb hby d10_20) _ kx) ?_
    show OwnOk p e below _ (s₁.setTop (mkF m 21 #[.val (.ref u1), .val (.ref u2), .val (.int (3 : Int32))] [(.int (f2 3)), (.int (f1 3))]))
    by_cases hq3 : (f1 3) = (f2 3)
    case neg =>
      refine own_up (fun tx kx => XS.icmpNo X0.here hx rfl (hb hby d10_21) rfl (feq hq3).1 kx) ?_
      show OwnOk p e below _ (s₁.setTop (mkF m 24 #[.val (.ref u1), .val (.ref u2), .val (.int (3 : Int32))] []))
      refine own_up (fun tx kx => XS.iconst X0.here hx rfl (hb hby d10_24) kx) ?_
      show OwnOk p e below _ (s₁.setTop (mkF m 25 #[.val (.ref u1), .val (.ref u2), .val (.int (3 : Int32))] [(.int (0 : Int32))]))
      refine own_retN X0 hx (t := .boolean) (show meth.sig.returnType = some .boolean from hret) (by simp) hlk (hb hby d10_25) (z' := own_eqI 5 f1 5 f2) (by unfold own_eqI; rw [if_neg (fun q => hq3 q.2.2.2.2.1)]; rfl) e0 (Nat.le_of_ble_eq_true rfl) (Nat.le_of_ble_eq_true rfl) ?_
      exact ⟨rfl, N0, rfl⟩
    refine own_up (fun tx kx => XS.icmpYes X0.here hx rfl (pc0 := 21) (pc' := 26) rfl (hb hby d10_21) rfl (teq hq3).1 (by decide) (by decide) kx) ?_
    show OwnOk p e below _ (s₁.setTop (mkF m 26 #[.val (.ref u1), .val (.ref u2), .val (.int (3 : Int32))] []))
    have hi26_28 : ((3 : Int32) + (1 : Int32)) = (4 : Int32) := by decide
    refine own_up (fun tx kx => XS.iinc X0.here hx rfl (hb hby d10_26) rfl (l' := #[.val (.ref u1), .val (.ref u2), .val (.int ((3 : Int32) + (1 : Int32)))]) rfl kx) ?_
    rw [hi26_28]
    show OwnOk p e below _ (s₁.setTop (mkF m 29 #[.val (.ref u1), .val (.ref u2), .val (.int (4 : Int32))] []))
    refine own_up (fun tx kx => XS.goto X0.here hx rfl (pc0 := 29) (pc' := 9) rfl (hb hby d10_29) (by decide) (by decide) kx) ?_
    show OwnOk p e below _ (s₁.setTop (mkF m 9 #[.val (.ref u1), .val (.ref u2), .val (.int (4 : Int32))] []))
    refine own_up (fun tx kx => XS.iloadN X0.here hx rfl (hb hby d10_9) rfl kx) ?_
    show OwnOk p e below _ (s₁.setTop (mkF m 10 #[.val (.ref u1), .val (.ref u2), .val (.int (4 : Int32))] [(.int (4 : Int32))]))
    refine own_up (fun tx kx => XS.aloadN X0.here hx rfl (hb hby d10_10) rfl rfl kx) ?_
    show OwnOk p e below _ (s₁.setTop (mkF m 11 #[.val (.ref u1), .val (.ref u2), .val (.int (4 : Int32))] [(.ref u1), (.int (4 : Int32))]))
    obtain ⟨cl29, Ar29, qc29, Sz29, Nn29, Hs29, Gf29⟩ := id V_u1
    have hlen29 : cl29.slots.size.toInt32 = (Int32.ofNat 5) := len_of Sz29 Nn29
    refine own_up (fun tx kx => X0.arraylength hx (own_ar e0 Ar29.1) (State.isArrayOf_alike hZ.alike Ar29.2.1) (g := (mkF m 11 #[.val (.ref u1), .val (.ref u2), .val (.int (4 : Int32))] [(.ref u1), (.int (4 : Int32))])) rfl rfl (hb hby d10_11) _ kx) ?_
    rw [hlen29]
    show OwnOk p e below _ (s₁.setTop (mkF m 12 #[.val (.ref u1), .val (.ref u2), .val (.int (4 : Int32))] [(.int (Int32.ofNat 5)), (.int (4 : Int32))]))
    refine own_up (fun tx kx => XS.icmpNo X0.here hx rfl (hb hby d10_12) rfl (tlt (by decide)).2.1 kx) ?_
    show OwnOk p e below _ (s₁.setTop (mkF m 15 #[.val (.ref u1), .val (.ref u2), .val (.int (4 : Int32))] []))
    refine own_up (fun tx kx => XS.aloadN X0.here hx rfl (hb hby d10_15) rfl rfl kx) ?_
    show OwnOk p e below _ (s₁.setTop (mkF m 16 #[.val (.ref u1), .val (.ref u2), .val (.int (4 : Int32))] [(.ref u1)]))
    refine own_up (fun tx kx => XS.iloadN X0.here hx rfl (hb hby d10_16) rfl kx) ?_
    show OwnOk p e below _ (s₁.setTop (mkF m 17 #[.val (.ref u1), .val (.ref u2), .val (.int (4 : Int32))] [(.int (4 : Int32)), (.ref u1)]))
    obtain ⟨cl30, Ar30, qc30, Sz30, Nn30, Hs30, Gf30⟩ := id V_u1
    have hin30 : ¬ ((4 : Int32) < 0 ∨ cl30.slots.size ≤ ((4 : Int32)).toNatClampNeg) := inb_of Sz30 ⟨by decide, by decide⟩
    have hat30 : cl30.slots[((4 : Int32)).toNatClampNeg]? = some (.int (f1 4)) := Hs30.at hin30 rfl
    refine own_up (fun tx kx => X0.baloadBytes hx (j := (4 : Int32)) (v := (.int (f1 4))) (own_ar e0 Ar30.1) (State.isArrayOf_alike hZ.alike Ar30.2.1) Ar30.2.2 hin30 hat30 (g := (mkF m 17 #[.val (.ref u1), .val (.ref u2), .val (.int (4 : Int32))] [(.int (4 : Int32)), (.ref u1)])) rfl rfl (hb hby d10_17) _ kx) ?_
    show OwnOk p e below _ (s₁.setTop (mkF m 18 #[.val (.ref u1), .val (.ref u2), .val (.int (4 : Int32))] [(.int (f1 4))]))
    refine own_up (fun tx kx => XS.aloadN X0.here hx rfl (hb hby d10_18) rfl rfl kx) ?_
    show OwnOk p e below _ (s₁.setTop (mkF m 19 #[.val (.ref u1), .val (.ref u2), .val (.int (4 : Int32))] [(.ref u2), (.int (f1 4))]))
    refine own_up (fun tx kx => XS.iloadN X0.here hx rfl (hb hby d10_19) rfl kx) ?_
    show OwnOk p e below _ (s₁.setTop (mkF m 20 #[.val (.ref u1), .val (.ref u2), .val (.int (4 : Int32))] [(.int (4 : Int32)), (.ref u2), (.int (f1 4))]))
    obtain ⟨cl31, Ar31, qc31, Sz31, Nn31, Hs31, Gf31⟩ := id V_u2
    have hin31 : ¬ ((4 : Int32) < 0 ∨ cl31.slots.size ≤ ((4 : Int32)).toNatClampNeg) := inb_of Sz31 ⟨by decide, by decide⟩
    have hat31 : cl31.slots[((4 : Int32)).toNatClampNeg]? = some (.int (f2 4)) := Hs31.at hin31 rfl
    refine own_up (fun tx kx => X0.baloadBytes hx (j := (4 : Int32)) (v := (.int (f2 4))) (own_ar e0 Ar31.1) (State.isArrayOf_alike hZ.alike Ar31.2.1) Ar31.2.2 hin31 hat31 (g := (mkF m 20 #[.val (.ref u1), .val (.ref u2), .val (.int (4 : Int32))] [(.int (4 : Int32)), (.ref u2), (.int (f1 4))])) rfl rfl (hb hby d10_20) _ kx) ?_
    show OwnOk p e below _ (s₁.setTop (mkF m 21 #[.val (.ref u1), .val (.ref u2), .val (.int (4 : Int32))] [(.int (f2 4)), (.int (f1 4))]))
    by_cases hq4 : (f1 4) = (f2 4)
    case neg =>
      refine own_up (fun tx kx => XS.icmpNo X0.here hx rfl (hb hby d10_21) rfl (feq hq4).1 kx) ?_
      show OwnOk p e below _ (s₁.setTop (mkF m 24 #[.val (.ref u1), .val (.ref u2), .val (.int (4 : Int32))] []))
      refine own_up (fun tx kx => XS.iconst X0.here hx rfl (hb hby d10_24) kx) ?_
      show OwnOk p e below _ (s₁.setTop (mkF m 25 #[.val (.ref u1), .val (.ref u2), .val (.int (4 : Int32))] [(.int (0 : Int32))]))
      refine own_retN X0 hx (t := .boolean) (show meth.sig.returnType = some .boolean from hret) (by simp) hlk (hb hby d10_25) (z' := own_eqI 5 f1 5 f2) (by unfold own_eqI; rw [if_neg (fun q => hq4 q.2.2.2.2.2)]; rfl) e0 (Nat.le_of_ble_eq_true rfl) (Nat.le_of_ble_eq_true rfl) ?_
      exact ⟨rfl, N0, rfl⟩
    refine own_up (fun tx kx => XS.icmpYes X0.here hx rfl (pc0 := 21) (pc' := 26) rfl (hb hby d10_21) rfl (teq hq4).1 (by decide) (by decide) kx) ?_
    show OwnOk p e below _ (s₁.setTop (mkF m 26 #[.val (.ref u1), .val (.ref u2), .val (.int (4 : Int32))] []))
    have hi26_32 : ((4 : Int32) + (1 : Int32)) = (5 : Int32) := by decide
    refine own_up (fun tx kx => XS.iinc X0.here hx rfl (hb hby d10_26) rfl (l' := #[.val (.ref u1), .val (.ref u2), .val (.int ((4 : Int32) + (1 : Int32)))]) rfl kx) ?_
    rw [hi26_32]
    show OwnOk p e below _ (s₁.setTop (mkF m 29 #[.val (.ref u1), .val (.ref u2), .val (.int (5 : Int32))] []))
    refine own_up (fun tx kx => XS.goto X0.here hx rfl (pc0 := 29) (pc' := 9) rfl (hb hby d10_29) (by decide) (by decide) kx) ?_
    show OwnOk p e below _ (s₁.setTop (mkF m 9 #[.val (.ref u1), .val (.ref u2), .val (.int (5 : Int32))] []))
    refine own_up (fun tx kx => XS.iloadN X0.here hx rfl (hb hby d10_9) rfl kx) ?_
    show OwnOk p e below _ (s₁.setTop (mkF m 10 #[.val (.ref u1), .val (.ref u2), .val (.int (5 : Int32))] [(.int (5 : Int32))]))
    refine own_up (fun tx kx => XS.aloadN X0.here hx rfl (hb hby d10_10) rfl rfl kx) ?_
    show OwnOk p e below _ (s₁.setTop (mkF m 11 #[.val (.ref u1), .val (.ref u2), .val (.int (5 : Int32))] [(.ref u1), (.int (5 : Int32))]))
    obtain ⟨cl33, Ar33, qc33, Sz33, Nn33, Hs33, Gf33⟩ := id V_u1
    have hlen33 : cl33.slots.size.toInt32 = (Int32.ofNat 5) := len_of Sz33 Nn33
    refine own_up (fun tx kx => X0.arraylength hx (own_ar e0 Ar33.1) (State.isArrayOf_alike hZ.alike Ar33.2.1) (g := (mkF m 11 #[.val (.ref u1), .val (.ref u2), .val (.int (5 : Int32))] [(.ref u1), (.int (5 : Int32))])) rfl rfl (hb hby d10_11) _ kx) ?_
    rw [hlen33]
    show OwnOk p e below _ (s₁.setTop (mkF m 12 #[.val (.ref u1), .val (.ref u2), .val (.int (5 : Int32))] [(.int (Int32.ofNat 5)), (.int (5 : Int32))]))
    refine own_up (fun tx kx => XS.icmpYes X0.here hx rfl (pc0 := 12) (pc' := 32) rfl (hb hby d10_12) rfl (flt (by decide)).2.1 (by decide) (by decide) kx) ?_
    show OwnOk p e below _ (s₁.setTop (mkF m 32 #[.val (.ref u1), .val (.ref u2), .val (.int (5 : Int32))] []))
    refine own_up (fun tx kx => XS.iconst X0.here hx rfl (hb hby d10_32) kx) ?_
    show OwnOk p e below _ (s₁.setTop (mkF m 33 #[.val (.ref u1), .val (.ref u2), .val (.int (5 : Int32))] [(.int (1 : Int32))]))
    refine own_retN X0 hx (t := .boolean) (show meth.sig.returnType = some .boolean from hret) (by simp) hlk (hb hby d10_33) (z' := own_eqI 5 f1 5 f2) (by unfold own_eqI; rw [if_pos ⟨rfl, hq0, hq1, hq2, hq3, hq4⟩]; rfl) e0 (Nat.le_of_ble_eq_true rfl) (Nat.le_of_ble_eq_true rfl) ?_
    exact ⟨rfl, N0, rfl⟩
  · refine own_up (fun tx kx => XS.icmpYes X0.here hx rfl (pc0 := 4) (pc' := 34) rfl (hb hby d10_4) rfl (feq hn).2 (by decide) (by decide) kx) ?_
    show OwnOk p e below _ (s₁.setTop (mkF m 34 #[.val (.ref u1), .val (.ref u2), .unset] []))
    refine own_up (fun tx kx => XS.iconst X0.here hx rfl (hb hby d10_34) kx) ?_
    show OwnOk p e below _ (s₁.setTop (mkF m 35 #[.val (.ref u1), .val (.ref u2), .unset] [(.int (0 : Int32))]))
    refine own_retN X0 hx (t := .boolean) (show meth.sig.returnType = some .boolean from hret) (by simp) hlk (hb hby d10_35) (z' := own_eqI n1 f1 n2 f2) (by unfold own_eqI; rw [if_neg (fun q => hn (by rw [q.1]))]; rfl) e0 (Nat.le_of_ble_eq_true rfl) (Nat.le_of_ble_eq_true rfl) ?_
    exact ⟨rfl, N0, rfl⟩
def Q_j_eq (n1 : Nat) (f1 : Nat → Int32) (n2 : Nat) (f2 : Nat → Int32) (h0 : Heap) (n0 : Nat) (v : Option Value) (h : Heap) (L : List Loc) : Prop := v = some (.int (own_eqI n1 f1 n2 f2)) ∧ Fr n0 L ∧ h = h0
set_option maxRecDepth 65536 in
set_option maxHeartbeats 40000000 in
theorem j_eq (l : Launch) (Z : State) (a0 : Array Value) (hw : ∀ d ∈ tables_1, d.before a0 Z = true) (a1 u1 : Addr) (k1 : ClassId) (n1 : Nat) (f1 : Nat → Int32) (a2 u2 : Addr) (k2 : ClassId) (n2 : Nat) (f2 : Nat → Int32) (cz : Int32) (h0 : Heap) (n0 : Nat) (OL : Old Z n0 h0) (SC : Sta Z Z.heap "java/lang/String" "COMPACT_STRINGS" "Z" (.int cz)) (hcz : ¬ cz = 0) (E_a1 : Exa Z h0 a1 "java/lang/String") (F_value_a1 : Fld Z h0 a1 "java/lang/String" "value" "[B" (.ref u1)) (F_coder_a1 : Fld Z h0 a1 "java/lang/String" "coder" "B" (.int (0 : Int32))) (V_u1 : Arv Z h0 u1 k1 .byte (Int32.ofNat n1) (own_F n1 f1) (.int (0 : Int32))) (E_a2 : Exa Z h0 a2 "java/lang/String") (F_value_a2 : Fld Z h0 a2 "java/lang/String" "value" "[B" (.ref u2)) (F_coder_a2 : Fld Z h0 a2 "java/lang/String" "coder" "B" (.int (0 : Int32))) (V_u2 : Arv Z h0 u2 k2 .byte (Int32.ofNat n2) (own_F n2 f2) (.int (0 : Int32))) (b1 : n1 ≤ 100) (b2 : n2 ≤ 100) (h5 : n1 = 5 ∨ n2 = 5) :
    own_Met l Z (⟨"java/lang/String", "equals", "(Ljava/lang/Object;)Z"⟩ : MethodName) jdk_42_method_66_code 3 (some .boolean) ({ frames := 1, cells := 0, slots := 0, locals := 14 } : Room) #[(.ref a1), (.ref a2)] h0 (Q_j_eq n1 f1 n2 f2 h0 n0) := by
  refine own_body (L0 := #[.val (.ref a1), .val (.ref a2), .unset]) (plainFor_of_name (by first | (simp [plainName, overriddenIn]; done) | decide +kernel)) (fun m => by first | (simp [entryFrame, mkF, argsToLocals, Value.category]; done) | rfl) ?_
  intro p e s m below meth c s₁ hx hby hml hZ hown hnm hret hlk X0 e0
  have N0 := Fr.nil n0
  have Z0 : n0 ≤ h0.size := OL.1 ▸ OL.2.1
  show OwnOk p e below _ (s₁.setTop (mkF m 0 #[.val (.ref a1), .val (.ref a2), .unset] []))
  refine own_up (fun tx kx => XS.aloadN X0.here hx rfl (hb hby d9_0) rfl rfl kx) ?_
  show OwnOk p e below _ (s₁.setTop (mkF m 1 #[.val (.ref a1), .val (.ref a2), .unset] [(.ref a1)]))
  refine own_up (fun tx kx => XS.aloadN X0.here hx rfl (hb hby d9_1) rfl rfl kx) ?_
  show OwnOk p e below _ (s₁.setTop (mkF m 2 #[.val (.ref a1), .val (.ref a2), .unset] [(.ref a2), (.ref a1)]))
  by_cases hs : a1 = a2
  · refine own_up (fun tx kx => Jvm.RoadKit.acmp (g := (mkF m 2 #[.val (.ref a1), .val (.ref a2), .unset] [(.ref a2), (.ref a1)])) X0 hx rfl rfl rfl (pc0 := 2) (pc' := 5) (same := true) rfl (hb hby d9_2) rfl (decide_eq_true (own_ref_eq hs)) (by decide) (by decide) kx) ?_
    show OwnOk p e below _ (s₁.setTop (mkF m 5 #[.val (.ref a1), .val (.ref a2), .unset] []))
    refine own_up (fun tx kx => XS.iconst X0.here hx rfl (hb hby d9_5) kx) ?_
    show OwnOk p e below _ (s₁.setTop (mkF m 6 #[.val (.ref a1), .val (.ref a2), .unset] [(.int (1 : Int32))]))
    refine own_retN X0 hx (t := .boolean) (show meth.sig.returnType = some .boolean from hret) (by simp) hlk (hb hby d9_6) (z' := own_eqI n1 f1 n2 f2) (by subst hs; rw [own_alias F_value_a1 F_value_a2 V_u1 V_u2 (by omega) (by omega) h5]; rfl) e0 (Nat.le_of_ble_eq_true rfl) (Nat.le_of_ble_eq_true rfl) ?_
    exact ⟨rfl, N0, rfl⟩
  · refine own_up (fun tx kx => Jvm.RoadKit.acmp (g := (mkF m 2 #[.val (.ref a1), .val (.ref a2), .unset] [(.ref a2), (.ref a1)])) X0 hx rfl rfl rfl (pc0 := 2) (pc' := 7) (same := false) rfl (hb hby d9_2) rfl (decide_eq_false (own_ref_ne hs)) (by decide) (by decide) kx) ?_
    show OwnOk p e below _ (s₁.setTop (mkF m 7 #[.val (.ref a1), .val (.ref a2), .unset] []))
    refine own_up (fun tx kx => XS.aloadN X0.here hx rfl (hb hby d9_7) rfl rfl kx) ?_
    show OwnOk p e below _ (s₁.setTop (mkF m 8 #[.val (.ref a1), .val (.ref a2), .unset] [(.ref a2)]))
    obtain ⟨T11, X11, e11, st11⟩ := instY X0 hx hZ hown (wd_69 hw) e0 (Ins.self E_a2) (g := (mkF m 8 #[.val (.ref a1), .val (.ref a2), .unset] [(.ref a2)])) rfl rfl (hb hby d9_8)
    refine own_up st11 ?_
    show OwnOk p e below _ (T11.setTop (mkF m 11 #[.val (.ref a1), .val (.ref a2), .unset] [(.int (1 : Int32))]))
    refine own_up (fun tx kx => XS.ifNo X11.here hx rfl (hb hby d9_11) rfl ((if0 _ _).trans (feq (by decide)).1) kx) ?_
    show OwnOk p e below _ (T11.setTop (mkF m 14 #[.val (.ref a1), .val (.ref a2), .unset] []))
    refine own_up (fun tx kx => XS.aloadN X11.here hx rfl (hb hby d9_14) rfl rfl kx) ?_
    show OwnOk p e below _ (T11.setTop (mkF m 15 #[.val (.ref a1), .val (.ref a2), .unset] [(.ref a2)]))
    obtain ⟨T12, X12, e12, st12⟩ := castY X11 hx hZ hown (wd_69 hw) e11 (Ins.self E_a2) (g := (mkF m 15 #[.val (.ref a1), .val (.ref a2), .unset] [(.ref a2)])) rfl rfl (hb hby d9_15)
    refine own_up st12 ?_
    show OwnOk p e below _ (T12.setTop (mkF m 18 #[.val (.ref a1), .val (.ref a2), .unset] [(.ref a2)]))
    refine own_up (fun tx kx => XS.astoreN X12.here hx rfl (hb hby d9_18) rfl rfl (l' := #[.val (.ref a1), .val (.ref a2), .val (.ref a2)]) rfl kx) ?_
    show OwnOk p e below _ (T12.setTop (mkF m 19 #[.val (.ref a1), .val (.ref a2), .val (.ref a2)] []))
    obtain ⟨T13, X13, e13, st13⟩ := getS2 X12 hx hZ hown (host := "") (Or.inl (wd_24 hw)) Via.refl e12 (SC.ext OL.2) (g := (mkF m 19 #[.val (.ref a1), .val (.ref a2), .val (.ref a2)] [])) rfl (hb hby d9_19)
    refine own_up st13 ?_
    show OwnOk p e below _ (T13.setTop (mkF m 22 #[.val (.ref a1), .val (.ref a2), .val (.ref a2)] [(.int cz)]))
    refine own_up (fun tx kx => XS.ifNo X13.here hx rfl (hb hby d9_22) rfl ((if0 _ _).trans (feq hcz).1) kx) ?_
    show OwnOk p e below _ (T13.setTop (mkF m 25 #[.val (.ref a1), .val (.ref a2), .val (.ref a2)] []))
    refine own_up (fun tx kx => XS.aloadN X13.here hx rfl (hb hby d9_25) rfl rfl kx) ?_
    show OwnOk p e below _ (T13.setTop (mkF m 26 #[.val (.ref a1), .val (.ref a2), .val (.ref a2)] [(.ref a1)]))
    obtain ⟨T14, X14, e14, st14⟩ := getF X13 hx hZ hown (host := "") (Or.inl (wd_25 hw)) Via.refl e13 F_coder_a1 (g := (mkF m 26 #[.val (.ref a1), .val (.ref a2), .val (.ref a2)] [(.ref a1)])) rfl rfl (hb hby d9_26)
    refine own_up st14 ?_
    show OwnOk p e below _ (T14.setTop (mkF m 29 #[.val (.ref a1), .val (.ref a2), .val (.ref a2)] [(.int (0 : Int32))]))
    refine own_up (fun tx kx => XS.aloadN X14.here hx rfl (hb hby d9_29) rfl rfl kx) ?_
    show OwnOk p e below _ (T14.setTop (mkF m 30 #[.val (.ref a1), .val (.ref a2), .val (.ref a2)] [(.ref a2), (.int (0 : Int32))]))
    obtain ⟨T15, X15, e15, st15⟩ := getF X14 hx hZ hown (host := "") (Or.inl (wd_25 hw)) Via.refl e14 F_coder_a2 (g := (mkF m 30 #[.val (.ref a1), .val (.ref a2), .val (.ref a2)] [(.ref a2), (.int (0 : Int32))])) rfl rfl (hb hby d9_30)
    refine own_up st15 ?_
    show OwnOk p e below _ (T15.setTop (mkF m 33 #[.val (.ref a1), .val (.ref a2), .val (.ref a2)] [(.int (0 : Int32)), (.int (0 : Int32))]))
    refine own_up (fun tx kx => XS.icmpNo X15.here hx rfl (hb hby d9_33) rfl (teq rfl).2 kx) ?_
    show OwnOk p e below _ (T15.setTop (mkF m 36 #[.val (.ref a1), .val (.ref a2), .val (.ref a2)] []))
    refine own_up (fun tx kx => XS.aloadN X15.here hx rfl (hb hby d9_36) rfl rfl kx) ?_
    show OwnOk p e below _ (T15.setTop (mkF m 37 #[.val (.ref a1), .val (.ref a2), .val (.ref a2)] [(.ref a1)]))
    obtain ⟨T16, X16, e16, st16⟩ := getF X15 hx hZ hown (host := "") (Or.inl (wd_26 hw)) Via.refl e15 F_value_a1 (g := (mkF m 37 #[.val (.ref a1), .val (.ref a2), .val (.ref a2)] [(.ref a1)])) rfl rfl (hb hby d9_37)
    refine own_up st16 ?_
    show OwnOk p e below _ (T16.setTop (mkF m 40 #[.val (.ref a1), .val (.ref a2), .val (.ref a2)] [(.ref u1)]))
    refine own_up (fun tx kx => XS.aloadN X16.here hx rfl (hb hby d9_40) rfl rfl kx) ?_
    show OwnOk p e below _ (T16.setTop (mkF m 41 #[.val (.ref a1), .val (.ref a2), .val (.ref a2)] [(.ref a2), (.ref u1)]))
    obtain ⟨T17, X17, e17, st17⟩ := getF X16 hx hZ hown (host := "") (Or.inl (wd_26 hw)) Via.refl e16 F_value_a2 (g := (mkF m 41 #[.val (.ref a1), .val (.ref a2), .val (.ref a2)] [(.ref a2), (.ref u1)])) rfl rfl (hb hby d9_41)
    refine own_up st17 ?_
    show OwnOk p e below _ (T17.setTop (mkF m 44 #[.val (.ref a1), .val (.ref a2), .val (.ref a2)] [(.ref u2), (.ref u1)]))
    refine own_callS X17 hx hZ (y := (⟨"java/lang/StringLatin1", "equals", "([B[B)Z"⟩ : MethodName)) hown (wd_71 hw) (wd_72 hw) (wd_29 hw) (wd_73 hw) (by decide) (j_leq l Z a0 hw u1 k1 n1 f1 u2 k2 n2 f2 h0 n0 OL V_u1 V_u2 b1 b2 h5) e17 (argsL := [(.ref u1), (.ref u2)]) (rest := []) (by rw [hml]; rfl) (lenOf pd_4 rfl) rfl rfl (W := 0) rfl (hb hby d9_44) (by decide) (by decide) (by decide) (by decide) (fun T18 v18 L18 X18 hQ18 => ?_)
    obtain ⟨rfl, Nq18, hh18⟩ := hQ18
    have N18 := Fr.app N0 Nq18
    show OwnOk p e below _ (T18.setTop (mkF m 47 #[.val (.ref a1), .val (.ref a2), .val (.ref a2)] [(.int (own_eqI n1 f1 n2 f2))]))
    by_cases hz : (own_eqI n1 f1 n2 f2) = (0 : Int32)
    · refine own_up (fun tx kx => XS.ifYes X18.here hx rfl (pc0 := 47) (pc' := 54) rfl (hb hby d9_47) rfl ((if0 _ _).trans (teq hz).1) (by decide) (by decide) kx) ?_
      show OwnOk p e below _ (T18.setTop (mkF m 54 #[.val (.ref a1), .val (.ref a2), .val (.ref a2)] []))
      refine own_up (fun tx kx => XS.iconst X18.here hx rfl (hb hby d9_54) kx) ?_
      show OwnOk p e below _ (T18.setTop (mkF m 55 #[.val (.ref a1), .val (.ref a2), .val (.ref a2)] [(.int (0 : Int32))]))
      refine own_retN X18 hx (t := .boolean) (show meth.sig.returnType = some .boolean from hret) (by simp) hlk (hb hby d9_55) (z' := own_eqI n1 f1 n2 f2) (by rw [hz]; rfl) hh18 (Nat.le_of_ble_eq_true rfl) (Nat.le_of_ble_eq_true rfl) ?_
      exact ⟨rfl, N18, rfl⟩
    · refine own_up (fun tx kx => XS.ifNo X18.here hx rfl (hb hby d9_47) rfl ((if0 _ _).trans (feq hz).1) kx) ?_
      show OwnOk p e below _ (T18.setTop (mkF m 50 #[.val (.ref a1), .val (.ref a2), .val (.ref a2)] []))
      refine own_up (fun tx kx => XS.iconst X18.here hx rfl (hb hby d9_50) kx) ?_
      show OwnOk p e below _ (T18.setTop (mkF m 51 #[.val (.ref a1), .val (.ref a2), .val (.ref a2)] [(.int (1 : Int32))]))
      refine own_up (fun tx kx => XS.goto X18.here hx rfl (pc0 := 51) (pc' := 55) rfl (hb hby d9_51) (by decide) (by decide) kx) ?_
      show OwnOk p e below _ (T18.setTop (mkF m 55 #[.val (.ref a1), .val (.ref a2), .val (.ref a2)] [(.int (1 : Int32))]))
      refine own_retN X18 hx (t := .boolean) (show meth.sig.returnType = some .boolean from hret) (by simp) hlk (hb hby d9_55) (z' := own_eqI n1 f1 n2 f2) (by rw [own_eqI_1 hz]; rfl) hh18 (Nat.le_of_ble_eq_true rfl) (Nat.le_of_ble_eq_true rfl) ?_
      exact ⟨rfl, N18, rfl⟩
def Q_j_eqN (h0 : Heap) (n0 : Nat) (v : Option Value) (h : Heap) (L : List Loc) : Prop := v = some (.int 0) ∧ Fr n0 L ∧ h = h0
set_option maxRecDepth 65536 in
set_option maxHeartbeats 40000000 in
theorem j_eqN (l : Launch) (Z : State) (a0 : Array Value) (hw : ∀ d ∈ tables_1, d.before a0 Z = true) (a1 : Addr) (h0 : Heap) (n0 : Nat) (OL : Old Z n0 h0)  :
    own_Met l Z (⟨"java/lang/String", "equals", "(Ljava/lang/Object;)Z"⟩ : MethodName) jdk_42_method_66_code 3 (some .boolean) ({ frames := 0, cells := 0, slots := 0, locals := 0 } : Room) #[(.ref a1), .null] h0 (Q_j_eqN h0 n0) := by
  refine own_body (L0 := #[.val (.ref a1), .val .null, .unset]) (plainFor_of_name (by first | (simp [plainName, overriddenIn]; done) | decide +kernel)) (fun m => by first | (simp [entryFrame, mkF, argsToLocals, Value.category]; done) | rfl) ?_
  intro p e s m below meth c s₁ hx hby hml hZ hown hnm hret hlk X0 e0
  have N0 := Fr.nil n0
  have Z0 : n0 ≤ h0.size := OL.1 ▸ OL.2.1
  show OwnOk p e below _ (s₁.setTop (mkF m 0 #[.val (.ref a1), .val .null, .unset] []))
  refine own_up (fun tx kx => XS.aloadN X0.here hx rfl (hb hby d9_0) rfl rfl kx) ?_
  show OwnOk p e below _ (s₁.setTop (mkF m 1 #[.val (.ref a1), .val .null, .unset] [(.ref a1)]))
  refine own_up (fun tx kx => XS.aloadN X0.here hx rfl (hb hby d9_1) rfl rfl kx) ?_
  show OwnOk p e below _ (s₁.setTop (mkF m 2 #[.val (.ref a1), .val .null, .unset] [.null, (.ref a1)]))
  refine own_up (fun tx kx => Jvm.RoadKit.acmp (g := (mkF m 2 #[.val (.ref a1), .val .null, .unset] [.null, (.ref a1)])) X0 hx rfl rfl rfl (pc0 := 2) (pc' := 7) (same := false) rfl (hb hby d9_2) rfl (decide_eq_false (nofun)) (by decide) (by decide) kx) ?_
  show OwnOk p e below _ (s₁.setTop (mkF m 7 #[.val (.ref a1), .val .null, .unset] []))
  refine own_up (fun tx kx => XS.aloadN X0.here hx rfl (hb hby d9_7) rfl rfl kx) ?_
  show OwnOk p e below _ (s₁.setTop (mkF m 8 #[.val (.ref a1), .val .null, .unset] [.null]))
  refine own_up (fun tx kx => X0.instanceofNull hx (g := (mkF m 8 #[.val (.ref a1), .val .null, .unset] [.null])) rfl rfl (hb hby d9_8) _ kx) ?_
  show OwnOk p e below _ (s₁.setTop (mkF m 11 #[.val (.ref a1), .val .null, .unset] [(.int (0 : Int32))]))
  refine own_up (fun tx kx => XS.ifYes X0.here hx rfl (pc0 := 11) (pc' := 54) rfl (hb hby d9_11) rfl ((if0 _ _).trans (teq rfl).1) (by decide) (by decide) kx) ?_
  show OwnOk p e below _ (s₁.setTop (mkF m 54 #[.val (.ref a1), .val .null, .unset] []))
  refine own_up (fun tx kx => XS.iconst X0.here hx rfl (hb hby d9_54) kx) ?_
  show OwnOk p e below _ (s₁.setTop (mkF m 55 #[.val (.ref a1), .val .null, .unset] [(.int (0 : Int32))]))
  refine own_retN X0 hx (t := .boolean) (show meth.sig.returnType = some .boolean from hret) (by simp) hlk (hb hby d9_55) (z' := (0 : Int32)) rfl e0 (Nat.le_of_ble_eq_true rfl) (Nat.le_of_ble_eq_true rfl) ?_
  exact ⟨rfl, N0, rfl⟩
def Q_c_cmp5_4 (Z : State) (t : Addr) (kt : ClassId) (x0 x1 x2 x3 : Int32) (h0 : Heap) (n0 : Nat) (v : Option Value) (h : Heap) (L : List Loc) : Prop := v = some (.int (4 : Int32)) ∧ Fr n0 L ∧ Keep h0 h [t] ∧ Arv Z h t kt .byte (4 : Int32) [(.int (nar .byte (x0.toInt8.toInt32))), (.int (nar .byte (x1.toInt8.toInt32))), (.int (nar .byte (x2.toInt8.toInt32))), (.int (nar .byte (x3.toInt8.toInt32)))] (.int (0 : Int32))
set_option maxRecDepth 65536 in
set_option maxHeartbeats 40000000 in
theorem c_cmp5_4 (l : Launch) (Z : State) (a0 : Array Value) (hw : ∀ d ∈ tables_1, d.before a0 Z = true) (ca t : Addr) (kc kt : ClassId) (x0 x1 x2 x3 : Int32) (h0 : Heap) (n0 : Nat) (OL : Old Z n0 h0) (V_ca : Arv Z h0 ca kc .char (4 : Int32) [(.int x0), (.int x1), (.int x2), (.int x3)] (.int (0 : Int32))) (V_t : Arv Z h0 t kt .byte (4 : Int32) [(.int (0 : Int32)), (.int (0 : Int32)), (.int (0 : Int32)), (.int (0 : Int32))] (.int (0 : Int32))) (n0_t : n0 ≤ t) (ne_ca_t : ca ≠ t) (c0 : ¬ (255 : Int32) < x0) (c1 : ¬ (255 : Int32) < x1) (c2 : ¬ (255 : Int32) < x2) (c3 : ¬ (255 : Int32) < x3) :
    own_Met l Z (⟨"java/lang/StringUTF16", "compress", "([CI[BII)I"⟩ : MethodName) jdk_52_method_21_code 7 (some .int) ({ frames := 0, cells := 0, slots := 0, locals := 0 } : Room) #[(.ref ca), (.int (0 : Int32)), (.ref t), (.int (0 : Int32)), (.int (4 : Int32))] h0 (Q_c_cmp5_4 Z t kt x0 x1 x2 x3 h0 n0) := by
  refine own_body (L0 := #[.val (.ref ca), .val (.int (0 : Int32)), .val (.ref t), .val (.int (0 : Int32)), .val (.int (4 : Int32)), .unset, .unset]) (plainFor_of_name (by first | (simp [plainName, overriddenIn]; done) | decide +kernel)) (fun m => by first | (simp [entryFrame, mkF, argsToLocals, Value.category]; done) | rfl) ?_
  intro p e s m below meth c s₁ hx hby hml hZ hown hnm hret hlk X0 e0
  have N0 := Fr.nil n0
  have Z0 : n0 ≤ h0.size := OL.1 ▸ OL.2.1
  show OwnOk p e below _ (s₁.setTop (mkF m 0 #[.val (.ref ca), .val (.int (0 : Int32)), .val (.ref t), .val (.int (0 : Int32)), .val (.int (4 : Int32)), .unset, .unset] []))
  have KP0 : Keep h0 h0 [t] := Keep.refl h0 _
  refine own_up (fun tx kx => XS.iconst X0.here hx rfl (hb hby d16_0) kx) ?_
  show OwnOk p e below _ (s₁.setTop (mkF m 1 #[.val (.ref ca), .val (.int (0 : Int32)), .val (.ref t), .val (.int (0 : Int32)), .val (.int (4 : Int32)), .unset, .unset] [(.int (0 : Int32))]))
  refine own_up (fun tx kx => XS.istore X0.here hx rfl (hb hby d16_1) rfl (l' := #[.val (.ref ca), .val (.int (0 : Int32)), .val (.ref t), .val (.int (0 : Int32)), .val (.int (4 : Int32)), .val (.int (0 : Int32)), .unset]) rfl kx) ?_
  show OwnOk p e below _ (s₁.setTop (mkF m 3 #[.val (.ref ca), .val (.int (0 : Int32)), .val (.ref t), .val (.int (0 : Int32)), .val (.int (4 : Int32)), .val (.int (0 : Int32)), .unset] []))
  refine own_up (fun tx kx => XS.iload X0.here hx rfl (hb hby d16_3) rfl kx) ?_
  show OwnOk p e below _ (s₁.setTop (mkF m 5 #[.val (.ref ca), .val (.int (0 : Int32)), .val (.ref t), .val (.int (0 : Int32)), .val (.int (4 : Int32)), .val (.int (0 : Int32)), .unset] [(.int (0 : Int32))]))
  refine own_up (fun tx kx => XS.iload X0.here hx rfl (hb hby d16_5) rfl kx) ?_
  show OwnOk p e below _ (s₁.setTop (mkF m 7 #[.val (.ref ca), .val (.int (0 : Int32)), .val (.ref t), .val (.int (0 : Int32)), .val (.int (4 : Int32)), .val (.int (0 : Int32)), .unset] [(.int (4 : Int32)), (.int (0 : Int32))]))
  refine own_up (fun tx kx => XS.icmpNo X0.here hx rfl (hb hby d16_7) rfl (tlt (by decide)).2.1 kx) ?_
  show OwnOk p e below _ (s₁.setTop (mkF m 10 #[.val (.ref ca), .val (.int (0 : Int32)), .val (.ref t), .val (.int (0 : Int32)), .val (.int (4 : Int32)), .val (.int (0 : Int32)), .unset] []))
  refine own_up (fun tx kx => XS.aloadN X0.here hx rfl (hb hby d16_10) rfl rfl kx) ?_
  show OwnOk p e below _ (s₁.setTop (mkF m 11 #[.val (.ref ca), .val (.int (0 : Int32)), .val (.ref t), .val (.int (0 : Int32)), .val (.int (4 : Int32)), .val (.int (0 : Int32)), .unset] [(.ref ca)]))
  refine own_up (fun tx kx => XS.iloadN X0.here hx rfl (hb hby d16_11) rfl kx) ?_
  show OwnOk p e below _ (s₁.setTop (mkF m 12 #[.val (.ref ca), .val (.int (0 : Int32)), .val (.ref t), .val (.int (0 : Int32)), .val (.int (4 : Int32)), .val (.int (0 : Int32)), .unset] [(.int (0 : Int32)), (.ref ca)]))
  obtain ⟨cl11, Ar11, qc11, Sz11, Nn11, Hs11, Gf11⟩ := id V_ca
  have hin11 : ¬ ((0 : Int32) < 0 ∨ cl11.slots.size ≤ ((0 : Int32)).toNatClampNeg) := inb_of Sz11 ⟨by decide, by decide⟩
  have hat11 : cl11.slots[((0 : Int32)).toNatClampNeg]? = some (.int x0) := Hs11.at hin11 rfl
  refine own_up (fun tx kx => X0.caload hx (j := (0 : Int32)) (v := (.int x0)) (own_ar e0 Ar11.1) (State.isArrayOf_alike hZ.alike Ar11.2.1) Ar11.2.2 hin11 hat11 (g := (mkF m 12 #[.val (.ref ca), .val (.int (0 : Int32)), .val (.ref t), .val (.int (0 : Int32)), .val (.int (4 : Int32)), .val (.int (0 : Int32)), .unset] [(.int (0 : Int32)), (.ref ca)])) rfl rfl (hb hby d16_12) _ kx) ?_
  show OwnOk p e below _ (s₁.setTop (mkF m 13 #[.val (.ref ca), .val (.int (0 : Int32)), .val (.ref t), .val (.int (0 : Int32)), .val (.int (4 : Int32)), .val (.int (0 : Int32)), .unset] [(.int x0)]))
  refine own_up (fun tx kx => XS.istore X0.here hx rfl (hb hby d16_13) rfl (l' := #[.val (.ref ca), .val (.int (0 : Int32)), .val (.ref t), .val (.int (0 : Int32)), .val (.int (4 : Int32)), .val (.int (0 : Int32)), .val (.int x0)]) rfl kx) ?_
  show OwnOk p e below _ (s₁.setTop (mkF m 15 #[.val (.ref ca), .val (.int (0 : Int32)), .val (.ref t), .val (.int (0 : Int32)), .val (.int (4 : Int32)), .val (.int (0 : Int32)), .val (.int x0)] []))
  refine own_up (fun tx kx => XS.iload X0.here hx rfl (hb hby d16_15) rfl kx) ?_
  show OwnOk p e below _ (s₁.setTop (mkF m 17 #[.val (.ref ca), .val (.int (0 : Int32)), .val (.ref t), .val (.int (0 : Int32)), .val (.int (4 : Int32)), .val (.int (0 : Int32)), .val (.int x0)] [(.int x0)]))
  refine own_up (fun tx kx => XS.sipush X0.here hx rfl (hb hby d16_17) kx) ?_
  show OwnOk p e below _ (s₁.setTop (mkF m 20 #[.val (.ref ca), .val (.int (0 : Int32)), .val (.ref t), .val (.int (0 : Int32)), .val (.int (4 : Int32)), .val (.int (0 : Int32)), .val (.int x0)] [(.int (255 : Int32)), (.int x0)]))
  refine own_up (fun tx kx => XS.icmpYes X0.here hx rfl (pc0 := 20) (pc' := 26) rfl (hb hby d16_20) rfl (flt c0).2.2.2 (by decide) (by decide) kx) ?_
  show OwnOk p e below _ (s₁.setTop (mkF m 26 #[.val (.ref ca), .val (.int (0 : Int32)), .val (.ref t), .val (.int (0 : Int32)), .val (.int (4 : Int32)), .val (.int (0 : Int32)), .val (.int x0)] []))
  refine own_up (fun tx kx => XS.aloadN X0.here hx rfl (hb hby d16_26) rfl rfl kx) ?_
  show OwnOk p e below _ (s₁.setTop (mkF m 27 #[.val (.ref ca), .val (.int (0 : Int32)), .val (.ref t), .val (.int (0 : Int32)), .val (.int (4 : Int32)), .val (.int (0 : Int32)), .val (.int x0)] [(.ref t)]))
  refine own_up (fun tx kx => XS.iloadN X0.here hx rfl (hb hby d16_27) rfl kx) ?_
  show OwnOk p e below _ (s₁.setTop (mkF m 28 #[.val (.ref ca), .val (.int (0 : Int32)), .val (.ref t), .val (.int (0 : Int32)), .val (.int (4 : Int32)), .val (.int (0 : Int32)), .val (.int x0)] [(.int (0 : Int32)), (.ref t)]))
  refine own_up (fun tx kx => XS.iload X0.here hx rfl (hb hby d16_28) rfl kx) ?_
  show OwnOk p e below _ (s₁.setTop (mkF m 30 #[.val (.ref ca), .val (.int (0 : Int32)), .val (.ref t), .val (.int (0 : Int32)), .val (.int (4 : Int32)), .val (.int (0 : Int32)), .val (.int x0)] [(.int x0), (.int (0 : Int32)), (.ref t)]))
  refine own_up (fun tx kx => XS.i2b X0.here hx rfl (hb hby d16_30) rfl kx) ?_
  show OwnOk p e below _ (s₁.setTop (mkF m 31 #[.val (.ref ca), .val (.int (0 : Int32)), .val (.ref t), .val (.int (0 : Int32)), .val (.int (4 : Int32)), .val (.int (0 : Int32)), .val (.int x0)] [(.int (x0.toInt8.toInt32)), (.int (0 : Int32)), (.ref t)]))
  obtain ⟨cl12, Ar12, qc12, Sz12, Nn12, Hs12, Gf12⟩ := id V_t
  have hin12 : ¬ ((0 : Int32) < 0 ∨ cl12.slots.size ≤ ((0 : Int32)).toNatClampNeg) := inb_of Sz12 ⟨by decide, by decide⟩
  obtain ⟨T13, h13, X13, e13, W13, st13⟩ := stB X0 hx hZ e0 Ar12 (j := (0 : Int32)) hin12 (g := (mkF m 31 #[.val (.ref ca), .val (.int (0 : Int32)), .val (.ref t), .val (.int (0 : Int32)), .val (.int (4 : Int32)), .val (.int (0 : Int32)), .val (.int x0)] [(.int (x0.toInt8.toInt32)), (.int (0 : Int32)), (.ref t)])) rfl rfl (hb hby d16_31)
  have V_t_13 : Arv Z h13 t kt .byte (4 : Int32) [(.int (nar .byte (x0.toInt8.toInt32))), (.int (0 : Int32)), (.int (0 : Int32)), (.int (0 : Int32))] (.int (0 : Int32)) := Arv.set Ar12 qc12 Sz12 Nn12 Hs12 Gf12 (fits_nar_byte _) W13 0 rfl (Nat.le_of_ble_eq_true rfl)
  have N13 := Fr.snoc X13 N0 n0_t
  have OL14 := OL.wr W13 n0_t
  have KP14 := KP0.wr W13 (Or.inl (List.mem_of_getElem? (i := 0) rfl))
  refine own_up st13 ?_
  show OwnOk p e below _ (T13.setTop (mkF m 32 #[.val (.ref ca), .val (.int (0 : Int32)), .val (.ref t), .val (.int (0 : Int32)), .val (.int (4 : Int32)), .val (.int (0 : Int32)), .val (.int x0)] []))
  have hi32_15 : ((0 : Int32) + (1 : Int32)) = (1 : Int32) := by decide
  refine own_up (fun tx kx => XS.iinc X13.here hx rfl (hb hby d16_32) rfl (l' := #[.val (.ref ca), .val (.int ((0 : Int32) + (1 : Int32))), .val (.ref t), .val (.int (0 : Int32)), .val (.int (4 : Int32)), .val (.int (0 : Int32)), .val (.int x0)]) rfl kx) ?_
  rw [hi32_15]
  show OwnOk p e below _ (T13.setTop (mkF m 35 #[.val (.ref ca), .val (.int (1 : Int32)), .val (.ref t), .val (.int (0 : Int32)), .val (.int (4 : Int32)), .val (.int (0 : Int32)), .val (.int x0)] []))
  have hi35_16 : ((0 : Int32) + (1 : Int32)) = (1 : Int32) := by decide
  refine own_up (fun tx kx => XS.iinc X13.here hx rfl (hb hby d16_35) rfl (l' := #[.val (.ref ca), .val (.int (1 : Int32)), .val (.ref t), .val (.int ((0 : Int32) + (1 : Int32))), .val (.int (4 : Int32)), .val (.int (0 : Int32)), .val (.int x0)]) rfl kx) ?_
  rw [hi35_16]
  show OwnOk p e below _ (T13.setTop (mkF m 38 #[.val (.ref ca), .val (.int (1 : Int32)), .val (.ref t), .val (.int (1 : Int32)), .val (.int (4 : Int32)), .val (.int (0 : Int32)), .val (.int x0)] []))
  have hi38_17 : ((0 : Int32) + (1 : Int32)) = (1 : Int32) := by decide
  refine own_up (fun tx kx => XS.iinc X13.here hx rfl (hb hby d16_38) rfl (l' := #[.val (.ref ca), .val (.int (1 : Int32)), .val (.ref t), .val (.int (1 : Int32)), .val (.int (4 : Int32)), .val (.int ((0 : Int32) + (1 : Int32))), .val (.int x0)]) rfl kx) ?_
  rw [hi38_17]
  show OwnOk p e below _ (T13.setTop (mkF m 41 #[.val (.ref ca), .val (.int (1 : Int32)), .val (.ref t), .val (.int (1 : Int32)), .val (.int (4 : Int32)), .val (.int (1 : Int32)), .val (.int x0)] []))
  refine own_up (fun tx kx => XS.goto X13.here hx rfl (pc0 := 41) (pc' := 3) rfl (hb hby d16_41) (by decide) (by decide) kx) ?_
  show OwnOk p e below _ (T13.setTop (mkF m 3 #[.val (.ref ca), .val (.int (1 : Int32)), .val (.ref t), .val (.int (1 : Int32)), .val (.int (4 : Int32)), .val (.int (1 : Int32)), .val (.int x0)] []))
  refine own_up (fun tx kx => XS.iload X13.here hx rfl (hb hby d16_3) rfl kx) ?_
  show OwnOk p e below _ (T13.setTop (mkF m 5 #[.val (.ref ca), .val (.int (1 : Int32)), .val (.ref t), .val (.int (1 : Int32)), .val (.int (4 : Int32)), .val (.int (1 : Int32)), .val (.int x0)] [(.int (1 : Int32))]))
  refine own_up (fun tx kx => XS.iload X13.here hx rfl (hb hby d16_5) rfl kx) ?_
  show OwnOk p e below _ (T13.setTop (mkF m 7 #[.val (.ref ca), .val (.int (1 : Int32)), .val (.ref t), .val (.int (1 : Int32)), .val (.int (4 : Int32)), .val (.int (1 : Int32)), .val (.int x0)] [(.int (4 : Int32)), (.int (1 : Int32))]))
  refine own_up (fun tx kx => XS.icmpNo X13.here hx rfl (hb hby d16_7) rfl (tlt (by decide)).2.1 kx) ?_
  show OwnOk p e below _ (T13.setTop (mkF m 10 #[.val (.ref ca), .val (.int (1 : Int32)), .val (.ref t), .val (.int (1 : Int32)), .val (.int (4 : Int32)), .val (.int (1 : Int32)), .val (.int x0)] []))
  refine own_up (fun tx kx => XS.aloadN X13.here hx rfl (hb hby d16_10) rfl rfl kx) ?_
  show OwnOk p e below _ (T13.setTop (mkF m 11 #[.val (.ref ca), .val (.int (1 : Int32)), .val (.ref t), .val (.int (1 : Int32)), .val (.int (4 : Int32)), .val (.int (1 : Int32)), .val (.int x0)] [(.ref ca)]))
  refine own_up (fun tx kx => XS.iloadN X13.here hx rfl (hb hby d16_11) rfl kx) ?_
  show OwnOk p e below _ (T13.setTop (mkF m 12 #[.val (.ref ca), .val (.int (1 : Int32)), .val (.ref t), .val (.int (1 : Int32)), .val (.int (4 : Int32)), .val (.int (1 : Int32)), .val (.int x0)] [(.int (1 : Int32)), (.ref ca)]))
  have V_ca_18 := (V_ca.other W13 ne_ca_t)
  obtain ⟨cl19, Ar19, qc19, Sz19, Nn19, Hs19, Gf19⟩ := id V_ca_18
  have hin19 : ¬ ((1 : Int32) < 0 ∨ cl19.slots.size ≤ ((1 : Int32)).toNatClampNeg) := inb_of Sz19 ⟨by decide, by decide⟩
  have hat19 : cl19.slots[((1 : Int32)).toNatClampNeg]? = some (.int x1) := Hs19.at hin19 rfl
  refine own_up (fun tx kx => X13.caload hx (j := (1 : Int32)) (v := (.int x1)) (own_ar e13 Ar19.1) (State.isArrayOf_alike hZ.alike Ar19.2.1) Ar19.2.2 hin19 hat19 (g := (mkF m 12 #[.val (.ref ca), .val (.int (1 : Int32)), .val (.ref t), .val (.int (1 : Int32)), .val (.int (4 : Int32)), .val (.int (1 : Int32)), .val (.int x0)] [(.int (1 : Int32)), (.ref ca)])) rfl rfl (hb hby d16_12) _ kx) ?_
  show OwnOk p e below _ (T13.setTop (mkF m 13 #[.val (.ref ca), .val (.int (1 : Int32)), .val (.ref t), .val (.int (1 : Int32)), .val (.int (4 : Int32)), .val (.int (1 : Int32)), .val (.int x0)] [(.int x1)]))
  refine own_up (fun tx kx => XS.istore X13.here hx rfl (hb hby d16_13) rfl (l' := #[.val (.ref ca), .val (.int (1 : Int32)), .val (.ref t), .val (.int (1 : Int32)), .val (.int (4 : Int32)), .val (.int (1 : Int32)), .val (.int x1)]) rfl kx) ?_
  show OwnOk p e below _ (T13.setTop (mkF m 15 #[.val (.ref ca), .val (.int (1 : Int32)), .val (.ref t), .val (.int (1 : Int32)), .val (.int (4 : Int32)), .val (.int (1 : Int32)), .val (.int x1)] []))
  refine own_up (fun tx kx => XS.iload X13.here hx rfl (hb hby d16_15) rfl kx) ?_
  show OwnOk p e below _ (T13.setTop (mkF m 17 #[.val (.ref ca), .val (.int (1 : Int32)), .val (.ref t), .val (.int (1 : Int32)), .val (.int (4 : Int32)), .val (.int (1 : Int32)), .val (.int x1)] [(.int x1)]))
  refine own_up (fun tx kx => XS.sipush X13.here hx rfl (hb hby d16_17) kx) ?_
  show OwnOk p e below _ (T13.setTop (mkF m 20 #[.val (.ref ca), .val (.int (1 : Int32)), .val (.ref t), .val (.int (1 : Int32)), .val (.int (4 : Int32)), .val (.int (1 : Int32)), .val (.int x1)] [(.int (255 : Int32)), (.int x1)]))
  refine own_up (fun tx kx => XS.icmpYes X13.here hx rfl (pc0 := 20) (pc' := 26) rfl (hb hby d16_20) rfl (flt c1).2.2.2 (by decide) (by decide) kx) ?_
  show OwnOk p e below _ (T13.setTop (mkF m 26 #[.val (.ref ca), .val (.int (1 : Int32)), .val (.ref t), .val (.int (1 : Int32)), .val (.int (4 : Int32)), .val (.int (1 : Int32)), .val (.int x1)] []))
  refine own_up (fun tx kx => XS.aloadN X13.here hx rfl (hb hby d16_26) rfl rfl kx) ?_
  show OwnOk p e below _ (T13.setTop (mkF m 27 #[.val (.ref ca), .val (.int (1 : Int32)), .val (.ref t), .val (.int (1 : Int32)), .val (.int (4 : Int32)), .val (.int (1 : Int32)), .val (.int x1)] [(.ref t)]))
  refine own_up (fun tx kx => XS.iloadN X13.here hx rfl (hb hby d16_27) rfl kx) ?_
  show OwnOk p e below _ (T13.setTop (mkF m 28 #[.val (.ref ca), .val (.int (1 : Int32)), .val (.ref t), .val (.int (1 : Int32)), .val (.int (4 : Int32)), .val (.int (1 : Int32)), .val (.int x1)] [(.int (1 : Int32)), (.ref t)]))
  refine own_up (fun tx kx => XS.iload X13.here hx rfl (hb hby d16_28) rfl kx) ?_
  show OwnOk p e below _ (T13.setTop (mkF m 30 #[.val (.ref ca), .val (.int (1 : Int32)), .val (.ref t), .val (.int (1 : Int32)), .val (.int (4 : Int32)), .val (.int (1 : Int32)), .val (.int x1)] [(.int x1), (.int (1 : Int32)), (.ref t)]))
  refine own_up (fun tx kx => XS.i2b X13.here hx rfl (hb hby d16_30) rfl kx) ?_
  show OwnOk p e below _ (T13.setTop (mkF m 31 #[.val (.ref ca), .val (.int (1 : Int32)), .val (.ref t), .val (.int (1 : Int32)), .val (.int (4 : Int32)), .val (.int (1 : Int32)), .val (.int x1)] [(.int (x1.toInt8.toInt32)), (.int (1 : Int32)), (.ref t)]))
  obtain ⟨cl20, Ar20, qc20, Sz20, Nn20, Hs20, Gf20⟩ := id V_t_13
  have hin20 : ¬ ((1 : Int32) < 0 ∨ cl20.slots.size ≤ ((1 : Int32)).toNatClampNeg) := inb_of Sz20 ⟨by decide, by decide⟩
  obtain ⟨T21, h21, X21, e21, W21, st21⟩ := stB X13 hx hZ e13 Ar20 (j := (1 : Int32)) hin20 (g := (mkF m 31 #[.val (.ref ca), .val (.int (1 : Int32)), .val (.ref t), .val (.int (1 : Int32)), .val (.int (4 : Int32)), .val (.int (1 : Int32)), .val (.int x1)] [(.int (x1.toInt8.toInt32)), (.int (1 : Int32)), (.ref t)])) rfl rfl (hb hby d16_31)
  have V_t_21 : Arv Z h21 t kt .byte (4 : Int32) [(.int (nar .byte (x0.toInt8.toInt32))), (.int (nar .byte (x1.toInt8.toInt32))), (.int (0 : Int32)), (.int (0 : Int32))] (.int (0 : Int32)) := Arv.set Ar20 qc20 Sz20 Nn20 Hs20 Gf20 (fits_nar_byte _) W21 1 rfl (Nat.le_of_ble_eq_true rfl)
  have N21 := Fr.snoc X21 N13 n0_t
  have OL22 := OL14.wr W21 n0_t
  have KP22 := KP14.wr W21 (Or.inl (List.mem_of_getElem? (i := 0) rfl))
  refine own_up st21 ?_
  show OwnOk p e below _ (T21.setTop (mkF m 32 #[.val (.ref ca), .val (.int (1 : Int32)), .val (.ref t), .val (.int (1 : Int32)), .val (.int (4 : Int32)), .val (.int (1 : Int32)), .val (.int x1)] []))
  have hi32_23 : ((1 : Int32) + (1 : Int32)) = (2 : Int32) := by decide
  refine own_up (fun tx kx => XS.iinc X21.here hx rfl (hb hby d16_32) rfl (l' := #[.val (.ref ca), .val (.int ((1 : Int32) + (1 : Int32))), .val (.ref t), .val (.int (1 : Int32)), .val (.int (4 : Int32)), .val (.int (1 : Int32)), .val (.int x1)]) rfl kx) ?_
  rw [hi32_23]
  show OwnOk p e below _ (T21.setTop (mkF m 35 #[.val (.ref ca), .val (.int (2 : Int32)), .val (.ref t), .val (.int (1 : Int32)), .val (.int (4 : Int32)), .val (.int (1 : Int32)), .val (.int x1)] []))
  have hi35_24 : ((1 : Int32) + (1 : Int32)) = (2 : Int32) := by decide
  refine own_up (fun tx kx => XS.iinc X21.here hx rfl (hb hby d16_35) rfl (l' := #[.val (.ref ca), .val (.int (2 : Int32)), .val (.ref t), .val (.int ((1 : Int32) + (1 : Int32))), .val (.int (4 : Int32)), .val (.int (1 : Int32)), .val (.int x1)]) rfl kx) ?_
  rw [hi35_24]
  show OwnOk p e below _ (T21.setTop (mkF m 38 #[.val (.ref ca), .val (.int (2 : Int32)), .val (.ref t), .val (.int (2 : Int32)), .val (.int (4 : Int32)), .val (.int (1 : Int32)), .val (.int x1)] []))
  have hi38_25 : ((1 : Int32) + (1 : Int32)) = (2 : Int32) := by decide
  refine own_up (fun tx kx => XS.iinc X21.here hx rfl (hb hby d16_38) rfl (l' := #[.val (.ref ca), .val (.int (2 : Int32)), .val (.ref t), .val (.int (2 : Int32)), .val (.int (4 : Int32)), .val (.int ((1 : Int32) + (1 : Int32))), .val (.int x1)]) rfl kx) ?_
  rw [hi38_25]
  show OwnOk p e below _ (T21.setTop (mkF m 41 #[.val (.ref ca), .val (.int (2 : Int32)), .val (.ref t), .val (.int (2 : Int32)), .val (.int (4 : Int32)), .val (.int (2 : Int32)), .val (.int x1)] []))
  refine own_up (fun tx kx => XS.goto X21.here hx rfl (pc0 := 41) (pc' := 3) rfl (hb hby d16_41) (by decide) (by decide) kx) ?_
  show OwnOk p e below _ (T21.setTop (mkF m 3 #[.val (.ref ca), .val (.int (2 : Int32)), .val (.ref t), .val (.int (2 : Int32)), .val (.int (4 : Int32)), .val (.int (2 : Int32)), .val (.int x1)] []))
  refine own_up (fun tx kx => XS.iload X21.here hx rfl (hb hby d16_3) rfl kx) ?_
  show OwnOk p e below _ (T21.setTop (mkF m 5 #[.val (.ref ca), .val (.int (2 : Int32)), .val (.ref t), .val (.int (2 : Int32)), .val (.int (4 : Int32)), .val (.int (2 : Int32)), .val (.int x1)] [(.int (2 : Int32))]))
  refine own_up (fun tx kx => XS.iload X21.here hx rfl (hb hby d16_5) rfl kx) ?_
  show OwnOk p e below _ (T21.setTop (mkF m 7 #[.val (.ref ca), .val (.int (2 : Int32)), .val (.ref t), .val (.int (2 : Int32)), .val (.int (4 : Int32)), .val (.int (2 : Int32)), .val (.int x1)] [(.int (4 : Int32)), (.int (2 : Int32))]))
  refine own_up (fun tx kx => XS.icmpNo X21.here hx rfl (hb hby d16_7) rfl (tlt (by decide)).2.1 kx) ?_
  show OwnOk p e below _ (T21.setTop (mkF m 10 #[.val (.ref ca), .val (.int (2 : Int32)), .val (.ref t), .val (.int (2 : Int32)), .val (.int (4 : Int32)), .val (.int (2 : Int32)), .val (.int x1)] []))
  refine own_up (fun tx kx => XS.aloadN X21.here hx rfl (hb hby d16_10) rfl rfl kx) ?_
  show OwnOk p e below _ (T21.setTop (mkF m 11 #[.val (.ref ca), .val (.int (2 : Int32)), .val (.ref t), .val (.int (2 : Int32)), .val (.int (4 : Int32)), .val (.int (2 : Int32)), .val (.int x1)] [(.ref ca)]))
  refine own_up (fun tx kx => XS.iloadN X21.here hx rfl (hb hby d16_11) rfl kx) ?_
  show OwnOk p e below _ (T21.setTop (mkF m 12 #[.val (.ref ca), .val (.int (2 : Int32)), .val (.ref t), .val (.int (2 : Int32)), .val (.int (4 : Int32)), .val (.int (2 : Int32)), .val (.int x1)] [(.int (2 : Int32)), (.ref ca)]))
  have V_ca_26 := (V_ca_18.other W21 ne_ca_t)
  obtain ⟨cl27, Ar27, qc27, Sz27, Nn27, Hs27, Gf27⟩ := id V_ca_26
  have hin27 : ¬ ((2 : Int32) < 0 ∨ cl27.slots.size ≤ ((2 : Int32)).toNatClampNeg) := inb_of Sz27 ⟨by decide, by decide⟩
  have hat27 : cl27.slots[((2 : Int32)).toNatClampNeg]? = some (.int x2) := Hs27.at hin27 rfl
  refine own_up (fun tx kx => X21.caload hx (j := (2 : Int32)) (v := (.int x2)) (own_ar e21 Ar27.1) (State.isArrayOf_alike hZ.alike Ar27.2.1) Ar27.2.2 hin27 hat27 (g := (mkF m 12 #[.val (.ref ca), .val (.int (2 : Int32)), .val (.ref t), .val (.int (2 : Int32)), .val (.int (4 : Int32)), .val (.int (2 : Int32)), .val (.int x1)] [(.int (2 : Int32)), (.ref ca)])) rfl rfl (hb hby d16_12) _ kx) ?_
  show OwnOk p e below _ (T21.setTop (mkF m 13 #[.val (.ref ca), .val (.int (2 : Int32)), .val (.ref t), .val (.int (2 : Int32)), .val (.int (4 : Int32)), .val (.int (2 : Int32)), .val (.int x1)] [(.int x2)]))
  refine own_up (fun tx kx => XS.istore X21.here hx rfl (hb hby d16_13) rfl (l' := #[.val (.ref ca), .val (.int (2 : Int32)), .val (.ref t), .val (.int (2 : Int32)), .val (.int (4 : Int32)), .val (.int (2 : Int32)), .val (.int x2)]) rfl kx) ?_
  show OwnOk p e below _ (T21.setTop (mkF m 15 #[.val (.ref ca), .val (.int (2 : Int32)), .val (.ref t), .val (.int (2 : Int32)), .val (.int (4 : Int32)), .val (.int (2 : Int32)), .val (.int x2)] []))
  refine own_up (fun tx kx => XS.iload X21.here hx rfl (hb hby d16_15) rfl kx) ?_
  show OwnOk p e below _ (T21.setTop (mkF m 17 #[.val (.ref ca), .val (.int (2 : Int32)), .val (.ref t), .val (.int (2 : Int32)), .val (.int (4 : Int32)), .val (.int (2 : Int32)), .val (.int x2)] [(.int x2)]))
  refine own_up (fun tx kx => XS.sipush X21.here hx rfl (hb hby d16_17) kx) ?_
  show OwnOk p e below _ (T21.setTop (mkF m 20 #[.val (.ref ca), .val (.int (2 : Int32)), .val (.ref t), .val (.int (2 : Int32)), .val (.int (4 : Int32)), .val (.int (2 : Int32)), .val (.int x2)] [(.int (255 : Int32)), (.int x2)]))
  refine own_up (fun tx kx => XS.icmpYes X21.here hx rfl (pc0 := 20) (pc' := 26) rfl (hb hby d16_20) rfl (flt c2).2.2.2 (by decide) (by decide) kx) ?_
  show OwnOk p e below _ (T21.setTop (mkF m 26 #[.val (.ref ca), .val (.int (2 : Int32)), .val (.ref t), .val (.int (2 : Int32)), .val (.int (4 : Int32)), .val (.int (2 : Int32)), .val (.int x2)] []))
  refine own_up (fun tx kx => XS.aloadN X21.here hx rfl (hb hby d16_26) rfl rfl kx) ?_
  show OwnOk p e below _ (T21.setTop (mkF m 27 #[.val (.ref ca), .val (.int (2 : Int32)), .val (.ref t), .val (.int (2 : Int32)), .val (.int (4 : Int32)), .val (.int (2 : Int32)), .val (.int x2)] [(.ref t)]))
  refine own_up (fun tx kx => XS.iloadN X21.here hx rfl (hb hby d16_27) rfl kx) ?_
  show OwnOk p e below _ (T21.setTop (mkF m 28 #[.val (.ref ca), .val (.int (2 : Int32)), .val (.ref t), .val (.int (2 : Int32)), .val (.int (4 : Int32)), .val (.int (2 : Int32)), .val (.int x2)] [(.int (2 : Int32)), (.ref t)]))
  refine own_up (fun tx kx => XS.iload X21.here hx rfl (hb hby d16_28) rfl kx) ?_
  show OwnOk p e below _ (T21.setTop (mkF m 30 #[.val (.ref ca), .val (.int (2 : Int32)), .val (.ref t), .val (.int (2 : Int32)), .val (.int (4 : Int32)), .val (.int (2 : Int32)), .val (.int x2)] [(.int x2), (.int (2 : Int32)), (.ref t)]))
  refine own_up (fun tx kx => XS.i2b X21.here hx rfl (hb hby d16_30) rfl kx) ?_
  show OwnOk p e below _ (T21.setTop (mkF m 31 #[.val (.ref ca), .val (.int (2 : Int32)), .val (.ref t), .val (.int (2 : Int32)), .val (.int (4 : Int32)), .val (.int (2 : Int32)), .val (.int x2)] [(.int (x2.toInt8.toInt32)), (.int (2 : Int32)), (.ref t)]))
  obtain ⟨cl28, Ar28, qc28, Sz28, Nn28, Hs28, Gf28⟩ := id V_t_21
  have hin28 : ¬ ((2 : Int32) < 0 ∨ cl28.slots.size ≤ ((2 : Int32)).toNatClampNeg) := inb_of Sz28 ⟨by decide, by decide⟩
  obtain ⟨T29, h29, X29, e29, W29, st29⟩ := stB X21 hx hZ e21 Ar28 (j := (2 : Int32)) hin28 (g := (mkF m 31 #[.val (.ref ca), .val (.int (2 : Int32)), .val (.ref t), .val (.int (2 : Int32)), .val (.int (4 : Int32)), .val (.int (2 : Int32)), .val (.int x2)] [(.int (x2.toInt8.toInt32)), (.int (2 : Int32)), (.ref t)])) rfl rfl (hb hby d16_31)
  have V_t_29 : Arv Z h29 t kt .byte (4 : Int32) [(.int (nar .byte (x0.toInt8.toInt32))), (.int (nar .byte (x1.toInt8.toInt32))), (.int (nar .byte (x2.toInt8.toInt32))), (.int (0 : Int32))] (.int (0 : Int32)) := Arv.set Ar28 qc28 Sz28 Nn28 Hs28 Gf28 (fits_nar_byte _) W29 2 rfl (Nat.le_of_ble_eq_true rfl)
  have N29 := Fr.snoc X29 N21 n0_t
  have OL30 := OL22.wr W29 n0_t
  have KP30 := KP22.wr W29 (Or.inl (List.mem_of_getElem? (i := 0) rfl))
  refine own_up st29 ?_
  show OwnOk p e below _ (T29.setTop (mkF m 32 #[.val (.ref ca), .val (.int (2 : Int32)), .val (.ref t), .val (.int (2 : Int32)), .val (.int (4 : Int32)), .val (.int (2 : Int32)), .val (.int x2)] []))
  have hi32_31 : ((2 : Int32) + (1 : Int32)) = (3 : Int32) := by decide
  refine own_up (fun tx kx => XS.iinc X29.here hx rfl (hb hby d16_32) rfl (l' := #[.val (.ref ca), .val (.int ((2 : Int32) + (1 : Int32))), .val (.ref t), .val (.int (2 : Int32)), .val (.int (4 : Int32)), .val (.int (2 : Int32)), .val (.int x2)]) rfl kx) ?_
  rw [hi32_31]
  show OwnOk p e below _ (T29.setTop (mkF m 35 #[.val (.ref ca), .val (.int (3 : Int32)), .val (.ref t), .val (.int (2 : Int32)), .val (.int (4 : Int32)), .val (.int (2 : Int32)), .val (.int x2)] []))
  have hi35_32 : ((2 : Int32) + (1 : Int32)) = (3 : Int32) := by decide
  refine own_up (fun tx kx => XS.iinc X29.here hx rfl (hb hby d16_35) rfl (l' := #[.val (.ref ca), .val (.int (3 : Int32)), .val (.ref t), .val (.int ((2 : Int32) + (1 : Int32))), .val (.int (4 : Int32)), .val (.int (2 : Int32)), .val (.int x2)]) rfl kx) ?_
  rw [hi35_32]
  show OwnOk p e below _ (T29.setTop (mkF m 38 #[.val (.ref ca), .val (.int (3 : Int32)), .val (.ref t), .val (.int (3 : Int32)), .val (.int (4 : Int32)), .val (.int (2 : Int32)), .val (.int x2)] []))
  have hi38_33 : ((2 : Int32) + (1 : Int32)) = (3 : Int32) := by decide
  refine own_up (fun tx kx => XS.iinc X29.here hx rfl (hb hby d16_38) rfl (l' := #[.val (.ref ca), .val (.int (3 : Int32)), .val (.ref t), .val (.int (3 : Int32)), .val (.int (4 : Int32)), .val (.int ((2 : Int32) + (1 : Int32))), .val (.int x2)]) rfl kx) ?_
  rw [hi38_33]
  show OwnOk p e below _ (T29.setTop (mkF m 41 #[.val (.ref ca), .val (.int (3 : Int32)), .val (.ref t), .val (.int (3 : Int32)), .val (.int (4 : Int32)), .val (.int (3 : Int32)), .val (.int x2)] []))
  refine own_up (fun tx kx => XS.goto X29.here hx rfl (pc0 := 41) (pc' := 3) rfl (hb hby d16_41) (by decide) (by decide) kx) ?_
  show OwnOk p e below _ (T29.setTop (mkF m 3 #[.val (.ref ca), .val (.int (3 : Int32)), .val (.ref t), .val (.int (3 : Int32)), .val (.int (4 : Int32)), .val (.int (3 : Int32)), .val (.int x2)] []))
  refine own_up (fun tx kx => XS.iload X29.here hx rfl (hb hby d16_3) rfl kx) ?_
  show OwnOk p e below _ (T29.setTop (mkF m 5 #[.val (.ref ca), .val (.int (3 : Int32)), .val (.ref t), .val (.int (3 : Int32)), .val (.int (4 : Int32)), .val (.int (3 : Int32)), .val (.int x2)] [(.int (3 : Int32))]))
  refine own_up (fun tx kx => XS.iload X29.here hx rfl (hb hby d16_5) rfl kx) ?_
  show OwnOk p e below _ (T29.setTop (mkF m 7 #[.val (.ref ca), .val (.int (3 : Int32)), .val (.ref t), .val (.int (3 : Int32)), .val (.int (4 : Int32)), .val (.int (3 : Int32)), .val (.int x2)] [(.int (4 : Int32)), (.int (3 : Int32))]))
  refine own_up (fun tx kx => XS.icmpNo X29.here hx rfl (hb hby d16_7) rfl (tlt (by decide)).2.1 kx) ?_
  show OwnOk p e below _ (T29.setTop (mkF m 10 #[.val (.ref ca), .val (.int (3 : Int32)), .val (.ref t), .val (.int (3 : Int32)), .val (.int (4 : Int32)), .val (.int (3 : Int32)), .val (.int x2)] []))
  refine own_up (fun tx kx => XS.aloadN X29.here hx rfl (hb hby d16_10) rfl rfl kx) ?_
  show OwnOk p e below _ (T29.setTop (mkF m 11 #[.val (.ref ca), .val (.int (3 : Int32)), .val (.ref t), .val (.int (3 : Int32)), .val (.int (4 : Int32)), .val (.int (3 : Int32)), .val (.int x2)] [(.ref ca)]))
  refine own_up (fun tx kx => XS.iloadN X29.here hx rfl (hb hby d16_11) rfl kx) ?_
  show OwnOk p e below _ (T29.setTop (mkF m 12 #[.val (.ref ca), .val (.int (3 : Int32)), .val (.ref t), .val (.int (3 : Int32)), .val (.int (4 : Int32)), .val (.int (3 : Int32)), .val (.int x2)] [(.int (3 : Int32)), (.ref ca)]))
  have V_ca_34 := (V_ca_26.other W29 ne_ca_t)
  obtain ⟨cl35, Ar35, qc35, Sz35, Nn35, Hs35, Gf35⟩ := id V_ca_34
  have hin35 : ¬ ((3 : Int32) < 0 ∨ cl35.slots.size ≤ ((3 : Int32)).toNatClampNeg) := inb_of Sz35 ⟨by decide, by decide⟩
  have hat35 : cl35.slots[((3 : Int32)).toNatClampNeg]? = some (.int x3) := Hs35.at hin35 rfl
  refine own_up (fun tx kx => X29.caload hx (j := (3 : Int32)) (v := (.int x3)) (own_ar e29 Ar35.1) (State.isArrayOf_alike hZ.alike Ar35.2.1) Ar35.2.2 hin35 hat35 (g := (mkF m 12 #[.val (.ref ca), .val (.int (3 : Int32)), .val (.ref t), .val (.int (3 : Int32)), .val (.int (4 : Int32)), .val (.int (3 : Int32)), .val (.int x2)] [(.int (3 : Int32)), (.ref ca)])) rfl rfl (hb hby d16_12) _ kx) ?_
  show OwnOk p e below _ (T29.setTop (mkF m 13 #[.val (.ref ca), .val (.int (3 : Int32)), .val (.ref t), .val (.int (3 : Int32)), .val (.int (4 : Int32)), .val (.int (3 : Int32)), .val (.int x2)] [(.int x3)]))
  refine own_up (fun tx kx => XS.istore X29.here hx rfl (hb hby d16_13) rfl (l' := #[.val (.ref ca), .val (.int (3 : Int32)), .val (.ref t), .val (.int (3 : Int32)), .val (.int (4 : Int32)), .val (.int (3 : Int32)), .val (.int x3)]) rfl kx) ?_
  show OwnOk p e below _ (T29.setTop (mkF m 15 #[.val (.ref ca), .val (.int (3 : Int32)), .val (.ref t), .val (.int (3 : Int32)), .val (.int (4 : Int32)), .val (.int (3 : Int32)), .val (.int x3)] []))
  refine own_up (fun tx kx => XS.iload X29.here hx rfl (hb hby d16_15) rfl kx) ?_
  show OwnOk p e below _ (T29.setTop (mkF m 17 #[.val (.ref ca), .val (.int (3 : Int32)), .val (.ref t), .val (.int (3 : Int32)), .val (.int (4 : Int32)), .val (.int (3 : Int32)), .val (.int x3)] [(.int x3)]))
  refine own_up (fun tx kx => XS.sipush X29.here hx rfl (hb hby d16_17) kx) ?_
  show OwnOk p e below _ (T29.setTop (mkF m 20 #[.val (.ref ca), .val (.int (3 : Int32)), .val (.ref t), .val (.int (3 : Int32)), .val (.int (4 : Int32)), .val (.int (3 : Int32)), .val (.int x3)] [(.int (255 : Int32)), (.int x3)]))
  refine own_up (fun tx kx => XS.icmpYes X29.here hx rfl (pc0 := 20) (pc' := 26) rfl (hb hby d16_20) rfl (flt c3).2.2.2 (by decide) (by decide) kx) ?_
  show OwnOk p e below _ (T29.setTop (mkF m 26 #[.val (.ref ca), .val (.int (3 : Int32)), .val (.ref t), .val (.int (3 : Int32)), .val (.int (4 : Int32)), .val (.int (3 : Int32)), .val (.int x3)] []))
  refine own_up (fun tx kx => XS.aloadN X29.here hx rfl (hb hby d16_26) rfl rfl kx) ?_
  show OwnOk p e below _ (T29.setTop (mkF m 27 #[.val (.ref ca), .val (.int (3 : Int32)), .val (.ref t), .val (.int (3 : Int32)), .val (.int (4 : Int32)), .val (.int (3 : Int32)), .val (.int x3)] [(.ref t)]))
  refine own_up (fun tx kx => XS.iloadN X29.here hx rfl (hb hby d16_27) rfl kx) ?_
  show OwnOk p e below _ (T29.setTop (mkF m 28 #[.val (.ref ca), .val (.int (3 : Int32)), .val (.ref t), .val (.int (3 : Int32)), .val (.int (4 : Int32)), .val (.int (3 : Int32)), .val (.int x3)] [(.int (3 : Int32)), (.ref t)]))
  refine own_up (fun tx kx => XS.iload X29.here hx rfl (hb hby d16_28) rfl kx) ?_
  show OwnOk p e below _ (T29.setTop (mkF m 30 #[.val (.ref ca), .val (.int (3 : Int32)), .val (.ref t), .val (.int (3 : Int32)), .val (.int (4 : Int32)), .val (.int (3 : Int32)), .val (.int x3)] [(.int x3), (.int (3 : Int32)), (.ref t)]))
  refine own_up (fun tx kx => XS.i2b X29.here hx rfl (hb hby d16_30) rfl kx) ?_
  show OwnOk p e below _ (T29.setTop (mkF m 31 #[.val (.ref ca), .val (.int (3 : Int32)), .val (.ref t), .val (.int (3 : Int32)), .val (.int (4 : Int32)), .val (.int (3 : Int32)), .val (.int x3)] [(.int (x3.toInt8.toInt32)), (.int (3 : Int32)), (.ref t)]))
  obtain ⟨cl36, Ar36, qc36, Sz36, Nn36, Hs36, Gf36⟩ := id V_t_29
  have hin36 : ¬ ((3 : Int32) < 0 ∨ cl36.slots.size ≤ ((3 : Int32)).toNatClampNeg) := inb_of Sz36 ⟨by decide, by decide⟩
  obtain ⟨T37, h37, X37, e37, W37, st37⟩ := stB X29 hx hZ e29 Ar36 (j := (3 : Int32)) hin36 (g := (mkF m 31 #[.val (.ref ca), .val (.int (3 : Int32)), .val (.ref t), .val (.int (3 : Int32)), .val (.int (4 : Int32)), .val (.int (3 : Int32)), .val (.int x3)] [(.int (x3.toInt8.toInt32)), (.int (3 : Int32)), (.ref t)])) rfl rfl (hb hby d16_31)
  have V_t_37 : Arv Z h37 t kt .byte (4 : Int32) [(.int (nar .byte (x0.toInt8.toInt32))), (.int (nar .byte (x1.toInt8.toInt32))), (.int (nar .byte (x2.toInt8.toInt32))), (.int (nar .byte (x3.toInt8.toInt32)))] (.int (0 : Int32)) := Arv.set Ar36 qc36 Sz36 Nn36 Hs36 Gf36 (fits_nar_byte _) W37 3 rfl (Nat.le_of_ble_eq_true rfl)
  have N37 := Fr.snoc X37 N29 n0_t
  have OL38 := OL30.wr W37 n0_t
  have KP38 := KP30.wr W37 (Or.inl (List.mem_of_getElem? (i := 0) rfl))
  refine own_up st37 ?_
  show OwnOk p e below _ (T37.setTop (mkF m 32 #[.val (.ref ca), .val (.int (3 : Int32)), .val (.ref t), .val (.int (3 : Int32)), .val (.int (4 : Int32)), .val (.int (3 : Int32)), .val (.int x3)] []))
  have hi32_39 : ((3 : Int32) + (1 : Int32)) = (4 : Int32) := by decide
  refine own_up (fun tx kx => XS.iinc X37.here hx rfl (hb hby d16_32) rfl (l' := #[.val (.ref ca), .val (.int ((3 : Int32) + (1 : Int32))), .val (.ref t), .val (.int (3 : Int32)), .val (.int (4 : Int32)), .val (.int (3 : Int32)), .val (.int x3)]) rfl kx) ?_
  rw [hi32_39]
  show OwnOk p e below _ (T37.setTop (mkF m 35 #[.val (.ref ca), .val (.int (4 : Int32)), .val (.ref t), .val (.int (3 : Int32)), .val (.int (4 : Int32)), .val (.int (3 : Int32)), .val (.int x3)] []))
  have hi35_40 : ((3 : Int32) + (1 : Int32)) = (4 : Int32) := by decide
  refine own_up (fun tx kx => XS.iinc X37.here hx rfl (hb hby d16_35) rfl (l' := #[.val (.ref ca), .val (.int (4 : Int32)), .val (.ref t), .val (.int ((3 : Int32) + (1 : Int32))), .val (.int (4 : Int32)), .val (.int (3 : Int32)), .val (.int x3)]) rfl kx) ?_
  rw [hi35_40]
  show OwnOk p e below _ (T37.setTop (mkF m 38 #[.val (.ref ca), .val (.int (4 : Int32)), .val (.ref t), .val (.int (4 : Int32)), .val (.int (4 : Int32)), .val (.int (3 : Int32)), .val (.int x3)] []))
  have hi38_41 : ((3 : Int32) + (1 : Int32)) = (4 : Int32) := by decide
  refine own_up (fun tx kx => XS.iinc X37.here hx rfl (hb hby d16_38) rfl (l' := #[.val (.ref ca), .val (.int (4 : Int32)), .val (.ref t), .val (.int (4 : Int32)), .val (.int (4 : Int32)), .val (.int ((3 : Int32) + (1 : Int32))), .val (.int x3)]) rfl kx) ?_
  rw [hi38_41]
  show OwnOk p e below _ (T37.setTop (mkF m 41 #[.val (.ref ca), .val (.int (4 : Int32)), .val (.ref t), .val (.int (4 : Int32)), .val (.int (4 : Int32)), .val (.int (4 : Int32)), .val (.int x3)] []))
  refine own_up (fun tx kx => XS.goto X37.here hx rfl (pc0 := 41) (pc' := 3) rfl (hb hby d16_41) (by decide) (by decide) kx) ?_
  show OwnOk p e below _ (T37.setTop (mkF m 3 #[.val (.ref ca), .val (.int (4 : Int32)), .val (.ref t), .val (.int (4 : Int32)), .val (.int (4 : Int32)), .val (.int (4 : Int32)), .val (.int x3)] []))
  refine own_up (fun tx kx => XS.iload X37.here hx rfl (hb hby d16_3) rfl kx) ?_
  show OwnOk p e below _ (T37.setTop (mkF m 5 #[.val (.ref ca), .val (.int (4 : Int32)), .val (.ref t), .val (.int (4 : Int32)), .val (.int (4 : Int32)), .val (.int (4 : Int32)), .val (.int x3)] [(.int (4 : Int32))]))
  refine own_up (fun tx kx => XS.iload X37.here hx rfl (hb hby d16_5) rfl kx) ?_
  show OwnOk p e below _ (T37.setTop (mkF m 7 #[.val (.ref ca), .val (.int (4 : Int32)), .val (.ref t), .val (.int (4 : Int32)), .val (.int (4 : Int32)), .val (.int (4 : Int32)), .val (.int x3)] [(.int (4 : Int32)), (.int (4 : Int32))]))
  refine own_up (fun tx kx => XS.icmpYes X37.here hx rfl (pc0 := 7) (pc' := 44) rfl (hb hby d16_7) rfl (flt (by decide)).2.1 (by decide) (by decide) kx) ?_
  show OwnOk p e below _ (T37.setTop (mkF m 44 #[.val (.ref ca), .val (.int (4 : Int32)), .val (.ref t), .val (.int (4 : Int32)), .val (.int (4 : Int32)), .val (.int (4 : Int32)), .val (.int x3)] []))
  refine own_up (fun tx kx => XS.iload X37.here hx rfl (hb hby d16_44) rfl kx) ?_
  show OwnOk p e below _ (T37.setTop (mkF m 46 #[.val (.ref ca), .val (.int (4 : Int32)), .val (.ref t), .val (.int (4 : Int32)), .val (.int (4 : Int32)), .val (.int (4 : Int32)), .val (.int x3)] [(.int (4 : Int32))]))
  refine own_retI X37 hx (show meth.sig.returnType = some .int from hret) hlk (hb hby d16_46) e37 (Nat.le_of_ble_eq_true rfl) (Nat.le_of_ble_eq_true rfl) ?_
  exact ⟨rfl, N37, KP38, V_t_37⟩
def Q_c_cmp4_4 (Z : State) (x0 x1 x2 x3 : Int32) (h0 : Heap) (n0 : Nat) (v : Option Value) (h : Heap) (L : List Loc) : Prop := ∃ (t : Addr) (kt : ClassId), v = some (.ref t) ∧ Fr n0 L ∧ Keep h0 h [] ∧ h0.size ≤ t ∧ Arv Z h t kt .byte (4 : Int32) [(.int (nar .byte (x0.toInt8.toInt32))), (.int (nar .byte (x1.toInt8.toInt32))), (.int (nar .byte (x2.toInt8.toInt32))), (.int (nar .byte (x3.toInt8.toInt32)))] (.int (0 : Int32))
set_option maxRecDepth 65536 in
set_option maxHeartbeats 40000000 in
theorem c_cmp4_4 (l : Launch) (Z : State) (a0 : Array Value) (hw : ∀ d ∈ tables_1, d.before a0 Z = true) (ca : Addr) (kc : ClassId) (x0 x1 x2 x3 : Int32) (h0 : Heap) (n0 : Nat) (OL : Old Z n0 h0) (V_ca : Arv Z h0 ca kc .char (4 : Int32) [(.int x0), (.int x1), (.int x2), (.int x3)] (.int (0 : Int32))) (c0 : ¬ (255 : Int32) < x0) (c1 : ¬ (255 : Int32) < x1) (c2 : ¬ (255 : Int32) < x2) (c3 : ¬ (255 : Int32) < x3) :
    own_Met l Z (⟨"java/lang/StringUTF16", "compress", "([CII)[B"⟩ : MethodName) jdk_52_method_16_code 6 (some (.array .byte)) ({ frames := 1, cells := 1, slots := 4, locals := 20 } : Room) #[(.ref ca), (.int (0 : Int32)), (.int (4 : Int32))] h0 (Q_c_cmp4_4 Z x0 x1 x2 x3 h0 n0) := by
  refine own_body (L0 := #[.val (.ref ca), .val (.int (0 : Int32)), .val (.int (4 : Int32)), .unset, .unset, .unset]) (plainFor_of_name (by first | (simp [plainName, overriddenIn]; done) | decide +kernel)) (fun m => by first | (simp [entryFrame, mkF, argsToLocals, Value.category]; done) | rfl) ?_
  intro p e s m below meth c s₁ hx hby hml hZ hown hnm hret hlk X0 e0
  have N0 := Fr.nil n0
  have Z0 : n0 ≤ h0.size := OL.1 ▸ OL.2.1
  show OwnOk p e below _ (s₁.setTop (mkF m 0 #[.val (.ref ca), .val (.int (0 : Int32)), .val (.int (4 : Int32)), .unset, .unset, .unset] []))
  have KP0 : Keep h0 h0 [] := Keep.refl h0 _
  refine own_up (fun tx kx => XS.iloadN X0.here hx rfl (hb hby d15_0) rfl kx) ?_
  show OwnOk p e below _ (s₁.setTop (mkF m 1 #[.val (.ref ca), .val (.int (0 : Int32)), .val (.int (4 : Int32)), .unset, .unset, .unset] [(.int (4 : Int32))]))
  obtain ⟨T11, h11, k11, X11, e11, E11, A11, st11⟩ := newP (aty := .byte) X0 hx hZ (wd_4 hw) e0 (g := (mkF m 1 #[.val (.ref ca), .val (.int (0 : Int32)), .val (.int (4 : Int32)), .unset, .unset, .unset] [(.int (4 : Int32))])) rfl (hb hby d15_1) rfl (by decide) (cap := 4) (by decide) (by decide) (by decide) (by decide)
  obtain ⟨b11, g11⟩ : ∃ z, z = h0.size := ⟨_, rfl⟩
  rw [← g11] at A11 st11
  have sz_b11 : h0.size ≤ b11 := Nat.le_of_eq g11.symm
  have lt_ca_b11 : ca < b11 := Nat.lt_of_lt_of_le V_ca.lt sz_b11
  have n0_b11 : n0 ≤ b11 := Nat.le_trans (own_n0 OL) sz_b11
  have ws_b11 : h0.size ≤ b11 := Nat.le_trans KP0.1 sz_b11
  have V_b11 : Arv Z h11 b11 k11 .byte (4 : Int32) [(.int (0 : Int32)), (.int (0 : Int32)), (.int (0 : Int32)), (.int (0 : Int32))] (.int (0 : Int32)) := (Arv.new A11 (by decide)).pad (pad_rep [] (.int (0 : Int32)) 4)
  have OL13 := OL.ext E11
  have KP13 := KP0.ext E11
  refine own_up st11 ?_
  show OwnOk p e below _ (T11.setTop (mkF m 3 #[.val (.ref ca), .val (.int (0 : Int32)), .val (.int (4 : Int32)), .unset, .unset, .unset] [(.ref b11)]))
  refine own_up (fun tx kx => XS.astoreN X11.here hx rfl (hb hby d15_3) rfl rfl (l' := #[.val (.ref ca), .val (.int (0 : Int32)), .val (.int (4 : Int32)), .val (.ref b11), .unset, .unset]) rfl kx) ?_
  show OwnOk p e below _ (T11.setTop (mkF m 4 #[.val (.ref ca), .val (.int (0 : Int32)), .val (.int (4 : Int32)), .val (.ref b11), .unset, .unset] []))
  refine own_up (fun tx kx => XS.aloadN X11.here hx rfl (hb hby d15_4) rfl rfl kx) ?_
  show OwnOk p e below _ (T11.setTop (mkF m 5 #[.val (.ref ca), .val (.int (0 : Int32)), .val (.int (4 : Int32)), .val (.ref b11), .unset, .unset] [(.ref ca)]))
  refine own_up (fun tx kx => XS.iloadN X11.here hx rfl (hb hby d15_5) rfl kx) ?_
  show OwnOk p e below _ (T11.setTop (mkF m 6 #[.val (.ref ca), .val (.int (0 : Int32)), .val (.int (4 : Int32)), .val (.ref b11), .unset, .unset] [(.int (0 : Int32)), (.ref ca)]))
  refine own_up (fun tx kx => XS.aloadN X11.here hx rfl (hb hby d15_6) rfl rfl kx) ?_
  show OwnOk p e below _ (T11.setTop (mkF m 7 #[.val (.ref ca), .val (.int (0 : Int32)), .val (.int (4 : Int32)), .val (.ref b11), .unset, .unset] [(.ref b11), (.int (0 : Int32)), (.ref ca)]))
  refine own_up (fun tx kx => XS.iconst X11.here hx rfl (hb hby d15_7) kx) ?_
  show OwnOk p e below _ (T11.setTop (mkF m 8 #[.val (.ref ca), .val (.int (0 : Int32)), .val (.int (4 : Int32)), .val (.ref b11), .unset, .unset] [(.int (0 : Int32)), (.ref b11), (.int (0 : Int32)), (.ref ca)]))
  refine own_up (fun tx kx => XS.iloadN X11.here hx rfl (hb hby d15_8) rfl kx) ?_
  show OwnOk p e below _ (T11.setTop (mkF m 9 #[.val (.ref ca), .val (.int (0 : Int32)), .val (.int (4 : Int32)), .val (.ref b11), .unset, .unset] [(.int (4 : Int32)), (.int (0 : Int32)), (.ref b11), (.int (0 : Int32)), (.ref ca)]))
  have V_ca_14 := (V_ca.ext E11)
  refine own_callS X11 hx hZ (y := (⟨"java/lang/StringUTF16", "compress", "([CI[BII)I"⟩ : MethodName)) hown (wd_94 hw) (wd_95 hw) (wd_92 hw) (wd_96 hw) (by decide) (c_cmp5_4 l Z a0 hw ca b11 kc k11 x0 x1 x2 x3 h11 n0 OL13 V_ca_14 V_b11 n0_b11 (Nat.ne_of_lt lt_ca_b11) c0 c1 c2 c3) e11 (argsL := [(.ref ca), (.int (0 : Int32)), (.ref b11), (.int (0 : Int32)), (.int (4 : Int32))]) (rest := []) (by rw [hml]; rfl) (lenOf pd_5 rfl) rfl rfl (W := 0) rfl (hb hby d15_9) (by decide) (by decide) (by decide) (by decide) (fun T15 v15 L15 X15 hQ15 => ?_)
  obtain ⟨rfl, Nq15, Kq15, Vq15⟩ := hQ15
  have N15 := Fr.app N0 Nq15
  have OL15 := OL13.keep Kq15 (allS n0_b11 all0)
  have KP15 := KP13.trans Kq15 (allS (Or.inr ws_b11) all0)
  show OwnOk p e below _ (T15.setTop (mkF m 12 #[.val (.ref ca), .val (.int (0 : Int32)), .val (.int (4 : Int32)), .val (.ref b11), .unset, .unset] [(.int (4 : Int32))]))
  refine own_up (fun tx kx => XS.istore X15.here hx rfl (hb hby d15_12) rfl (l' := #[.val (.ref ca), .val (.int (0 : Int32)), .val (.int (4 : Int32)), .val (.ref b11), .val (.int (4 : Int32)), .unset]) rfl kx) ?_
  show OwnOk p e below _ (T15.setTop (mkF m 14 #[.val (.ref ca), .val (.int (0 : Int32)), .val (.int (4 : Int32)), .val (.ref b11), .val (.int (4 : Int32)), .unset] []))
  refine own_up (fun tx kx => XS.iload X15.here hx rfl (hb hby d15_14) rfl kx) ?_
  show OwnOk p e below _ (T15.setTop (mkF m 16 #[.val (.ref ca), .val (.int (0 : Int32)), .val (.int (4 : Int32)), .val (.ref b11), .val (.int (4 : Int32)), .unset] [(.int (4 : Int32))]))
  refine own_up (fun tx kx => XS.iloadN X15.here hx rfl (hb hby d15_16) rfl kx) ?_
  show OwnOk p e below _ (T15.setTop (mkF m 17 #[.val (.ref ca), .val (.int (0 : Int32)), .val (.int (4 : Int32)), .val (.ref b11), .val (.int (4 : Int32)), .unset] [(.int (4 : Int32)), (.int (4 : Int32))]))
  refine own_up (fun tx kx => XS.icmpYes X15.here hx rfl (pc0 := 17) (pc' := 57) rfl (hb hby d15_17) rfl (teq rfl).1 (by decide) (by decide) kx) ?_
  show OwnOk p e below _ (T15.setTop (mkF m 57 #[.val (.ref ca), .val (.int (0 : Int32)), .val (.int (4 : Int32)), .val (.ref b11), .val (.int (4 : Int32)), .unset] []))
  refine own_up (fun tx kx => XS.aloadN X15.here hx rfl (hb hby d15_57) rfl rfl kx) ?_
  show OwnOk p e below _ (T15.setTop (mkF m 58 #[.val (.ref ca), .val (.int (0 : Int32)), .val (.int (4 : Int32)), .val (.ref b11), .val (.int (4 : Int32)), .unset] [(.ref b11)]))
  refine own_retR X15 hx (t := (.array .byte)) (show meth.sig.returnType = some (.array .byte) from hret) rfl hlk rfl (hb hby d15_58) rfl (Nat.le_of_ble_eq_true rfl) (Nat.le_of_ble_eq_true rfl) ?_
  exact ⟨b11, _, rfl, N15, KP15, ws_b11, Vq15⟩
def Q_c_coder_4 (h0 : Heap) (n0 : Nat) (v : Option Value) (h : Heap) (L : List Loc) : Prop := v = some (.int 0) ∧ Fr n0 L ∧ h = h0
set_option maxRecDepth 65536 in
set_option maxHeartbeats 40000000 in
theorem c_coder_4 (l : Launch) (Z : State) (a0 : Array Value) (hw : ∀ d ∈ tables_1, d.before a0 Z = true) (t : Addr) (kt : ClassId) (x0 x1 x2 x3 : Int32) (h0 : Heap) (n0 : Nat) (OL : Old Z n0 h0) (V_t : Arv Z h0 t kt .byte (4 : Int32) [(.int (nar .byte (x0.toInt8.toInt32))), (.int (nar .byte (x1.toInt8.toInt32))), (.int (nar .byte (x2.toInt8.toInt32))), (.int (nar .byte (x3.toInt8.toInt32)))] (.int (0 : Int32))) :
    own_Met l Z (⟨"java/lang/StringUTF16", "coderFromArrayLen", "([BI)B"⟩ : MethodName) jdk_52_method_15_code 2 (some .byte) ({ frames := 0, cells := 0, slots := 0, locals := 0 } : Room) #[(.ref t), (.int (4 : Int32))] h0 (Q_c_coder_4 h0 n0) := by
  refine own_body (L0 := #[.val (.ref t), .val (.int (4 : Int32))]) (plainFor_of_name (by first | (simp [plainName, overriddenIn]; done) | decide +kernel)) (fun m => by first | (simp [entryFrame, mkF, argsToLocals, Value.category]; done) | rfl) ?_
  intro p e s m below meth c s₁ hx hby hml hZ hown hnm hret hlk X0 e0
  have N0 := Fr.nil n0
  have Z0 : n0 ≤ h0.size := OL.1 ▸ OL.2.1
  show OwnOk p e below _ (s₁.setTop (mkF m 0 #[.val (.ref t), .val (.int (4 : Int32))] []))
  refine own_up (fun tx kx => XS.iloadN X0.here hx rfl (hb hby d17_0) rfl kx) ?_
  show OwnOk p e below _ (s₁.setTop (mkF m 1 #[.val (.ref t), .val (.int (4 : Int32))] [(.int (4 : Int32))]))
  refine own_up (fun tx kx => XS.aloadN X0.here hx rfl (hb hby d17_1) rfl rfl kx) ?_
  show OwnOk p e below _ (s₁.setTop (mkF m 2 #[.val (.ref t), .val (.int (4 : Int32))] [(.ref t), (.int (4 : Int32))]))
  obtain ⟨cl11, Ar11, qc11, Sz11, Nn11, Hs11, Gf11⟩ := id V_t
  have hlen11 : cl11.slots.size.toInt32 = (4 : Int32) := len_of Sz11 Nn11
  refine own_up (fun tx kx => X0.arraylength hx (own_ar e0 Ar11.1) (State.isArrayOf_alike hZ.alike Ar11.2.1) (g := (mkF m 2 #[.val (.ref t), .val (.int (4 : Int32))] [(.ref t), (.int (4 : Int32))])) rfl rfl (hb hby d17_2) _ kx) ?_
  rw [hlen11]
  show OwnOk p e below _ (s₁.setTop (mkF m 3 #[.val (.ref t), .val (.int (4 : Int32))] [(.int (4 : Int32)), (.int (4 : Int32))]))
  have hc3_12 : ((4 : Int32) - (4 : Int32)) = (0 : Int32) := by decide
  refine own_up (fun tx kx => XS.isub X0.here hx rfl (hb hby d17_3) rfl kx) ?_
  show OwnOk p e below _ (s₁.setTop (mkF m 4 #[.val (.ref t), .val (.int (4 : Int32))] [(.int ((4 : Int32) - (4 : Int32)))]))
  rw [hc3_12]
  show OwnOk p e below _ (s₁.setTop (mkF m 4 #[.val (.ref t), .val (.int (4 : Int32))] [(.int (0 : Int32))]))
  refine own_up (fun tx kx => XS.bipush X0.here hx rfl (hb hby d17_4) kx) ?_
  show OwnOk p e below _ (s₁.setTop (mkF m 6 #[.val (.ref t), .val (.int (4 : Int32))] [(.int (31 : Int32)), (.int (0 : Int32))]))
  refine own_up (fun tx kx => XS.iushr X0.here hx rfl (hb hby d17_6) rfl kx) ?_
  show OwnOk p e below _ (s₁.setTop (mkF m 7 #[.val (.ref t), .val (.int (4 : Int32))] [(.int (((0 : Int32).toUInt32 >>> ((31 : Int32) &&& 31).toUInt32).toInt32))]))
  refine own_up (fun tx kx => XS.i2b X0.here hx rfl (hb hby d17_7) rfl kx) ?_
  show OwnOk p e below _ (s₁.setTop (mkF m 8 #[.val (.ref t), .val (.int (4 : Int32))] [(.int ((((0 : Int32).toUInt32 >>> ((31 : Int32) &&& 31).toUInt32).toInt32).toInt8.toInt32))]))
  refine own_retN X0 hx (t := .byte) (show meth.sig.returnType = some .byte from hret) (by simp) hlk (hb hby d17_8) (z' := 0) (by decide) e0 (Nat.le_of_ble_eq_true rfl) (Nat.le_of_ble_eq_true rfl) ?_
  exact ⟨rfl, N0, rfl⟩
def Q_c_init2_4 (Z : State) (a : Addr) (x0 x1 x2 x3 : Int32) (h0 : Heap) (n0 : Nat) (v : Option Value) (h : Heap) (L : List Loc) : Prop := v = none ∧ Fr n0 L ∧ Keep h0 h [a] ∧ ∃ (u : Addr) (ku : ClassId), h0.size ≤ u ∧ (Exa Z h a "java/lang/String") ∧ (Fld Z h a "java/lang/String" "value" "[B" (.ref u)) ∧ (Fld Z h a "java/lang/String" "coder" "B" (.int (0 : Int32))) ∧ (Arv Z h u ku .byte (Int32.ofNat 4) (own_F 4 (fun j => [(nar .byte (x0.toInt8.toInt32)), (nar .byte (x1.toInt8.toInt32)), (nar .byte (x2.toInt8.toInt32)), (nar .byte (x3.toInt8.toInt32))].getD j 0)) (.int (0 : Int32)))
set_option maxRecDepth 65536 in
set_option maxHeartbeats 40000000 in
theorem c_init2_4 (l : Launch) (Z : State) (a0 : Array Value) (hw : ∀ d ∈ tables_1, d.before a0 Z = true) (a ca : Addr) (kc : ClassId) (x0 x1 x2 x3 : Int32) (cz : Int32) (h0 : Heap) (n0 : Nat) (OL : Old Z n0 h0) (SC : Sta Z Z.heap "java/lang/String" "COMPACT_STRINGS" "Z" (.int cz)) (hcz : ¬ cz = 0) (E_a : Exa Z h0 a "java/lang/String") (F_value_a : Fld Z h0 a "java/lang/String" "value" "[B" .null) (F_coder_a : Fld Z h0 a "java/lang/String" "coder" "B" (.int (0 : Int32))) (n0_a : n0 ≤ a) (V_ca : Arv Z h0 ca kc .char (4 : Int32) [(.int x0), (.int x1), (.int x2), (.int x3)] (.int (0 : Int32))) (ne_a_ca : a ≠ ca) (c0 : ¬ (255 : Int32) < x0) (c1 : ¬ (255 : Int32) < x1) (c2 : ¬ (255 : Int32) < x2) (c3 : ¬ (255 : Int32) < x3) :
    own_Met l Z (⟨"java/lang/String", "<init>", "([CIILjava/lang/Void;)V"⟩ : MethodName) jdk_42_method_149_code 6 none ({ frames := 2, cells := 1, slots := 4, locals := 45 } : Room) #[(.ref a), (.ref ca), (.int (0 : Int32)), (.int (4 : Int32)), .null] h0 (Q_c_init2_4 Z a x0 x1 x2 x3 h0 n0) := by
  refine own_body (L0 := #[.val (.ref a), .val (.ref ca), .val (.int (0 : Int32)), .val (.int (4 : Int32)), .val .null, .unset]) (plainFor_of_name (by first | (simp [plainName, overriddenIn]; done) | decide +kernel)) (fun m => by first | (simp [entryFrame, mkF, argsToLocals, Value.category]; done) | rfl) ?_
  intro p e s m below meth c s₁ hx hby hml hZ hown hnm hret hlk X0 e0
  have N0 := Fr.nil n0
  have Z0 : n0 ≤ h0.size := OL.1 ▸ OL.2.1
  show OwnOk p e below _ (s₁.setTop (mkF m 0 #[.val (.ref a), .val (.ref ca), .val (.int (0 : Int32)), .val (.int (4 : Int32)), .val .null, .unset] []))
  have KP0 : Keep h0 h0 [a] := Keep.refl h0 _
  refine own_up (fun tx kx => XS.aloadN X0.here hx rfl (hb hby d13_0) rfl rfl kx) ?_
  show OwnOk p e below _ (s₁.setTop (mkF m 1 #[.val (.ref a), .val (.ref ca), .val (.int (0 : Int32)), .val (.int (4 : Int32)), .val .null, .unset] [(.ref a)]))
  obtain ⟨T11, X11, e11, st11⟩ := initO X0 hx hZ hown (wd_87 hw) (wd_88 hw) (wd_89 hw) e0 (g := (mkF m 1 #[.val (.ref a), .val (.ref ca), .val (.int (0 : Int32)), .val (.int (4 : Int32)), .val .null, .unset] [(.ref a)])) rfl (by rw [hml]; rfl) rfl (hb hby d13_1) (by decide) (W := 0) (by show 2 * 0 + _ ≤ _; exact Nat.le_of_eq rfl) (by decide)
  refine own_up st11 ?_
  show OwnOk p e below _ (T11.setTop (mkF m 4 #[.val (.ref a), .val (.ref ca), .val (.int (0 : Int32)), .val (.int (4 : Int32)), .val .null, .unset] []))
  refine own_up (fun tx kx => XS.iloadN X11.here hx rfl (hb hby d13_4) rfl kx) ?_
  show OwnOk p e below _ (T11.setTop (mkF m 5 #[.val (.ref a), .val (.ref ca), .val (.int (0 : Int32)), .val (.int (4 : Int32)), .val .null, .unset] [(.int (4 : Int32))]))
  refine own_up (fun tx kx => XS.ifYes X11.here hx rfl (pc0 := 5) (pc' := 27) rfl (hb hby d13_5) rfl ((if0 _ _).trans (feq (by decide)).2) (by decide) (by decide) kx) ?_
  show OwnOk p e below _ (T11.setTop (mkF m 27 #[.val (.ref a), .val (.ref ca), .val (.int (0 : Int32)), .val (.int (4 : Int32)), .val .null, .unset] []))
  obtain ⟨T12, X12, e12, st12⟩ := getS2 X11 hx hZ hown (host := "") (Or.inl (wd_24 hw)) Via.refl e11 (SC.ext OL.2) (g := (mkF m 27 #[.val (.ref a), .val (.ref ca), .val (.int (0 : Int32)), .val (.int (4 : Int32)), .val .null, .unset] [])) rfl (hb hby d13_27)
  refine own_up st12 ?_
  show OwnOk p e below _ (T12.setTop (mkF m 30 #[.val (.ref a), .val (.ref ca), .val (.int (0 : Int32)), .val (.int (4 : Int32)), .val .null, .unset] [(.int cz)]))
  refine own_up (fun tx kx => XS.ifNo X12.here hx rfl (hb hby d13_30) rfl ((if0 _ _).trans (feq hcz).1) kx) ?_
  show OwnOk p e below _ (T12.setTop (mkF m 33 #[.val (.ref a), .val (.ref ca), .val (.int (0 : Int32)), .val (.int (4 : Int32)), .val .null, .unset] []))
  refine own_up (fun tx kx => XS.aloadN X12.here hx rfl (hb hby d13_33) rfl rfl kx) ?_
  show OwnOk p e below _ (T12.setTop (mkF m 34 #[.val (.ref a), .val (.ref ca), .val (.int (0 : Int32)), .val (.int (4 : Int32)), .val .null, .unset] [(.ref ca)]))
  refine own_up (fun tx kx => XS.iloadN X12.here hx rfl (hb hby d13_34) rfl kx) ?_
  show OwnOk p e below _ (T12.setTop (mkF m 35 #[.val (.ref a), .val (.ref ca), .val (.int (0 : Int32)), .val (.int (4 : Int32)), .val .null, .unset] [(.int (0 : Int32)), (.ref ca)]))
  refine own_up (fun tx kx => XS.iloadN X12.here hx rfl (hb hby d13_35) rfl kx) ?_
  show OwnOk p e below _ (T12.setTop (mkF m 36 #[.val (.ref a), .val (.ref ca), .val (.int (0 : Int32)), .val (.int (4 : Int32)), .val .null, .unset] [(.int (4 : Int32)), (.int (0 : Int32)), (.ref ca)]))
  refine own_callS X12 hx hZ (y := (⟨"java/lang/StringUTF16", "compress", "([CII)[B"⟩ : MethodName)) hown (wd_90 hw) (wd_91 hw) (wd_92 hw) (wd_93 hw) (by decide) (c_cmp4_4 l Z a0 hw ca kc x0 x1 x2 x3 h0 n0 OL V_ca c0 c1 c2 c3) e12 (argsL := [(.ref ca), (.int (0 : Int32)), (.int (4 : Int32))]) (rest := []) (by rw [hml]; rfl) (lenOf pd_6 rfl) rfl rfl (W := 0) rfl (hb hby d13_36) (by decide) (by decide) (by decide) (by decide) (fun T13 v13 L13 X13 hQ13 => ?_)
  obtain ⟨tt13, kt13, rfl, Nq13, Kq13, gt13, vt13⟩ := hQ13
  have N13 := Fr.app N0 Nq13
  have lt_a_tt13 : a < tt13 := Nat.lt_of_lt_of_le E_a.lt gt13
  have lt_ca_tt13 : ca < tt13 := Nat.lt_of_lt_of_le V_ca.lt gt13
  have n0_tt13 : n0 ≤ tt13 := Nat.le_trans (own_n0 OL) gt13
  have ws_tt13 : h0.size ≤ tt13 := Nat.le_trans KP0.1 gt13
  have OL13 := OL.keep Kq13 all0
  have KP13 := KP0.trans Kq13 all0
  show OwnOk p e below _ (T13.setTop (mkF m 39 #[.val (.ref a), .val (.ref ca), .val (.int (0 : Int32)), .val (.int (4 : Int32)), .val .null, .unset] [(.ref tt13)]))
  refine own_up (fun tx kx => XS.astore X13.here hx rfl (hb hby d13_39) rfl rfl (l' := #[.val (.ref a), .val (.ref ca), .val (.int (0 : Int32)), .val (.int (4 : Int32)), .val .null, .val (.ref tt13)]) rfl kx) ?_
  show OwnOk p e below _ (T13.setTop (mkF m 41 #[.val (.ref a), .val (.ref ca), .val (.int (0 : Int32)), .val (.int (4 : Int32)), .val .null, .val (.ref tt13)] []))
  refine own_up (fun tx kx => XS.aloadN X13.here hx rfl (hb hby d13_41) rfl rfl kx) ?_
  show OwnOk p e below _ (T13.setTop (mkF m 42 #[.val (.ref a), .val (.ref ca), .val (.int (0 : Int32)), .val (.int (4 : Int32)), .val .null, .val (.ref tt13)] [(.ref a)]))
  refine own_up (fun tx kx => XS.aload X13.here hx rfl (hb hby d13_42) rfl rfl kx) ?_
  show OwnOk p e below _ (T13.setTop (mkF m 44 #[.val (.ref a), .val (.ref ca), .val (.int (0 : Int32)), .val (.int (4 : Int32)), .val .null, .val (.ref tt13)] [(.ref tt13), (.ref a)]))
  refine own_up (fun tx kx => XS.iloadN X13.here hx rfl (hb hby d13_44) rfl kx) ?_
  show OwnOk p e below _ (T13.setTop (mkF m 45 #[.val (.ref a), .val (.ref ca), .val (.int (0 : Int32)), .val (.int (4 : Int32)), .val .null, .val (.ref tt13)] [(.int (4 : Int32)), (.ref tt13), (.ref a)]))
  refine own_callS X13 hx hZ (y := (⟨"java/lang/StringUTF16", "coderFromArrayLen", "([BI)B"⟩ : MethodName)) hown (wd_97 hw) (wd_98 hw) (wd_92 hw) (wd_99 hw) (by decide) (c_coder_4 l Z a0 hw tt13 kt13 x0 x1 x2 x3 T13.heap n0 OL13 vt13) rfl (argsL := [(.ref tt13), (.int (4 : Int32))]) (rest := [(.ref a)]) (by rw [hml]; rfl) (lenOf pd_7 rfl) rfl rfl (W := 1) rfl (hb hby d13_45) (by decide) (by decide) (by decide) (by decide) (fun T14 v14 L14 X14 hQ14 => ?_)
  obtain ⟨rfl, Nq14, hh14⟩ := hQ14
  have N14 := Fr.app N13 Nq14
  show OwnOk p e below _ (T14.setTop (mkF m 48 #[.val (.ref a), .val (.ref ca), .val (.int (0 : Int32)), .val (.int (4 : Int32)), .val .null, .val (.ref tt13)] [(.int (0 : Int32)), (.ref a)]))
  have F_coder_a_15 := (F_coder_a.keep Kq13 nin0)
  have E_a_16 := (E_a.keep Kq13)
  obtain ⟨T17, h17, X17, e17, W17, st17⟩ := putFN X14 hx hZ hown (wd_25 hw) Via.refl hh14 F_coder_a_15 E_a_16 (Or.inr ⟨(wd_6 hw), rfl, hnm⟩) (wd_3 hw) (ty := .byte) (v := (.int (0 : Int32))) (v' := (.int (0 : Int32))) (by decide) (by decide) (by decide) (g := (mkF m 48 #[.val (.ref a), .val (.ref ca), .val (.int (0 : Int32)), .val (.int (4 : Int32)), .val .null, .val (.ref tt13)] [(.int (0 : Int32)), (.ref a)])) rfl rfl (hb hby d13_48)
  have Fw17 := Fld.same W17 F_coder_a_15
  have N17 := Fr.snoc X17 N14 n0_a
  have OL18 := OL13.wr W17 n0_a
  have KP18 := KP13.wr W17 (Or.inl (List.mem_of_getElem? (i := 0) rfl))
  refine own_up st17 ?_
  show OwnOk p e below _ (T17.setTop (mkF m 51 #[.val (.ref a), .val (.ref ca), .val (.int (0 : Int32)), .val (.int (4 : Int32)), .val .null, .val (.ref tt13)] []))
  refine own_up (fun tx kx => XS.aloadN X17.here hx rfl (hb hby d13_51) rfl rfl kx) ?_
  show OwnOk p e below _ (T17.setTop (mkF m 52 #[.val (.ref a), .val (.ref ca), .val (.int (0 : Int32)), .val (.int (4 : Int32)), .val .null, .val (.ref tt13)] [(.ref a)]))
  refine own_up (fun tx kx => XS.aload X17.here hx rfl (hb hby d13_52) rfl rfl kx) ?_
  show OwnOk p e below _ (T17.setTop (mkF m 54 #[.val (.ref a), .val (.ref ca), .val (.int (0 : Int32)), .val (.int (4 : Int32)), .val .null, .val (.ref tt13)] [(.ref tt13), (.ref a)]))
  have F_value_a_19 := ((F_value_a.keep Kq13 nin0).other W17 (Or.inr (slot_ne (Or.inr (wd_5 hw)) (Or.inr (wd_6 hw)) (by decide) (t := (.array .byte)) (t' := .byte) (by decide) (by decide))))
  have E_a_20 := (E_a_16.wr W17)
  obtain ⟨T21, h21, X21, e21, W21, st21⟩ := putF X17 hx hZ hown (host := "") (Or.inl (wd_26 hw)) Via.refl e17 F_value_a_19 E_a_20 (Or.inr ⟨(wd_5 hw), rfl, hnm⟩) (wd_3 hw) (ty := (.array .byte)) (by decide) rfl rfl (g := (mkF m 54 #[.val (.ref a), .val (.ref ca), .val (.int (0 : Int32)), .val (.int (4 : Int32)), .val .null, .val (.ref tt13)] [(.ref tt13), (.ref a)])) rfl rfl (hb hby d13_54)
  have Fw21 := Fld.same W21 F_value_a_19
  have N21 := Fr.snoc X21 N17 n0_a
  have OL22 := OL18.wr W21 n0_a
  have KP22 := KP18.wr W21 (Or.inl (List.mem_of_getElem? (i := 0) rfl))
  refine own_up st21 ?_
  show OwnOk p e below _ (T21.setTop (mkF m 57 #[.val (.ref a), .val (.ref ca), .val (.int (0 : Int32)), .val (.int (4 : Int32)), .val .null, .val (.ref tt13)] []))
  have E_a_23 := (E_a_20.wr W21)
  have F_coder_a_24 := (Fw17.other W21 (Or.inr (slot_ne (Or.inr (wd_6 hw)) (Or.inr (wd_5 hw)) (by decide) (t := .byte) (t' := (.array .byte)) (by decide) (by decide))))
  have V_tt13_25 := ((vt13.other W17 (Nat.ne_of_gt lt_a_tt13)).other W21 (Nat.ne_of_gt lt_a_tt13))
  refine own_retV X21 hx (show meth.sig.returnType = none from hret) hlk (hb hby d13_57) e21 (Nat.le_of_ble_eq_true rfl) (Nat.le_of_ble_eq_true rfl) ?_
  exact ⟨rfl, N21, KP22, tt13, _, ws_tt13, E_a_23, Fw21, F_coder_a_24, V_tt13_25⟩
def Q_c_init1_4 (Z : State) (a : Addr) (x0 x1 x2 x3 : Int32) (h0 : Heap) (n0 : Nat) (v : Option Value) (h : Heap) (L : List Loc) : Prop := v = none ∧ Fr n0 L ∧ Keep h0 h [a] ∧ ∃ (u : Addr) (ku : ClassId), h0.size ≤ u ∧ (Exa Z h a "java/lang/String") ∧ (Fld Z h a "java/lang/String" "value" "[B" (.ref u)) ∧ (Fld Z h a "java/lang/String" "coder" "B" (.int (0 : Int32))) ∧ (Arv Z h u ku .byte (Int32.ofNat 4) (own_F 4 (fun j => [(nar .byte (x0.toInt8.toInt32)), (nar .byte (x1.toInt8.toInt32)), (nar .byte (x2.toInt8.toInt32)), (nar .byte (x3.toInt8.toInt32))].getD j 0)) (.int (0 : Int32)))
set_option maxRecDepth 65536 in
set_option maxHeartbeats 40000000 in
theorem c_init1_4 (l : Launch) (Z : State) (a0 : Array Value) (hw : ∀ d ∈ tables_1, d.before a0 Z = true) (a ca : Addr) (kc : ClassId) (x0 x1 x2 x3 : Int32) (cz : Int32) (h0 : Heap) (n0 : Nat) (OL : Old Z n0 h0) (SC : Sta Z Z.heap "java/lang/String" "COMPACT_STRINGS" "Z" (.int cz)) (hcz : ¬ cz = 0) (E_a : Exa Z h0 a "java/lang/String") (F_value_a : Fld Z h0 a "java/lang/String" "value" "[B" .null) (F_coder_a : Fld Z h0 a "java/lang/String" "coder" "B" (.int (0 : Int32))) (n0_a : n0 ≤ a) (V_ca : Arv Z h0 ca kc .char (4 : Int32) [(.int x0), (.int x1), (.int x2), (.int x3)] (.int (0 : Int32))) (ne_a_ca : a ≠ ca) (c0 : ¬ (255 : Int32) < x0) (c1 : ¬ (255 : Int32) < x1) (c2 : ¬ (255 : Int32) < x2) (c3 : ¬ (255 : Int32) < x3) :
    own_Met l Z (⟨"java/lang/String", "<init>", "([C)V"⟩ : MethodName) jdk_42_method_3_code 2 none ({ frames := 3, cells := 1, slots := 4, locals := 65 } : Room) #[(.ref a), (.ref ca)] h0 (Q_c_init1_4 Z a x0 x1 x2 x3 h0 n0) := by
  refine own_body (L0 := #[.val (.ref a), .val (.ref ca)]) (plainFor_of_name (by first | (simp [plainName, overriddenIn]; done) | decide +kernel)) (fun m => by first | (simp [entryFrame, mkF, argsToLocals, Value.category]; done) | rfl) ?_
  intro p e s m below meth c s₁ hx hby hml hZ hown hnm hret hlk X0 e0
  have N0 := Fr.nil n0
  have Z0 : n0 ≤ h0.size := OL.1 ▸ OL.2.1
  show OwnOk p e below _ (s₁.setTop (mkF m 0 #[.val (.ref a), .val (.ref ca)] []))
  have KP0 : Keep h0 h0 [a] := Keep.refl h0 _
  refine own_up (fun tx kx => XS.aloadN X0.here hx rfl (hb hby d12_0) rfl rfl kx) ?_
  show OwnOk p e below _ (s₁.setTop (mkF m 1 #[.val (.ref a), .val (.ref ca)] [(.ref a)]))
  refine own_up (fun tx kx => XS.aloadN X0.here hx rfl (hb hby d12_1) rfl rfl kx) ?_
  show OwnOk p e below _ (s₁.setTop (mkF m 2 #[.val (.ref a), .val (.ref ca)] [(.ref ca), (.ref a)]))
  refine own_up (fun tx kx => XS.iconst X0.here hx rfl (hb hby d12_2) kx) ?_
  show OwnOk p e below _ (s₁.setTop (mkF m 3 #[.val (.ref a), .val (.ref ca)] [(.int (0 : Int32)), (.ref ca), (.ref a)]))
  refine own_up (fun tx kx => XS.aloadN X0.here hx rfl (hb hby d12_3) rfl rfl kx) ?_
  show OwnOk p e below _ (s₁.setTop (mkF m 4 #[.val (.ref a), .val (.ref ca)] [(.ref ca), (.int (0 : Int32)), (.ref ca), (.ref a)]))
  obtain ⟨cl11, Ar11, qc11, Sz11, Nn11, Hs11, Gf11⟩ := id V_ca
  have hlen11 : cl11.slots.size.toInt32 = (4 : Int32) := len_of Sz11 Nn11
  refine own_up (fun tx kx => X0.arraylength hx (own_ar e0 Ar11.1) (State.isArrayOf_alike hZ.alike Ar11.2.1) (g := (mkF m 4 #[.val (.ref a), .val (.ref ca)] [(.ref ca), (.int (0 : Int32)), (.ref ca), (.ref a)])) rfl rfl (hb hby d12_4) _ kx) ?_
  rw [hlen11]
  show OwnOk p e below _ (s₁.setTop (mkF m 5 #[.val (.ref a), .val (.ref ca)] [(.int (4 : Int32)), (.int (0 : Int32)), (.ref ca), (.ref a)]))
  refine own_up (fun tx kx => XS.aconstNull X0.here hx rfl (hb hby d12_5) kx) ?_
  show OwnOk p e below _ (s₁.setTop (mkF m 6 #[.val (.ref a), .val (.ref ca)] [.null, (.int (4 : Int32)), (.int (0 : Int32)), (.ref ca), (.ref a)]))
  refine own_callC X0 hx hZ (y := (⟨"java/lang/String", "<init>", "([CIILjava/lang/Void;)V"⟩ : MethodName)) rfl hown (wd_84 hw) (wd_85 hw) (wd_2 hw) (wd_86 hw) (by decide) (c_init2_4 l Z a0 hw a ca kc x0 x1 x2 x3 cz h0 n0 OL SC hcz E_a F_value_a F_coder_a n0_a V_ca ne_a_ca c0 c1 c2 c3) e0 (argsL := [(.ref ca), (.int (0 : Int32)), (.int (4 : Int32)), .null]) (rest := []) (a := a) (by rw [hml]; rfl) (lenOf pd_8 rfl) rfl rfl (W := 0) rfl (hb hby d12_6) (by decide) (by decide) (by decide) (by decide) (fun T12 v12 L12 X12 hQ12 => ?_)
  obtain ⟨rfl, Nq12, Kq12, uu12, ku12, gu12, ea12, fv12, fc12, vu12⟩ := hQ12
  have N12 := Fr.app N0 Nq12
  have OL12 := OL.keep Kq12 (allS n0_a all0)
  have KP12 := KP0.trans Kq12 (allS (Or.inl (List.mem_of_getElem? (i := 0) rfl)) all0)
  show OwnOk p e below _ (T12.setTop (mkF m 9 #[.val (.ref a), .val (.ref ca)] []))
  refine own_retV X12 hx (show meth.sig.returnType = none from hret) hlk (hb hby d12_9) rfl (Nat.le_of_ble_eq_true rfl) (Nat.le_of_ble_eq_true rfl) ?_
  exact ⟨rfl, N12, KP12, uu12, ku12, gu12, ea12, fv12, fc12, vu12⟩
def Q_c_cmp5_5 (Z : State) (t : Addr) (kt : ClassId) (x0 x1 x2 x3 x4 : Int32) (h0 : Heap) (n0 : Nat) (v : Option Value) (h : Heap) (L : List Loc) : Prop := v = some (.int (5 : Int32)) ∧ Fr n0 L ∧ Keep h0 h [t] ∧ Arv Z h t kt .byte (5 : Int32) [(.int (nar .byte (x0.toInt8.toInt32))), (.int (nar .byte (x1.toInt8.toInt32))), (.int (nar .byte (x2.toInt8.toInt32))), (.int (nar .byte (x3.toInt8.toInt32))), (.int (nar .byte (x4.toInt8.toInt32)))] (.int (0 : Int32))
set_option maxRecDepth 65536 in
set_option maxHeartbeats 40000000 in
theorem c_cmp5_5 (l : Launch) (Z : State) (a0 : Array Value) (hw : ∀ d ∈ tables_1, d.before a0 Z = true) (ca t : Addr) (kc kt : ClassId) (x0 x1 x2 x3 x4 : Int32) (h0 : Heap) (n0 : Nat) (OL : Old Z n0 h0) (V_ca : Arv Z h0 ca kc .char (5 : Int32) [(.int x0), (.int x1), (.int x2), (.int x3), (.int x4)] (.int (0 : Int32))) (V_t : Arv Z h0 t kt .byte (5 : Int32) [(.int (0 : Int32)), (.int (0 : Int32)), (.int (0 : Int32)), (.int (0 : Int32)), (.int (0 : Int32))] (.int (0 : Int32))) (n0_t : n0 ≤ t) (ne_ca_t : ca ≠ t) (c0 : ¬ (255 : Int32) < x0) (c1 : ¬ (255 : Int32) < x1) (c2 : ¬ (255 : Int32) < x2) (c3 : ¬ (255 : Int32) < x3) (c4 : ¬ (255 : Int32) < x4) :
    own_Met l Z (⟨"java/lang/StringUTF16", "compress", "([CI[BII)I"⟩ : MethodName) jdk_52_method_21_code 7 (some .int) ({ frames := 0, cells := 0, slots := 0, locals := 0 } : Room) #[(.ref ca), (.int (0 : Int32)), (.ref t), (.int (0 : Int32)), (.int (5 : Int32))] h0 (Q_c_cmp5_5 Z t kt x0 x1 x2 x3 x4 h0 n0) := by
  refine own_body (L0 := #[.val (.ref ca), .val (.int (0 : Int32)), .val (.ref t), .val (.int (0 : Int32)), .val (.int (5 : Int32)), .unset, .unset]) (plainFor_of_name (by first | (simp [plainName, overriddenIn]; done) | decide +kernel)) (fun m => by first | (simp [entryFrame, mkF, argsToLocals, Value.category]; done) | rfl) ?_
  intro p e s m below meth c s₁ hx hby hml hZ hown hnm hret hlk X0 e0
  have N0 := Fr.nil n0
  have Z0 : n0 ≤ h0.size := OL.1 ▸ OL.2.1
  show OwnOk p e below _ (s₁.setTop (mkF m 0 #[.val (.ref ca), .val (.int (0 : Int32)), .val (.ref t), .val (.int (0 : Int32)), .val (.int (5 : Int32)), .unset, .unset] []))
  have KP0 : Keep h0 h0 [t] := Keep.refl h0 _
  refine own_up (fun tx kx => XS.iconst X0.here hx rfl (hb hby d16_0) kx) ?_
  show OwnOk p e below _ (s₁.setTop (mkF m 1 #[.val (.ref ca), .val (.int (0 : Int32)), .val (.ref t), .val (.int (0 : Int32)), .val (.int (5 : Int32)), .unset, .unset] [(.int (0 : Int32))]))
  refine own_up (fun tx kx => XS.istore X0.here hx rfl (hb hby d16_1) rfl (l' := #[.val (.ref ca), .val (.int (0 : Int32)), .val (.ref t), .val (.int (0 : Int32)), .val (.int (5 : Int32)), .val (.int (0 : Int32)), .unset]) rfl kx) ?_
  show OwnOk p e below _ (s₁.setTop (mkF m 3 #[.val (.ref ca), .val (.int (0 : Int32)), .val (.ref t), .val (.int (0 : Int32)), .val (.int (5 : Int32)), .val (.int (0 : Int32)), .unset] []))
  refine own_up (fun tx kx => XS.iload X0.here hx rfl (hb hby d16_3) rfl kx) ?_
  show OwnOk p e below _ (s₁.setTop (mkF m 5 #[.val (.ref ca), .val (.int (0 : Int32)), .val (.ref t), .val (.int (0 : Int32)), .val (.int (5 : Int32)), .val (.int (0 : Int32)), .unset] [(.int (0 : Int32))]))
  refine own_up (fun tx kx => XS.iload X0.here hx rfl (hb hby d16_5) rfl kx) ?_
  show OwnOk p e below _ (s₁.setTop (mkF m 7 #[.val (.ref ca), .val (.int (0 : Int32)), .val (.ref t), .val (.int (0 : Int32)), .val (.int (5 : Int32)), .val (.int (0 : Int32)), .unset] [(.int (5 : Int32)), (.int (0 : Int32))]))
  refine own_up (fun tx kx => XS.icmpNo X0.here hx rfl (hb hby d16_7) rfl (tlt (by decide)).2.1 kx) ?_
  show OwnOk p e below _ (s₁.setTop (mkF m 10 #[.val (.ref ca), .val (.int (0 : Int32)), .val (.ref t), .val (.int (0 : Int32)), .val (.int (5 : Int32)), .val (.int (0 : Int32)), .unset] []))
  refine own_up (fun tx kx => XS.aloadN X0.here hx rfl (hb hby d16_10) rfl rfl kx) ?_
  show OwnOk p e below _ (s₁.setTop (mkF m 11 #[.val (.ref ca), .val (.int (0 : Int32)), .val (.ref t), .val (.int (0 : Int32)), .val (.int (5 : Int32)), .val (.int (0 : Int32)), .unset] [(.ref ca)]))
  refine own_up (fun tx kx => XS.iloadN X0.here hx rfl (hb hby d16_11) rfl kx) ?_
  show OwnOk p e below _ (s₁.setTop (mkF m 12 #[.val (.ref ca), .val (.int (0 : Int32)), .val (.ref t), .val (.int (0 : Int32)), .val (.int (5 : Int32)), .val (.int (0 : Int32)), .unset] [(.int (0 : Int32)), (.ref ca)]))
  obtain ⟨cl11, Ar11, qc11, Sz11, Nn11, Hs11, Gf11⟩ := id V_ca
  have hin11 : ¬ ((0 : Int32) < 0 ∨ cl11.slots.size ≤ ((0 : Int32)).toNatClampNeg) := inb_of Sz11 ⟨by decide, by decide⟩
  have hat11 : cl11.slots[((0 : Int32)).toNatClampNeg]? = some (.int x0) := Hs11.at hin11 rfl
  refine own_up (fun tx kx => X0.caload hx (j := (0 : Int32)) (v := (.int x0)) (own_ar e0 Ar11.1) (State.isArrayOf_alike hZ.alike Ar11.2.1) Ar11.2.2 hin11 hat11 (g := (mkF m 12 #[.val (.ref ca), .val (.int (0 : Int32)), .val (.ref t), .val (.int (0 : Int32)), .val (.int (5 : Int32)), .val (.int (0 : Int32)), .unset] [(.int (0 : Int32)), (.ref ca)])) rfl rfl (hb hby d16_12) _ kx) ?_
  show OwnOk p e below _ (s₁.setTop (mkF m 13 #[.val (.ref ca), .val (.int (0 : Int32)), .val (.ref t), .val (.int (0 : Int32)), .val (.int (5 : Int32)), .val (.int (0 : Int32)), .unset] [(.int x0)]))
  refine own_up (fun tx kx => XS.istore X0.here hx rfl (hb hby d16_13) rfl (l' := #[.val (.ref ca), .val (.int (0 : Int32)), .val (.ref t), .val (.int (0 : Int32)), .val (.int (5 : Int32)), .val (.int (0 : Int32)), .val (.int x0)]) rfl kx) ?_
  show OwnOk p e below _ (s₁.setTop (mkF m 15 #[.val (.ref ca), .val (.int (0 : Int32)), .val (.ref t), .val (.int (0 : Int32)), .val (.int (5 : Int32)), .val (.int (0 : Int32)), .val (.int x0)] []))
  refine own_up (fun tx kx => XS.iload X0.here hx rfl (hb hby d16_15) rfl kx) ?_
  show OwnOk p e below _ (s₁.setTop (mkF m 17 #[.val (.ref ca), .val (.int (0 : Int32)), .val (.ref t), .val (.int (0 : Int32)), .val (.int (5 : Int32)), .val (.int (0 : Int32)), .val (.int x0)] [(.int x0)]))
  refine own_up (fun tx kx => XS.sipush X0.here hx rfl (hb hby d16_17) kx) ?_
  show OwnOk p e below _ (s₁.setTop (mkF m 20 #[.val (.ref ca), .val (.int (0 : Int32)), .val (.ref t), .val (.int (0 : Int32)), .val (.int (5 : Int32)), .val (.int (0 : Int32)), .val (.int x0)] [(.int (255 : Int32)), (.int x0)]))
  refine own_up (fun tx kx => XS.icmpYes X0.here hx rfl (pc0 := 20) (pc' := 26) rfl (hb hby d16_20) rfl (flt c0).2.2.2 (by decide) (by decide) kx) ?_
  show OwnOk p e below _ (s₁.setTop (mkF m 26 #[.val (.ref ca), .val (.int (0 : Int32)), .val (.ref t), .val (.int (0 : Int32)), .val (.int (5 : Int32)), .val (.int (0 : Int32)), .val (.int x0)] []))
  refine own_up (fun tx kx => XS.aloadN X0.here hx rfl (hb hby d16_26) rfl rfl kx) ?_
  show OwnOk p e below _ (s₁.setTop (mkF m 27 #[.val (.ref ca), .val (.int (0 : Int32)), .val (.ref t), .val (.int (0 : Int32)), .val (.int (5 : Int32)), .val (.int (0 : Int32)), .val (.int x0)] [(.ref t)]))
  refine own_up (fun tx kx => XS.iloadN X0.here hx rfl (hb hby d16_27) rfl kx) ?_
  show OwnOk p e below _ (s₁.setTop (mkF m 28 #[.val (.ref ca), .val (.int (0 : Int32)), .val (.ref t), .val (.int (0 : Int32)), .val (.int (5 : Int32)), .val (.int (0 : Int32)), .val (.int x0)] [(.int (0 : Int32)), (.ref t)]))
  refine own_up (fun tx kx => XS.iload X0.here hx rfl (hb hby d16_28) rfl kx) ?_
  show OwnOk p e below _ (s₁.setTop (mkF m 30 #[.val (.ref ca), .val (.int (0 : Int32)), .val (.ref t), .val (.int (0 : Int32)), .val (.int (5 : Int32)), .val (.int (0 : Int32)), .val (.int x0)] [(.int x0), (.int (0 : Int32)), (.ref t)]))
  refine own_up (fun tx kx => XS.i2b X0.here hx rfl (hb hby d16_30) rfl kx) ?_
  show OwnOk p e below _ (s₁.setTop (mkF m 31 #[.val (.ref ca), .val (.int (0 : Int32)), .val (.ref t), .val (.int (0 : Int32)), .val (.int (5 : Int32)), .val (.int (0 : Int32)), .val (.int x0)] [(.int (x0.toInt8.toInt32)), (.int (0 : Int32)), (.ref t)]))
  obtain ⟨cl12, Ar12, qc12, Sz12, Nn12, Hs12, Gf12⟩ := id V_t
  have hin12 : ¬ ((0 : Int32) < 0 ∨ cl12.slots.size ≤ ((0 : Int32)).toNatClampNeg) := inb_of Sz12 ⟨by decide, by decide⟩
  obtain ⟨T13, h13, X13, e13, W13, st13⟩ := stB X0 hx hZ e0 Ar12 (j := (0 : Int32)) hin12 (g := (mkF m 31 #[.val (.ref ca), .val (.int (0 : Int32)), .val (.ref t), .val (.int (0 : Int32)), .val (.int (5 : Int32)), .val (.int (0 : Int32)), .val (.int x0)] [(.int (x0.toInt8.toInt32)), (.int (0 : Int32)), (.ref t)])) rfl rfl (hb hby d16_31)
  have V_t_13 : Arv Z h13 t kt .byte (5 : Int32) [(.int (nar .byte (x0.toInt8.toInt32))), (.int (0 : Int32)), (.int (0 : Int32)), (.int (0 : Int32)), (.int (0 : Int32))] (.int (0 : Int32)) := Arv.set Ar12 qc12 Sz12 Nn12 Hs12 Gf12 (fits_nar_byte _) W13 0 rfl (Nat.le_of_ble_eq_true rfl)
  have N13 := Fr.snoc X13 N0 n0_t
  have OL14 := OL.wr W13 n0_t
  have KP14 := KP0.wr W13 (Or.inl (List.mem_of_getElem? (i := 0) rfl))
  refine own_up st13 ?_
  show OwnOk p e below _ (T13.setTop (mkF m 32 #[.val (.ref ca), .val (.int (0 : Int32)), .val (.ref t), .val (.int (0 : Int32)), .val (.int (5 : Int32)), .val (.int (0 : Int32)), .val (.int x0)] []))
  have hi32_15 : ((0 : Int32) + (1 : Int32)) = (1 : Int32) := by decide
  refine own_up (fun tx kx => XS.iinc X13.here hx rfl (hb hby d16_32) rfl (l' := #[.val (.ref ca), .val (.int ((0 : Int32) + (1 : Int32))), .val (.ref t), .val (.int (0 : Int32)), .val (.int (5 : Int32)), .val (.int (0 : Int32)), .val (.int x0)]) rfl kx) ?_
  rw [hi32_15]
  show OwnOk p e below _ (T13.setTop (mkF m 35 #[.val (.ref ca), .val (.int (1 : Int32)), .val (.ref t), .val (.int (0 : Int32)), .val (.int (5 : Int32)), .val (.int (0 : Int32)), .val (.int x0)] []))
  have hi35_16 : ((0 : Int32) + (1 : Int32)) = (1 : Int32) := by decide
  refine own_up (fun tx kx => XS.iinc X13.here hx rfl (hb hby d16_35) rfl (l' := #[.val (.ref ca), .val (.int (1 : Int32)), .val (.ref t), .val (.int ((0 : Int32) + (1 : Int32))), .val (.int (5 : Int32)), .val (.int (0 : Int32)), .val (.int x0)]) rfl kx) ?_
  rw [hi35_16]
  show OwnOk p e below _ (T13.setTop (mkF m 38 #[.val (.ref ca), .val (.int (1 : Int32)), .val (.ref t), .val (.int (1 : Int32)), .val (.int (5 : Int32)), .val (.int (0 : Int32)), .val (.int x0)] []))
  have hi38_17 : ((0 : Int32) + (1 : Int32)) = (1 : Int32) := by decide
  refine own_up (fun tx kx => XS.iinc X13.here hx rfl (hb hby d16_38) rfl (l' := #[.val (.ref ca), .val (.int (1 : Int32)), .val (.ref t), .val (.int (1 : Int32)), .val (.int (5 : Int32)), .val (.int ((0 : Int32) + (1 : Int32))), .val (.int x0)]) rfl kx) ?_
  rw [hi38_17]
  show OwnOk p e below _ (T13.setTop (mkF m 41 #[.val (.ref ca), .val (.int (1 : Int32)), .val (.ref t), .val (.int (1 : Int32)), .val (.int (5 : Int32)), .val (.int (1 : Int32)), .val (.int x0)] []))
  refine own_up (fun tx kx => XS.goto X13.here hx rfl (pc0 := 41) (pc' := 3) rfl (hb hby d16_41) (by decide) (by decide) kx) ?_
  show OwnOk p e below _ (T13.setTop (mkF m 3 #[.val (.ref ca), .val (.int (1 : Int32)), .val (.ref t), .val (.int (1 : Int32)), .val (.int (5 : Int32)), .val (.int (1 : Int32)), .val (.int x0)] []))
  refine own_up (fun tx kx => XS.iload X13.here hx rfl (hb hby d16_3) rfl kx) ?_
  show OwnOk p e below _ (T13.setTop (mkF m 5 #[.val (.ref ca), .val (.int (1 : Int32)), .val (.ref t), .val (.int (1 : Int32)), .val (.int (5 : Int32)), .val (.int (1 : Int32)), .val (.int x0)] [(.int (1 : Int32))]))
  refine own_up (fun tx kx => XS.iload X13.here hx rfl (hb hby d16_5) rfl kx) ?_
  show OwnOk p e below _ (T13.setTop (mkF m 7 #[.val (.ref ca), .val (.int (1 : Int32)), .val (.ref t), .val (.int (1 : Int32)), .val (.int (5 : Int32)), .val (.int (1 : Int32)), .val (.int x0)] [(.int (5 : Int32)), (.int (1 : Int32))]))
  refine own_up (fun tx kx => XS.icmpNo X13.here hx rfl (hb hby d16_7) rfl (tlt (by decide)).2.1 kx) ?_
  show OwnOk p e below _ (T13.setTop (mkF m 10 #[.val (.ref ca), .val (.int (1 : Int32)), .val (.ref t), .val (.int (1 : Int32)), .val (.int (5 : Int32)), .val (.int (1 : Int32)), .val (.int x0)] []))
  refine own_up (fun tx kx => XS.aloadN X13.here hx rfl (hb hby d16_10) rfl rfl kx) ?_
  show OwnOk p e below _ (T13.setTop (mkF m 11 #[.val (.ref ca), .val (.int (1 : Int32)), .val (.ref t), .val (.int (1 : Int32)), .val (.int (5 : Int32)), .val (.int (1 : Int32)), .val (.int x0)] [(.ref ca)]))
  refine own_up (fun tx kx => XS.iloadN X13.here hx rfl (hb hby d16_11) rfl kx) ?_
  show OwnOk p e below _ (T13.setTop (mkF m 12 #[.val (.ref ca), .val (.int (1 : Int32)), .val (.ref t), .val (.int (1 : Int32)), .val (.int (5 : Int32)), .val (.int (1 : Int32)), .val (.int x0)] [(.int (1 : Int32)), (.ref ca)]))
  have V_ca_18 := (V_ca.other W13 ne_ca_t)
  obtain ⟨cl19, Ar19, qc19, Sz19, Nn19, Hs19, Gf19⟩ := id V_ca_18
  have hin19 : ¬ ((1 : Int32) < 0 ∨ cl19.slots.size ≤ ((1 : Int32)).toNatClampNeg) := inb_of Sz19 ⟨by decide, by decide⟩
  have hat19 : cl19.slots[((1 : Int32)).toNatClampNeg]? = some (.int x1) := Hs19.at hin19 rfl
  refine own_up (fun tx kx => X13.caload hx (j := (1 : Int32)) (v := (.int x1)) (own_ar e13 Ar19.1) (State.isArrayOf_alike hZ.alike Ar19.2.1) Ar19.2.2 hin19 hat19 (g := (mkF m 12 #[.val (.ref ca), .val (.int (1 : Int32)), .val (.ref t), .val (.int (1 : Int32)), .val (.int (5 : Int32)), .val (.int (1 : Int32)), .val (.int x0)] [(.int (1 : Int32)), (.ref ca)])) rfl rfl (hb hby d16_12) _ kx) ?_
  show OwnOk p e below _ (T13.setTop (mkF m 13 #[.val (.ref ca), .val (.int (1 : Int32)), .val (.ref t), .val (.int (1 : Int32)), .val (.int (5 : Int32)), .val (.int (1 : Int32)), .val (.int x0)] [(.int x1)]))
  refine own_up (fun tx kx => XS.istore X13.here hx rfl (hb hby d16_13) rfl (l' := #[.val (.ref ca), .val (.int (1 : Int32)), .val (.ref t), .val (.int (1 : Int32)), .val (.int (5 : Int32)), .val (.int (1 : Int32)), .val (.int x1)]) rfl kx) ?_
  show OwnOk p e below _ (T13.setTop (mkF m 15 #[.val (.ref ca), .val (.int (1 : Int32)), .val (.ref t), .val (.int (1 : Int32)), .val (.int (5 : Int32)), .val (.int (1 : Int32)), .val (.int x1)] []))
  refine own_up (fun tx kx => XS.iload X13.here hx rfl (hb hby d16_15) rfl kx) ?_
  show OwnOk p e below _ (T13.setTop (mkF m 17 #[.val (.ref ca), .val (.int (1 : Int32)), .val (.ref t), .val (.int (1 : Int32)), .val (.int (5 : Int32)), .val (.int (1 : Int32)), .val (.int x1)] [(.int x1)]))
  refine own_up (fun tx kx => XS.sipush X13.here hx rfl (hb hby d16_17) kx) ?_
  show OwnOk p e below _ (T13.setTop (mkF m 20 #[.val (.ref ca), .val (.int (1 : Int32)), .val (.ref t), .val (.int (1 : Int32)), .val (.int (5 : Int32)), .val (.int (1 : Int32)), .val (.int x1)] [(.int (255 : Int32)), (.int x1)]))
  refine own_up (fun tx kx => XS.icmpYes X13.here hx rfl (pc0 := 20) (pc' := 26) rfl (hb hby d16_20) rfl (flt c1).2.2.2 (by decide) (by decide) kx) ?_
  show OwnOk p e below _ (T13.setTop (mkF m 26 #[.val (.ref ca), .val (.int (1 : Int32)), .val (.ref t), .val (.int (1 : Int32)), .val (.int (5 : Int32)), .val (.int (1 : Int32)), .val (.int x1)] []))
  refine own_up (fun tx kx => XS.aloadN X13.here hx rfl (hb hby d16_26) rfl rfl kx) ?_
  show OwnOk p e below _ (T13.setTop (mkF m 27 #[.val (.ref ca), .val (.int (1 : Int32)), .val (.ref t), .val (.int (1 : Int32)), .val (.int (5 : Int32)), .val (.int (1 : Int32)), .val (.int x1)] [(.ref t)]))
  refine own_up (fun tx kx => XS.iloadN X13.here hx rfl (hb hby d16_27) rfl kx) ?_
  show OwnOk p e below _ (T13.setTop (mkF m 28 #[.val (.ref ca), .val (.int (1 : Int32)), .val (.ref t), .val (.int (1 : Int32)), .val (.int (5 : Int32)), .val (.int (1 : Int32)), .val (.int x1)] [(.int (1 : Int32)), (.ref t)]))
  refine own_up (fun tx kx => XS.iload X13.here hx rfl (hb hby d16_28) rfl kx) ?_
  show OwnOk p e below _ (T13.setTop (mkF m 30 #[.val (.ref ca), .val (.int (1 : Int32)), .val (.ref t), .val (.int (1 : Int32)), .val (.int (5 : Int32)), .val (.int (1 : Int32)), .val (.int x1)] [(.int x1), (.int (1 : Int32)), (.ref t)]))
  refine own_up (fun tx kx => XS.i2b X13.here hx rfl (hb hby d16_30) rfl kx) ?_
  show OwnOk p e below _ (T13.setTop (mkF m 31 #[.val (.ref ca), .val (.int (1 : Int32)), .val (.ref t), .val (.int (1 : Int32)), .val (.int (5 : Int32)), .val (.int (1 : Int32)), .val (.int x1)] [(.int (x1.toInt8.toInt32)), (.int (1 : Int32)), (.ref t)]))
  obtain ⟨cl20, Ar20, qc20, Sz20, Nn20, Hs20, Gf20⟩ := id V_t_13
  have hin20 : ¬ ((1 : Int32) < 0 ∨ cl20.slots.size ≤ ((1 : Int32)).toNatClampNeg) := inb_of Sz20 ⟨by decide, by decide⟩
  obtain ⟨T21, h21, X21, e21, W21, st21⟩ := stB X13 hx hZ e13 Ar20 (j := (1 : Int32)) hin20 (g := (mkF m 31 #[.val (.ref ca), .val (.int (1 : Int32)), .val (.ref t), .val (.int (1 : Int32)), .val (.int (5 : Int32)), .val (.int (1 : Int32)), .val (.int x1)] [(.int (x1.toInt8.toInt32)), (.int (1 : Int32)), (.ref t)])) rfl rfl (hb hby d16_31)
  have V_t_21 : Arv Z h21 t kt .byte (5 : Int32) [(.int (nar .byte (x0.toInt8.toInt32))), (.int (nar .byte (x1.toInt8.toInt32))), (.int (0 : Int32)), (.int (0 : Int32)), (.int (0 : Int32))] (.int (0 : Int32)) := Arv.set Ar20 qc20 Sz20 Nn20 Hs20 Gf20 (fits_nar_byte _) W21 1 rfl (Nat.le_of_ble_eq_true rfl)
  have N21 := Fr.snoc X21 N13 n0_t
  have OL22 := OL14.wr W21 n0_t
  have KP22 := KP14.wr W21 (Or.inl (List.mem_of_getElem? (i := 0) rfl))
  refine own_up st21 ?_
  show OwnOk p e below _ (T21.setTop (mkF m 32 #[.val (.ref ca), .val (.int (1 : Int32)), .val (.ref t), .val (.int (1 : Int32)), .val (.int (5 : Int32)), .val (.int (1 : Int32)), .val (.int x1)] []))
  have hi32_23 : ((1 : Int32) + (1 : Int32)) = (2 : Int32) := by decide
  refine own_up (fun tx kx => XS.iinc X21.here hx rfl (hb hby d16_32) rfl (l' := #[.val (.ref ca), .val (.int ((1 : Int32) + (1 : Int32))), .val (.ref t), .val (.int (1 : Int32)), .val (.int (5 : Int32)), .val (.int (1 : Int32)), .val (.int x1)]) rfl kx) ?_
  rw [hi32_23]
  show OwnOk p e below _ (T21.setTop (mkF m 35 #[.val (.ref ca), .val (.int (2 : Int32)), .val (.ref t), .val (.int (1 : Int32)), .val (.int (5 : Int32)), .val (.int (1 : Int32)), .val (.int x1)] []))
  have hi35_24 : ((1 : Int32) + (1 : Int32)) = (2 : Int32) := by decide
  refine own_up (fun tx kx => XS.iinc X21.here hx rfl (hb hby d16_35) rfl (l' := #[.val (.ref ca), .val (.int (2 : Int32)), .val (.ref t), .val (.int ((1 : Int32) + (1 : Int32))), .val (.int (5 : Int32)), .val (.int (1 : Int32)), .val (.int x1)]) rfl kx) ?_
  rw [hi35_24]
  show OwnOk p e below _ (T21.setTop (mkF m 38 #[.val (.ref ca), .val (.int (2 : Int32)), .val (.ref t), .val (.int (2 : Int32)), .val (.int (5 : Int32)), .val (.int (1 : Int32)), .val (.int x1)] []))
  have hi38_25 : ((1 : Int32) + (1 : Int32)) = (2 : Int32) := by decide
  refine own_up (fun tx kx => XS.iinc X21.here hx rfl (hb hby d16_38) rfl (l' := #[.val (.ref ca), .val (.int (2 : Int32)), .val (.ref t), .val (.int (2 : Int32)), .val (.int (5 : Int32)), .val (.int ((1 : Int32) + (1 : Int32))), .val (.int x1)]) rfl kx) ?_
  rw [hi38_25]
  show OwnOk p e below _ (T21.setTop (mkF m 41 #[.val (.ref ca), .val (.int (2 : Int32)), .val (.ref t), .val (.int (2 : Int32)), .val (.int (5 : Int32)), .val (.int (2 : Int32)), .val (.int x1)] []))
  refine own_up (fun tx kx => XS.goto X21.here hx rfl (pc0 := 41) (pc' := 3) rfl (hb hby d16_41) (by decide) (by decide) kx) ?_
  show OwnOk p e below _ (T21.setTop (mkF m 3 #[.val (.ref ca), .val (.int (2 : Int32)), .val (.ref t), .val (.int (2 : Int32)), .val (.int (5 : Int32)), .val (.int (2 : Int32)), .val (.int x1)] []))
  refine own_up (fun tx kx => XS.iload X21.here hx rfl (hb hby d16_3) rfl kx) ?_
  show OwnOk p e below _ (T21.setTop (mkF m 5 #[.val (.ref ca), .val (.int (2 : Int32)), .val (.ref t), .val (.int (2 : Int32)), .val (.int (5 : Int32)), .val (.int (2 : Int32)), .val (.int x1)] [(.int (2 : Int32))]))
  refine own_up (fun tx kx => XS.iload X21.here hx rfl (hb hby d16_5) rfl kx) ?_
  show OwnOk p e below _ (T21.setTop (mkF m 7 #[.val (.ref ca), .val (.int (2 : Int32)), .val (.ref t), .val (.int (2 : Int32)), .val (.int (5 : Int32)), .val (.int (2 : Int32)), .val (.int x1)] [(.int (5 : Int32)), (.int (2 : Int32))]))
  refine own_up (fun tx kx => XS.icmpNo X21.here hx rfl (hb hby d16_7) rfl (tlt (by decide)).2.1 kx) ?_
  show OwnOk p e below _ (T21.setTop (mkF m 10 #[.val (.ref ca), .val (.int (2 : Int32)), .val (.ref t), .val (.int (2 : Int32)), .val (.int (5 : Int32)), .val (.int (2 : Int32)), .val (.int x1)] []))
  refine own_up (fun tx kx => XS.aloadN X21.here hx rfl (hb hby d16_10) rfl rfl kx) ?_
  show OwnOk p e below _ (T21.setTop (mkF m 11 #[.val (.ref ca), .val (.int (2 : Int32)), .val (.ref t), .val (.int (2 : Int32)), .val (.int (5 : Int32)), .val (.int (2 : Int32)), .val (.int x1)] [(.ref ca)]))
  refine own_up (fun tx kx => XS.iloadN X21.here hx rfl (hb hby d16_11) rfl kx) ?_
  show OwnOk p e below _ (T21.setTop (mkF m 12 #[.val (.ref ca), .val (.int (2 : Int32)), .val (.ref t), .val (.int (2 : Int32)), .val (.int (5 : Int32)), .val (.int (2 : Int32)), .val (.int x1)] [(.int (2 : Int32)), (.ref ca)]))
  have V_ca_26 := (V_ca_18.other W21 ne_ca_t)
  obtain ⟨cl27, Ar27, qc27, Sz27, Nn27, Hs27, Gf27⟩ := id V_ca_26
  have hin27 : ¬ ((2 : Int32) < 0 ∨ cl27.slots.size ≤ ((2 : Int32)).toNatClampNeg) := inb_of Sz27 ⟨by decide, by decide⟩
  have hat27 : cl27.slots[((2 : Int32)).toNatClampNeg]? = some (.int x2) := Hs27.at hin27 rfl
  refine own_up (fun tx kx => X21.caload hx (j := (2 : Int32)) (v := (.int x2)) (own_ar e21 Ar27.1) (State.isArrayOf_alike hZ.alike Ar27.2.1) Ar27.2.2 hin27 hat27 (g := (mkF m 12 #[.val (.ref ca), .val (.int (2 : Int32)), .val (.ref t), .val (.int (2 : Int32)), .val (.int (5 : Int32)), .val (.int (2 : Int32)), .val (.int x1)] [(.int (2 : Int32)), (.ref ca)])) rfl rfl (hb hby d16_12) _ kx) ?_
  show OwnOk p e below _ (T21.setTop (mkF m 13 #[.val (.ref ca), .val (.int (2 : Int32)), .val (.ref t), .val (.int (2 : Int32)), .val (.int (5 : Int32)), .val (.int (2 : Int32)), .val (.int x1)] [(.int x2)]))
  refine own_up (fun tx kx => XS.istore X21.here hx rfl (hb hby d16_13) rfl (l' := #[.val (.ref ca), .val (.int (2 : Int32)), .val (.ref t), .val (.int (2 : Int32)), .val (.int (5 : Int32)), .val (.int (2 : Int32)), .val (.int x2)]) rfl kx) ?_
  show OwnOk p e below _ (T21.setTop (mkF m 15 #[.val (.ref ca), .val (.int (2 : Int32)), .val (.ref t), .val (.int (2 : Int32)), .val (.int (5 : Int32)), .val (.int (2 : Int32)), .val (.int x2)] []))
  refine own_up (fun tx kx => XS.iload X21.here hx rfl (hb hby d16_15) rfl kx) ?_
  show OwnOk p e below _ (T21.setTop (mkF m 17 #[.val (.ref ca), .val (.int (2 : Int32)), .val (.ref t), .val (.int (2 : Int32)), .val (.int (5 : Int32)), .val (.int (2 : Int32)), .val (.int x2)] [(.int x2)]))
  refine own_up (fun tx kx => XS.sipush X21.here hx rfl (hb hby d16_17) kx) ?_
  show OwnOk p e below _ (T21.setTop (mkF m 20 #[.val (.ref ca), .val (.int (2 : Int32)), .val (.ref t), .val (.int (2 : Int32)), .val (.int (5 : Int32)), .val (.int (2 : Int32)), .val (.int x2)] [(.int (255 : Int32)), (.int x2)]))
  refine own_up (fun tx kx => XS.icmpYes X21.here hx rfl (pc0 := 20) (pc' := 26) rfl (hb hby d16_20) rfl (flt c2).2.2.2 (by decide) (by decide) kx) ?_
  show OwnOk p e below _ (T21.setTop (mkF m 26 #[.val (.ref ca), .val (.int (2 : Int32)), .val (.ref t), .val (.int (2 : Int32)), .val (.int (5 : Int32)), .val (.int (2 : Int32)), .val (.int x2)] []))
  refine own_up (fun tx kx => XS.aloadN X21.here hx rfl (hb hby d16_26) rfl rfl kx) ?_
  show OwnOk p e below _ (T21.setTop (mkF m 27 #[.val (.ref ca), .val (.int (2 : Int32)), .val (.ref t), .val (.int (2 : Int32)), .val (.int (5 : Int32)), .val (.int (2 : Int32)), .val (.int x2)] [(.ref t)]))
  refine own_up (fun tx kx => XS.iloadN X21.here hx rfl (hb hby d16_27) rfl kx) ?_
  show OwnOk p e below _ (T21.setTop (mkF m 28 #[.val (.ref ca), .val (.int (2 : Int32)), .val (.ref t), .val (.int (2 : Int32)), .val (.int (5 : Int32)), .val (.int (2 : Int32)), .val (.int x2)] [(.int (2 : Int32)), (.ref t)]))
  refine own_up (fun tx kx => XS.iload X21.here hx rfl (hb hby d16_28) rfl kx) ?_
  show OwnOk p e below _ (T21.setTop (mkF m 30 #[.val (.ref ca), .val (.int (2 : Int32)), .val (.ref t), .val (.int (2 : Int32)), .val (.int (5 : Int32)), .val (.int (2 : Int32)), .val (.int x2)] [(.int x2), (.int (2 : Int32)), (.ref t)]))
  refine own_up (fun tx kx => XS.i2b X21.here hx rfl (hb hby d16_30) rfl kx) ?_
  show OwnOk p e below _ (T21.setTop (mkF m 31 #[.val (.ref ca), .val (.int (2 : Int32)), .val (.ref t), .val (.int (2 : Int32)), .val (.int (5 : Int32)), .val (.int (2 : Int32)), .val (.int x2)] [(.int (x2.toInt8.toInt32)), (.int (2 : Int32)), (.ref t)]))
  obtain ⟨cl28, Ar28, qc28, Sz28, Nn28, Hs28, Gf28⟩ := id V_t_21
  have hin28 : ¬ ((2 : Int32) < 0 ∨ cl28.slots.size ≤ ((2 : Int32)).toNatClampNeg) := inb_of Sz28 ⟨by decide, by decide⟩
  obtain ⟨T29, h29, X29, e29, W29, st29⟩ := stB X21 hx hZ e21 Ar28 (j := (2 : Int32)) hin28 (g := (mkF m 31 #[.val (.ref ca), .val (.int (2 : Int32)), .val (.ref t), .val (.int (2 : Int32)), .val (.int (5 : Int32)), .val (.int (2 : Int32)), .val (.int x2)] [(.int (x2.toInt8.toInt32)), (.int (2 : Int32)), (.ref t)])) rfl rfl (hb hby d16_31)
  have V_t_29 : Arv Z h29 t kt .byte (5 : Int32) [(.int (nar .byte (x0.toInt8.toInt32))), (.int (nar .byte (x1.toInt8.toInt32))), (.int (nar .byte (x2.toInt8.toInt32))), (.int (0 : Int32)), (.int (0 : Int32))] (.int (0 : Int32)) := Arv.set Ar28 qc28 Sz28 Nn28 Hs28 Gf28 (fits_nar_byte _) W29 2 rfl (Nat.le_of_ble_eq_true rfl)
  have N29 := Fr.snoc X29 N21 n0_t
  have OL30 := OL22.wr W29 n0_t
  have KP30 := KP22.wr W29 (Or.inl (List.mem_of_getElem? (i := 0) rfl))
  refine own_up st29 ?_
  show OwnOk p e below _ (T29.setTop (mkF m 32 #[.val (.ref ca), .val (.int (2 : Int32)), .val (.ref t), .val (.int (2 : Int32)), .val (.int (5 : Int32)), .val (.int (2 : Int32)), .val (.int x2)] []))
  have hi32_31 : ((2 : Int32) + (1 : Int32)) = (3 : Int32) := by decide
  refine own_up (fun tx kx => XS.iinc X29.here hx rfl (hb hby d16_32) rfl (l' := #[.val (.ref ca), .val (.int ((2 : Int32) + (1 : Int32))), .val (.ref t), .val (.int (2 : Int32)), .val (.int (5 : Int32)), .val (.int (2 : Int32)), .val (.int x2)]) rfl kx) ?_
  rw [hi32_31]
  show OwnOk p e below _ (T29.setTop (mkF m 35 #[.val (.ref ca), .val (.int (3 : Int32)), .val (.ref t), .val (.int (2 : Int32)), .val (.int (5 : Int32)), .val (.int (2 : Int32)), .val (.int x2)] []))
  have hi35_32 : ((2 : Int32) + (1 : Int32)) = (3 : Int32) := by decide
  refine own_up (fun tx kx => XS.iinc X29.here hx rfl (hb hby d16_35) rfl (l' := #[.val (.ref ca), .val (.int (3 : Int32)), .val (.ref t), .val (.int ((2 : Int32) + (1 : Int32))), .val (.int (5 : Int32)), .val (.int (2 : Int32)), .val (.int x2)]) rfl kx) ?_
  rw [hi35_32]
  show OwnOk p e below _ (T29.setTop (mkF m 38 #[.val (.ref ca), .val (.int (3 : Int32)), .val (.ref t), .val (.int (3 : Int32)), .val (.int (5 : Int32)), .val (.int (2 : Int32)), .val (.int x2)] []))
  have hi38_33 : ((2 : Int32) + (1 : Int32)) = (3 : Int32) := by decide
  refine own_up (fun tx kx => XS.iinc X29.here hx rfl (hb hby d16_38) rfl (l' := #[.val (.ref ca), .val (.int (3 : Int32)), .val (.ref t), .val (.int (3 : Int32)), .val (.int (5 : Int32)), .val (.int ((2 : Int32) + (1 : Int32))), .val (.int x2)]) rfl kx) ?_
  rw [hi38_33]
  show OwnOk p e below _ (T29.setTop (mkF m 41 #[.val (.ref ca), .val (.int (3 : Int32)), .val (.ref t), .val (.int (3 : Int32)), .val (.int (5 : Int32)), .val (.int (3 : Int32)), .val (.int x2)] []))
  refine own_up (fun tx kx => XS.goto X29.here hx rfl (pc0 := 41) (pc' := 3) rfl (hb hby d16_41) (by decide) (by decide) kx) ?_
  show OwnOk p e below _ (T29.setTop (mkF m 3 #[.val (.ref ca), .val (.int (3 : Int32)), .val (.ref t), .val (.int (3 : Int32)), .val (.int (5 : Int32)), .val (.int (3 : Int32)), .val (.int x2)] []))
  refine own_up (fun tx kx => XS.iload X29.here hx rfl (hb hby d16_3) rfl kx) ?_
  show OwnOk p e below _ (T29.setTop (mkF m 5 #[.val (.ref ca), .val (.int (3 : Int32)), .val (.ref t), .val (.int (3 : Int32)), .val (.int (5 : Int32)), .val (.int (3 : Int32)), .val (.int x2)] [(.int (3 : Int32))]))
  refine own_up (fun tx kx => XS.iload X29.here hx rfl (hb hby d16_5) rfl kx) ?_
  show OwnOk p e below _ (T29.setTop (mkF m 7 #[.val (.ref ca), .val (.int (3 : Int32)), .val (.ref t), .val (.int (3 : Int32)), .val (.int (5 : Int32)), .val (.int (3 : Int32)), .val (.int x2)] [(.int (5 : Int32)), (.int (3 : Int32))]))
  refine own_up (fun tx kx => XS.icmpNo X29.here hx rfl (hb hby d16_7) rfl (tlt (by decide)).2.1 kx) ?_
  show OwnOk p e below _ (T29.setTop (mkF m 10 #[.val (.ref ca), .val (.int (3 : Int32)), .val (.ref t), .val (.int (3 : Int32)), .val (.int (5 : Int32)), .val (.int (3 : Int32)), .val (.int x2)] []))
  refine own_up (fun tx kx => XS.aloadN X29.here hx rfl (hb hby d16_10) rfl rfl kx) ?_
  show OwnOk p e below _ (T29.setTop (mkF m 11 #[.val (.ref ca), .val (.int (3 : Int32)), .val (.ref t), .val (.int (3 : Int32)), .val (.int (5 : Int32)), .val (.int (3 : Int32)), .val (.int x2)] [(.ref ca)]))
  refine own_up (fun tx kx => XS.iloadN X29.here hx rfl (hb hby d16_11) rfl kx) ?_
  show OwnOk p e below _ (T29.setTop (mkF m 12 #[.val (.ref ca), .val (.int (3 : Int32)), .val (.ref t), .val (.int (3 : Int32)), .val (.int (5 : Int32)), .val (.int (3 : Int32)), .val (.int x2)] [(.int (3 : Int32)), (.ref ca)]))
  have V_ca_34 := (V_ca_26.other W29 ne_ca_t)
  obtain ⟨cl35, Ar35, qc35, Sz35, Nn35, Hs35, Gf35⟩ := id V_ca_34
  have hin35 : ¬ ((3 : Int32) < 0 ∨ cl35.slots.size ≤ ((3 : Int32)).toNatClampNeg) := inb_of Sz35 ⟨by decide, by decide⟩
  have hat35 : cl35.slots[((3 : Int32)).toNatClampNeg]? = some (.int x3) := Hs35.at hin35 rfl
  refine own_up (fun tx kx => X29.caload hx (j := (3 : Int32)) (v := (.int x3)) (own_ar e29 Ar35.1) (State.isArrayOf_alike hZ.alike Ar35.2.1) Ar35.2.2 hin35 hat35 (g := (mkF m 12 #[.val (.ref ca), .val (.int (3 : Int32)), .val (.ref t), .val (.int (3 : Int32)), .val (.int (5 : Int32)), .val (.int (3 : Int32)), .val (.int x2)] [(.int (3 : Int32)), (.ref ca)])) rfl rfl (hb hby d16_12) _ kx) ?_
  show OwnOk p e below _ (T29.setTop (mkF m 13 #[.val (.ref ca), .val (.int (3 : Int32)), .val (.ref t), .val (.int (3 : Int32)), .val (.int (5 : Int32)), .val (.int (3 : Int32)), .val (.int x2)] [(.int x3)]))
  refine own_up (fun tx kx => XS.istore X29.here hx rfl (hb hby d16_13) rfl (l' := #[.val (.ref ca), .val (.int (3 : Int32)), .val (.ref t), .val (.int (3 : Int32)), .val (.int (5 : Int32)), .val (.int (3 : Int32)), .val (.int x3)]) rfl kx) ?_
  show OwnOk p e below _ (T29.setTop (mkF m 15 #[.val (.ref ca), .val (.int (3 : Int32)), .val (.ref t), .val (.int (3 : Int32)), .val (.int (5 : Int32)), .val (.int (3 : Int32)), .val (.int x3)] []))
  refine own_up (fun tx kx => XS.iload X29.here hx rfl (hb hby d16_15) rfl kx) ?_
  show OwnOk p e below _ (T29.setTop (mkF m 17 #[.val (.ref ca), .val (.int (3 : Int32)), .val (.ref t), .val (.int (3 : Int32)), .val (.int (5 : Int32)), .val (.int (3 : Int32)), .val (.int x3)] [(.int x3)]))
  refine own_up (fun tx kx => XS.sipush X29.here hx rfl (hb hby d16_17) kx) ?_
  show OwnOk p e below _ (T29.setTop (mkF m 20 #[.val (.ref ca), .val (.int (3 : Int32)), .val (.ref t), .val (.int (3 : Int32)), .val (.int (5 : Int32)), .val (.int (3 : Int32)), .val (.int x3)] [(.int (255 : Int32)), (.int x3)]))
  refine own_up (fun tx kx => XS.icmpYes X29.here hx rfl (pc0 := 20) (pc' := 26) rfl (hb hby d16_20) rfl (flt c3).2.2.2 (by decide) (by decide) kx) ?_
  show OwnOk p e below _ (T29.setTop (mkF m 26 #[.val (.ref ca), .val (.int (3 : Int32)), .val (.ref t), .val (.int (3 : Int32)), .val (.int (5 : Int32)), .val (.int (3 : Int32)), .val (.int x3)] []))
  refine own_up (fun tx kx => XS.aloadN X29.here hx rfl (hb hby d16_26) rfl rfl kx) ?_
  show OwnOk p e below _ (T29.setTop (mkF m 27 #[.val (.ref ca), .val (.int (3 : Int32)), .val (.ref t), .val (.int (3 : Int32)), .val (.int (5 : Int32)), .val (.int (3 : Int32)), .val (.int x3)] [(.ref t)]))
  refine own_up (fun tx kx => XS.iloadN X29.here hx rfl (hb hby d16_27) rfl kx) ?_
  show OwnOk p e below _ (T29.setTop (mkF m 28 #[.val (.ref ca), .val (.int (3 : Int32)), .val (.ref t), .val (.int (3 : Int32)), .val (.int (5 : Int32)), .val (.int (3 : Int32)), .val (.int x3)] [(.int (3 : Int32)), (.ref t)]))
  refine own_up (fun tx kx => XS.iload X29.here hx rfl (hb hby d16_28) rfl kx) ?_
  show OwnOk p e below _ (T29.setTop (mkF m 30 #[.val (.ref ca), .val (.int (3 : Int32)), .val (.ref t), .val (.int (3 : Int32)), .val (.int (5 : Int32)), .val (.int (3 : Int32)), .val (.int x3)] [(.int x3), (.int (3 : Int32)), (.ref t)]))
  refine own_up (fun tx kx => XS.i2b X29.here hx rfl (hb hby d16_30) rfl kx) ?_
  show OwnOk p e below _ (T29.setTop (mkF m 31 #[.val (.ref ca), .val (.int (3 : Int32)), .val (.ref t), .val (.int (3 : Int32)), .val (.int (5 : Int32)), .val (.int (3 : Int32)), .val (.int x3)] [(.int (x3.toInt8.toInt32)), (.int (3 : Int32)), (.ref t)]))
  obtain ⟨cl36, Ar36, qc36, Sz36, Nn36, Hs36, Gf36⟩ := id V_t_29
  have hin36 : ¬ ((3 : Int32) < 0 ∨ cl36.slots.size ≤ ((3 : Int32)).toNatClampNeg) := inb_of Sz36 ⟨by decide, by decide⟩
  obtain ⟨T37, h37, X37, e37, W37, st37⟩ := stB X29 hx hZ e29 Ar36 (j := (3 : Int32)) hin36 (g := (mkF m 31 #[.val (.ref ca), .val (.int (3 : Int32)), .val (.ref t), .val (.int (3 : Int32)), .val (.int (5 : Int32)), .val (.int (3 : Int32)), .val (.int x3)] [(.int (x3.toInt8.toInt32)), (.int (3 : Int32)), (.ref t)])) rfl rfl (hb hby d16_31)
  have V_t_37 : Arv Z h37 t kt .byte (5 : Int32) [(.int (nar .byte (x0.toInt8.toInt32))), (.int (nar .byte (x1.toInt8.toInt32))), (.int (nar .byte (x2.toInt8.toInt32))), (.int (nar .byte (x3.toInt8.toInt32))), (.int (0 : Int32))] (.int (0 : Int32)) := Arv.set Ar36 qc36 Sz36 Nn36 Hs36 Gf36 (fits_nar_byte _) W37 3 rfl (Nat.le_of_ble_eq_true rfl)
  have N37 := Fr.snoc X37 N29 n0_t
  have OL38 := OL30.wr W37 n0_t
  have KP38 := KP30.wr W37 (Or.inl (List.mem_of_getElem? (i := 0) rfl))
  refine own_up st37 ?_
  show OwnOk p e below _ (T37.setTop (mkF m 32 #[.val (.ref ca), .val (.int (3 : Int32)), .val (.ref t), .val (.int (3 : Int32)), .val (.int (5 : Int32)), .val (.int (3 : Int32)), .val (.int x3)] []))
  have hi32_39 : ((3 : Int32) + (1 : Int32)) = (4 : Int32) := by decide
  refine own_up (fun tx kx => XS.iinc X37.here hx rfl (hb hby d16_32) rfl (l' := #[.val (.ref ca), .val (.int ((3 : Int32) + (1 : Int32))), .val (.ref t), .val (.int (3 : Int32)), .val (.int (5 : Int32)), .val (.int (3 : Int32)), .val (.int x3)]) rfl kx) ?_
  rw [hi32_39]
  show OwnOk p e below _ (T37.setTop (mkF m 35 #[.val (.ref ca), .val (.int (4 : Int32)), .val (.ref t), .val (.int (3 : Int32)), .val (.int (5 : Int32)), .val (.int (3 : Int32)), .val (.int x3)] []))
  have hi35_40 : ((3 : Int32) + (1 : Int32)) = (4 : Int32) := by decide
  refine own_up (fun tx kx => XS.iinc X37.here hx rfl (hb hby d16_35) rfl (l' := #[.val (.ref ca), .val (.int (4 : Int32)), .val (.ref t), .val (.int ((3 : Int32) + (1 : Int32))), .val (.int (5 : Int32)), .val (.int (3 : Int32)), .val (.int x3)]) rfl kx) ?_
  rw [hi35_40]
  show OwnOk p e below _ (T37.setTop (mkF m 38 #[.val (.ref ca), .val (.int (4 : Int32)), .val (.ref t), .val (.int (4 : Int32)), .val (.int (5 : Int32)), .val (.int (3 : Int32)), .val (.int x3)] []))
  have hi38_41 : ((3 : Int32) + (1 : Int32)) = (4 : Int32) := by decide
  refine own_up (fun tx kx => XS.iinc X37.here hx rfl (hb hby d16_38) rfl (l' := #[.val (.ref ca), .val (.int (4 : Int32)), .val (.ref t), .val (.int (4 : Int32)), .val (.int (5 : Int32)), .val (.int ((3 : Int32) + (1 : Int32))), .val (.int x3)]) rfl kx) ?_
  rw [hi38_41]
  show OwnOk p e below _ (T37.setTop (mkF m 41 #[.val (.ref ca), .val (.int (4 : Int32)), .val (.ref t), .val (.int (4 : Int32)), .val (.int (5 : Int32)), .val (.int (4 : Int32)), .val (.int x3)] []))
  refine own_up (fun tx kx => XS.goto X37.here hx rfl (pc0 := 41) (pc' := 3) rfl (hb hby d16_41) (by decide) (by decide) kx) ?_
  show OwnOk p e below _ (T37.setTop (mkF m 3 #[.val (.ref ca), .val (.int (4 : Int32)), .val (.ref t), .val (.int (4 : Int32)), .val (.int (5 : Int32)), .val (.int (4 : Int32)), .val (.int x3)] []))
  refine own_up (fun tx kx => XS.iload X37.here hx rfl (hb hby d16_3) rfl kx) ?_
  show OwnOk p e below _ (T37.setTop (mkF m 5 #[.val (.ref ca), .val (.int (4 : Int32)), .val (.ref t), .val (.int (4 : Int32)), .val (.int (5 : Int32)), .val (.int (4 : Int32)), .val (.int x3)] [(.int (4 : Int32))]))
  refine own_up (fun tx kx => XS.iload X37.here hx rfl (hb hby d16_5) rfl kx) ?_
  show OwnOk p e below _ (T37.setTop (mkF m 7 #[.val (.ref ca), .val (.int (4 : Int32)), .val (.ref t), .val (.int (4 : Int32)), .val (.int (5 : Int32)), .val (.int (4 : Int32)), .val (.int x3)] [(.int (5 : Int32)), (.int (4 : Int32))]))
  refine own_up (fun tx kx => XS.icmpNo X37.here hx rfl (hb hby d16_7) rfl (tlt (by decide)).2.1 kx) ?_
  show OwnOk p e below _ (T37.setTop (mkF m 10 #[.val (.ref ca), .val (.int (4 : Int32)), .val (.ref t), .val (.int (4 : Int32)), .val (.int (5 : Int32)), .val (.int (4 : Int32)), .val (.int x3)] []))
  refine own_up (fun tx kx => XS.aloadN X37.here hx rfl (hb hby d16_10) rfl rfl kx) ?_
  show OwnOk p e below _ (T37.setTop (mkF m 11 #[.val (.ref ca), .val (.int (4 : Int32)), .val (.ref t), .val (.int (4 : Int32)), .val (.int (5 : Int32)), .val (.int (4 : Int32)), .val (.int x3)] [(.ref ca)]))
  refine own_up (fun tx kx => XS.iloadN X37.here hx rfl (hb hby d16_11) rfl kx) ?_
  show OwnOk p e below _ (T37.setTop (mkF m 12 #[.val (.ref ca), .val (.int (4 : Int32)), .val (.ref t), .val (.int (4 : Int32)), .val (.int (5 : Int32)), .val (.int (4 : Int32)), .val (.int x3)] [(.int (4 : Int32)), (.ref ca)]))
  have V_ca_42 := (V_ca_34.other W37 ne_ca_t)
  obtain ⟨cl43, Ar43, qc43, Sz43, Nn43, Hs43, Gf43⟩ := id V_ca_42
  have hin43 : ¬ ((4 : Int32) < 0 ∨ cl43.slots.size ≤ ((4 : Int32)).toNatClampNeg) := inb_of Sz43 ⟨by decide, by decide⟩
  have hat43 : cl43.slots[((4 : Int32)).toNatClampNeg]? = some (.int x4) := Hs43.at hin43 rfl
  refine own_up (fun tx kx => X37.caload hx (j := (4 : Int32)) (v := (.int x4)) (own_ar e37 Ar43.1) (State.isArrayOf_alike hZ.alike Ar43.2.1) Ar43.2.2 hin43 hat43 (g := (mkF m 12 #[.val (.ref ca), .val (.int (4 : Int32)), .val (.ref t), .val (.int (4 : Int32)), .val (.int (5 : Int32)), .val (.int (4 : Int32)), .val (.int x3)] [(.int (4 : Int32)), (.ref ca)])) rfl rfl (hb hby d16_12) _ kx) ?_
  show OwnOk p e below _ (T37.setTop (mkF m 13 #[.val (.ref ca), .val (.int (4 : Int32)), .val (.ref t), .val (.int (4 : Int32)), .val (.int (5 : Int32)), .val (.int (4 : Int32)), .val (.int x3)] [(.int x4)]))
  refine own_up (fun tx kx => XS.istore X37.here hx rfl (hb hby d16_13) rfl (l' := #[.val (.ref ca), .val (.int (4 : Int32)), .val (.ref t), .val (.int (4 : Int32)), .val (.int (5 : Int32)), .val (.int (4 : Int32)), .val (.int x4)]) rfl kx) ?_
  show OwnOk p e below _ (T37.setTop (mkF m 15 #[.val (.ref ca), .val (.int (4 : Int32)), .val (.ref t), .val (.int (4 : Int32)), .val (.int (5 : Int32)), .val (.int (4 : Int32)), .val (.int x4)] []))
  refine own_up (fun tx kx => XS.iload X37.here hx rfl (hb hby d16_15) rfl kx) ?_
  show OwnOk p e below _ (T37.setTop (mkF m 17 #[.val (.ref ca), .val (.int (4 : Int32)), .val (.ref t), .val (.int (4 : Int32)), .val (.int (5 : Int32)), .val (.int (4 : Int32)), .val (.int x4)] [(.int x4)]))
  refine own_up (fun tx kx => XS.sipush X37.here hx rfl (hb hby d16_17) kx) ?_
  show OwnOk p e below _ (T37.setTop (mkF m 20 #[.val (.ref ca), .val (.int (4 : Int32)), .val (.ref t), .val (.int (4 : Int32)), .val (.int (5 : Int32)), .val (.int (4 : Int32)), .val (.int x4)] [(.int (255 : Int32)), (.int x4)]))
  refine own_up (fun tx kx => XS.icmpYes X37.here hx rfl (pc0 := 20) (pc' := 26) rfl (hb hby d16_20) rfl (flt c4).2.2.2 (by decide) (by decide) kx) ?_
  show OwnOk p e below _ (T37.setTop (mkF m 26 #[.val (.ref ca), .val (.int (4 : Int32)), .val (.ref t), .val (.int (4 : Int32)), .val (.int (5 : Int32)), .val (.int (4 : Int32)), .val (.int x4)] []))
  refine own_up (fun tx kx => XS.aloadN X37.here hx rfl (hb hby d16_26) rfl rfl kx) ?_
  show OwnOk p e below _ (T37.setTop (mkF m 27 #[.val (.ref ca), .val (.int (4 : Int32)), .val (.ref t), .val (.int (4 : Int32)), .val (.int (5 : Int32)), .val (.int (4 : Int32)), .val (.int x4)] [(.ref t)]))
  refine own_up (fun tx kx => XS.iloadN X37.here hx rfl (hb hby d16_27) rfl kx) ?_
  show OwnOk p e below _ (T37.setTop (mkF m 28 #[.val (.ref ca), .val (.int (4 : Int32)), .val (.ref t), .val (.int (4 : Int32)), .val (.int (5 : Int32)), .val (.int (4 : Int32)), .val (.int x4)] [(.int (4 : Int32)), (.ref t)]))
  refine own_up (fun tx kx => XS.iload X37.here hx rfl (hb hby d16_28) rfl kx) ?_
  show OwnOk p e below _ (T37.setTop (mkF m 30 #[.val (.ref ca), .val (.int (4 : Int32)), .val (.ref t), .val (.int (4 : Int32)), .val (.int (5 : Int32)), .val (.int (4 : Int32)), .val (.int x4)] [(.int x4), (.int (4 : Int32)), (.ref t)]))
  refine own_up (fun tx kx => XS.i2b X37.here hx rfl (hb hby d16_30) rfl kx) ?_
  show OwnOk p e below _ (T37.setTop (mkF m 31 #[.val (.ref ca), .val (.int (4 : Int32)), .val (.ref t), .val (.int (4 : Int32)), .val (.int (5 : Int32)), .val (.int (4 : Int32)), .val (.int x4)] [(.int (x4.toInt8.toInt32)), (.int (4 : Int32)), (.ref t)]))
  obtain ⟨cl44, Ar44, qc44, Sz44, Nn44, Hs44, Gf44⟩ := id V_t_37
  have hin44 : ¬ ((4 : Int32) < 0 ∨ cl44.slots.size ≤ ((4 : Int32)).toNatClampNeg) := inb_of Sz44 ⟨by decide, by decide⟩
  obtain ⟨T45, h45, X45, e45, W45, st45⟩ := stB X37 hx hZ e37 Ar44 (j := (4 : Int32)) hin44 (g := (mkF m 31 #[.val (.ref ca), .val (.int (4 : Int32)), .val (.ref t), .val (.int (4 : Int32)), .val (.int (5 : Int32)), .val (.int (4 : Int32)), .val (.int x4)] [(.int (x4.toInt8.toInt32)), (.int (4 : Int32)), (.ref t)])) rfl rfl (hb hby d16_31)
  have V_t_45 : Arv Z h45 t kt .byte (5 : Int32) [(.int (nar .byte (x0.toInt8.toInt32))), (.int (nar .byte (x1.toInt8.toInt32))), (.int (nar .byte (x2.toInt8.toInt32))), (.int (nar .byte (x3.toInt8.toInt32))), (.int (nar .byte (x4.toInt8.toInt32)))] (.int (0 : Int32)) := Arv.set Ar44 qc44 Sz44 Nn44 Hs44 Gf44 (fits_nar_byte _) W45 4 rfl (Nat.le_of_ble_eq_true rfl)
  have N45 := Fr.snoc X45 N37 n0_t
  have OL46 := OL38.wr W45 n0_t
  have KP46 := KP38.wr W45 (Or.inl (List.mem_of_getElem? (i := 0) rfl))
  refine own_up st45 ?_
  show OwnOk p e below _ (T45.setTop (mkF m 32 #[.val (.ref ca), .val (.int (4 : Int32)), .val (.ref t), .val (.int (4 : Int32)), .val (.int (5 : Int32)), .val (.int (4 : Int32)), .val (.int x4)] []))
  have hi32_47 : ((4 : Int32) + (1 : Int32)) = (5 : Int32) := by decide
  refine own_up (fun tx kx => XS.iinc X45.here hx rfl (hb hby d16_32) rfl (l' := #[.val (.ref ca), .val (.int ((4 : Int32) + (1 : Int32))), .val (.ref t), .val (.int (4 : Int32)), .val (.int (5 : Int32)), .val (.int (4 : Int32)), .val (.int x4)]) rfl kx) ?_
  rw [hi32_47]
  show OwnOk p e below _ (T45.setTop (mkF m 35 #[.val (.ref ca), .val (.int (5 : Int32)), .val (.ref t), .val (.int (4 : Int32)), .val (.int (5 : Int32)), .val (.int (4 : Int32)), .val (.int x4)] []))
  have hi35_48 : ((4 : Int32) + (1 : Int32)) = (5 : Int32) := by decide
  refine own_up (fun tx kx => XS.iinc X45.here hx rfl (hb hby d16_35) rfl (l' := #[.val (.ref ca), .val (.int (5 : Int32)), .val (.ref t), .val (.int ((4 : Int32) + (1 : Int32))), .val (.int (5 : Int32)), .val (.int (4 : Int32)), .val (.int x4)]) rfl kx) ?_
  rw [hi35_48]
  show OwnOk p e below _ (T45.setTop (mkF m 38 #[.val (.ref ca), .val (.int (5 : Int32)), .val (.ref t), .val (.int (5 : Int32)), .val (.int (5 : Int32)), .val (.int (4 : Int32)), .val (.int x4)] []))
  have hi38_49 : ((4 : Int32) + (1 : Int32)) = (5 : Int32) := by decide
  refine own_up (fun tx kx => XS.iinc X45.here hx rfl (hb hby d16_38) rfl (l' := #[.val (.ref ca), .val (.int (5 : Int32)), .val (.ref t), .val (.int (5 : Int32)), .val (.int (5 : Int32)), .val (.int ((4 : Int32) + (1 : Int32))), .val (.int x4)]) rfl kx) ?_
  rw [hi38_49]
  show OwnOk p e below _ (T45.setTop (mkF m 41 #[.val (.ref ca), .val (.int (5 : Int32)), .val (.ref t), .val (.int (5 : Int32)), .val (.int (5 : Int32)), .val (.int (5 : Int32)), .val (.int x4)] []))
  refine own_up (fun tx kx => XS.goto X45.here hx rfl (pc0 := 41) (pc' := 3) rfl (hb hby d16_41) (by decide) (by decide) kx) ?_
  show OwnOk p e below _ (T45.setTop (mkF m 3 #[.val (.ref ca), .val (.int (5 : Int32)), .val (.ref t), .val (.int (5 : Int32)), .val (.int (5 : Int32)), .val (.int (5 : Int32)), .val (.int x4)] []))
  refine own_up (fun tx kx => XS.iload X45.here hx rfl (hb hby d16_3) rfl kx) ?_
  show OwnOk p e below _ (T45.setTop (mkF m 5 #[.val (.ref ca), .val (.int (5 : Int32)), .val (.ref t), .val (.int (5 : Int32)), .val (.int (5 : Int32)), .val (.int (5 : Int32)), .val (.int x4)] [(.int (5 : Int32))]))
  refine own_up (fun tx kx => XS.iload X45.here hx rfl (hb hby d16_5) rfl kx) ?_
  show OwnOk p e below _ (T45.setTop (mkF m 7 #[.val (.ref ca), .val (.int (5 : Int32)), .val (.ref t), .val (.int (5 : Int32)), .val (.int (5 : Int32)), .val (.int (5 : Int32)), .val (.int x4)] [(.int (5 : Int32)), (.int (5 : Int32))]))
  refine own_up (fun tx kx => XS.icmpYes X45.here hx rfl (pc0 := 7) (pc' := 44) rfl (hb hby d16_7) rfl (flt (by decide)).2.1 (by decide) (by decide) kx) ?_
  show OwnOk p e below _ (T45.setTop (mkF m 44 #[.val (.ref ca), .val (.int (5 : Int32)), .val (.ref t), .val (.int (5 : Int32)), .val (.int (5 : Int32)), .val (.int (5 : Int32)), .val (.int x4)] []))
  refine own_up (fun tx kx => XS.iload X45.here hx rfl (hb hby d16_44) rfl kx) ?_
  show OwnOk p e below _ (T45.setTop (mkF m 46 #[.val (.ref ca), .val (.int (5 : Int32)), .val (.ref t), .val (.int (5 : Int32)), .val (.int (5 : Int32)), .val (.int (5 : Int32)), .val (.int x4)] [(.int (5 : Int32))]))
  refine own_retI X45 hx (show meth.sig.returnType = some .int from hret) hlk (hb hby d16_46) e45 (Nat.le_of_ble_eq_true rfl) (Nat.le_of_ble_eq_true rfl) ?_
  exact ⟨rfl, N45, KP46, V_t_45⟩
def Q_c_cmp4_5 (Z : State) (x0 x1 x2 x3 x4 : Int32) (h0 : Heap) (n0 : Nat) (v : Option Value) (h : Heap) (L : List Loc) : Prop := ∃ (t : Addr) (kt : ClassId), v = some (.ref t) ∧ Fr n0 L ∧ Keep h0 h [] ∧ h0.size ≤ t ∧ Arv Z h t kt .byte (5 : Int32) [(.int (nar .byte (x0.toInt8.toInt32))), (.int (nar .byte (x1.toInt8.toInt32))), (.int (nar .byte (x2.toInt8.toInt32))), (.int (nar .byte (x3.toInt8.toInt32))), (.int (nar .byte (x4.toInt8.toInt32)))] (.int (0 : Int32))
set_option maxRecDepth 65536 in
set_option maxHeartbeats 40000000 in
theorem c_cmp4_5 (l : Launch) (Z : State) (a0 : Array Value) (hw : ∀ d ∈ tables_1, d.before a0 Z = true) (ca : Addr) (kc : ClassId) (x0 x1 x2 x3 x4 : Int32) (h0 : Heap) (n0 : Nat) (OL : Old Z n0 h0) (V_ca : Arv Z h0 ca kc .char (5 : Int32) [(.int x0), (.int x1), (.int x2), (.int x3), (.int x4)] (.int (0 : Int32))) (c0 : ¬ (255 : Int32) < x0) (c1 : ¬ (255 : Int32) < x1) (c2 : ¬ (255 : Int32) < x2) (c3 : ¬ (255 : Int32) < x3) (c4 : ¬ (255 : Int32) < x4) :
    own_Met l Z (⟨"java/lang/StringUTF16", "compress", "([CII)[B"⟩ : MethodName) jdk_52_method_16_code 6 (some (.array .byte)) ({ frames := 1, cells := 1, slots := 5, locals := 20 } : Room) #[(.ref ca), (.int (0 : Int32)), (.int (5 : Int32))] h0 (Q_c_cmp4_5 Z x0 x1 x2 x3 x4 h0 n0) := by
  refine own_body (L0 := #[.val (.ref ca), .val (.int (0 : Int32)), .val (.int (5 : Int32)), .unset, .unset, .unset]) (plainFor_of_name (by first | (simp [plainName, overriddenIn]; done) | decide +kernel)) (fun m => by first | (simp [entryFrame, mkF, argsToLocals, Value.category]; done) | rfl) ?_
  intro p e s m below meth c s₁ hx hby hml hZ hown hnm hret hlk X0 e0
  have N0 := Fr.nil n0
  have Z0 : n0 ≤ h0.size := OL.1 ▸ OL.2.1
  show OwnOk p e below _ (s₁.setTop (mkF m 0 #[.val (.ref ca), .val (.int (0 : Int32)), .val (.int (5 : Int32)), .unset, .unset, .unset] []))
  have KP0 : Keep h0 h0 [] := Keep.refl h0 _
  refine own_up (fun tx kx => XS.iloadN X0.here hx rfl (hb hby d15_0) rfl kx) ?_
  show OwnOk p e below _ (s₁.setTop (mkF m 1 #[.val (.ref ca), .val (.int (0 : Int32)), .val (.int (5 : Int32)), .unset, .unset, .unset] [(.int (5 : Int32))]))
  obtain ⟨T11, h11, k11, X11, e11, E11, A11, st11⟩ := newP (aty := .byte) X0 hx hZ (wd_4 hw) e0 (g := (mkF m 1 #[.val (.ref ca), .val (.int (0 : Int32)), .val (.int (5 : Int32)), .unset, .unset, .unset] [(.int (5 : Int32))])) rfl (hb hby d15_1) rfl (by decide) (cap := 5) (by decide) (by decide) (by decide) (by decide)
  obtain ⟨b11, g11⟩ : ∃ z, z = h0.size := ⟨_, rfl⟩
  rw [← g11] at A11 st11
  have sz_b11 : h0.size ≤ b11 := Nat.le_of_eq g11.symm
  have lt_ca_b11 : ca < b11 := Nat.lt_of_lt_of_le V_ca.lt sz_b11
  have n0_b11 : n0 ≤ b11 := Nat.le_trans (own_n0 OL) sz_b11
  have ws_b11 : h0.size ≤ b11 := Nat.le_trans KP0.1 sz_b11
  have V_b11 : Arv Z h11 b11 k11 .byte (5 : Int32) [(.int (0 : Int32)), (.int (0 : Int32)), (.int (0 : Int32)), (.int (0 : Int32)), (.int (0 : Int32))] (.int (0 : Int32)) := (Arv.new A11 (by decide)).pad (pad_rep [] (.int (0 : Int32)) 5)
  have OL13 := OL.ext E11
  have KP13 := KP0.ext E11
  refine own_up st11 ?_
  show OwnOk p e below _ (T11.setTop (mkF m 3 #[.val (.ref ca), .val (.int (0 : Int32)), .val (.int (5 : Int32)), .unset, .unset, .unset] [(.ref b11)]))
  refine own_up (fun tx kx => XS.astoreN X11.here hx rfl (hb hby d15_3) rfl rfl (l' := #[.val (.ref ca), .val (.int (0 : Int32)), .val (.int (5 : Int32)), .val (.ref b11), .unset, .unset]) rfl kx) ?_
  show OwnOk p e below _ (T11.setTop (mkF m 4 #[.val (.ref ca), .val (.int (0 : Int32)), .val (.int (5 : Int32)), .val (.ref b11), .unset, .unset] []))
  refine own_up (fun tx kx => XS.aloadN X11.here hx rfl (hb hby d15_4) rfl rfl kx) ?_
  show OwnOk p e below _ (T11.setTop (mkF m 5 #[.val (.ref ca), .val (.int (0 : Int32)), .val (.int (5 : Int32)), .val (.ref b11), .unset, .unset] [(.ref ca)]))
  refine own_up (fun tx kx => XS.iloadN X11.here hx rfl (hb hby d15_5) rfl kx) ?_
  show OwnOk p e below _ (T11.setTop (mkF m 6 #[.val (.ref ca), .val (.int (0 : Int32)), .val (.int (5 : Int32)), .val (.ref b11), .unset, .unset] [(.int (0 : Int32)), (.ref ca)]))
  refine own_up (fun tx kx => XS.aloadN X11.here hx rfl (hb hby d15_6) rfl rfl kx) ?_
  show OwnOk p e below _ (T11.setTop (mkF m 7 #[.val (.ref ca), .val (.int (0 : Int32)), .val (.int (5 : Int32)), .val (.ref b11), .unset, .unset] [(.ref b11), (.int (0 : Int32)), (.ref ca)]))
  refine own_up (fun tx kx => XS.iconst X11.here hx rfl (hb hby d15_7) kx) ?_
  show OwnOk p e below _ (T11.setTop (mkF m 8 #[.val (.ref ca), .val (.int (0 : Int32)), .val (.int (5 : Int32)), .val (.ref b11), .unset, .unset] [(.int (0 : Int32)), (.ref b11), (.int (0 : Int32)), (.ref ca)]))
  refine own_up (fun tx kx => XS.iloadN X11.here hx rfl (hb hby d15_8) rfl kx) ?_
  show OwnOk p e below _ (T11.setTop (mkF m 9 #[.val (.ref ca), .val (.int (0 : Int32)), .val (.int (5 : Int32)), .val (.ref b11), .unset, .unset] [(.int (5 : Int32)), (.int (0 : Int32)), (.ref b11), (.int (0 : Int32)), (.ref ca)]))
  have V_ca_14 := (V_ca.ext E11)
  refine own_callS X11 hx hZ (y := (⟨"java/lang/StringUTF16", "compress", "([CI[BII)I"⟩ : MethodName)) hown (wd_94 hw) (wd_95 hw) (wd_92 hw) (wd_96 hw) (by decide) (c_cmp5_5 l Z a0 hw ca b11 kc k11 x0 x1 x2 x3 x4 h11 n0 OL13 V_ca_14 V_b11 n0_b11 (Nat.ne_of_lt lt_ca_b11) c0 c1 c2 c3 c4) e11 (argsL := [(.ref ca), (.int (0 : Int32)), (.ref b11), (.int (0 : Int32)), (.int (5 : Int32))]) (rest := []) (by rw [hml]; rfl) (lenOf pd_5 rfl) rfl rfl (W := 0) rfl (hb hby d15_9) (by decide) (by decide) (by decide) (by decide) (fun T15 v15 L15 X15 hQ15 => ?_)
  obtain ⟨rfl, Nq15, Kq15, Vq15⟩ := hQ15
  have N15 := Fr.app N0 Nq15
  have OL15 := OL13.keep Kq15 (allS n0_b11 all0)
  have KP15 := KP13.trans Kq15 (allS (Or.inr ws_b11) all0)
  show OwnOk p e below _ (T15.setTop (mkF m 12 #[.val (.ref ca), .val (.int (0 : Int32)), .val (.int (5 : Int32)), .val (.ref b11), .unset, .unset] [(.int (5 : Int32))]))
  refine own_up (fun tx kx => XS.istore X15.here hx rfl (hb hby d15_12) rfl (l' := #[.val (.ref ca), .val (.int (0 : Int32)), .val (.int (5 : Int32)), .val (.ref b11), .val (.int (5 : Int32)), .unset]) rfl kx) ?_
  show OwnOk p e below _ (T15.setTop (mkF m 14 #[.val (.ref ca), .val (.int (0 : Int32)), .val (.int (5 : Int32)), .val (.ref b11), .val (.int (5 : Int32)), .unset] []))
  refine own_up (fun tx kx => XS.iload X15.here hx rfl (hb hby d15_14) rfl kx) ?_
  show OwnOk p e below _ (T15.setTop (mkF m 16 #[.val (.ref ca), .val (.int (0 : Int32)), .val (.int (5 : Int32)), .val (.ref b11), .val (.int (5 : Int32)), .unset] [(.int (5 : Int32))]))
  refine own_up (fun tx kx => XS.iloadN X15.here hx rfl (hb hby d15_16) rfl kx) ?_
  show OwnOk p e below _ (T15.setTop (mkF m 17 #[.val (.ref ca), .val (.int (0 : Int32)), .val (.int (5 : Int32)), .val (.ref b11), .val (.int (5 : Int32)), .unset] [(.int (5 : Int32)), (.int (5 : Int32))]))
  refine own_up (fun tx kx => XS.icmpYes X15.here hx rfl (pc0 := 17) (pc' := 57) rfl (hb hby d15_17) rfl (teq rfl).1 (by decide) (by decide) kx) ?_
  show OwnOk p e below _ (T15.setTop (mkF m 57 #[.val (.ref ca), .val (.int (0 : Int32)), .val (.int (5 : Int32)), .val (.ref b11), .val (.int (5 : Int32)), .unset] []))
  refine own_up (fun tx kx => XS.aloadN X15.here hx rfl (hb hby d15_57) rfl rfl kx) ?_
  show OwnOk p e below _ (T15.setTop (mkF m 58 #[.val (.ref ca), .val (.int (0 : Int32)), .val (.int (5 : Int32)), .val (.ref b11), .val (.int (5 : Int32)), .unset] [(.ref b11)]))
  refine own_retR X15 hx (t := (.array .byte)) (show meth.sig.returnType = some (.array .byte) from hret) rfl hlk rfl (hb hby d15_58) rfl (Nat.le_of_ble_eq_true rfl) (Nat.le_of_ble_eq_true rfl) ?_
  exact ⟨b11, _, rfl, N15, KP15, ws_b11, Vq15⟩
def Q_c_coder_5 (h0 : Heap) (n0 : Nat) (v : Option Value) (h : Heap) (L : List Loc) : Prop := v = some (.int 0) ∧ Fr n0 L ∧ h = h0
set_option maxRecDepth 65536 in
set_option maxHeartbeats 40000000 in
theorem c_coder_5 (l : Launch) (Z : State) (a0 : Array Value) (hw : ∀ d ∈ tables_1, d.before a0 Z = true) (t : Addr) (kt : ClassId) (x0 x1 x2 x3 x4 : Int32) (h0 : Heap) (n0 : Nat) (OL : Old Z n0 h0) (V_t : Arv Z h0 t kt .byte (5 : Int32) [(.int (nar .byte (x0.toInt8.toInt32))), (.int (nar .byte (x1.toInt8.toInt32))), (.int (nar .byte (x2.toInt8.toInt32))), (.int (nar .byte (x3.toInt8.toInt32))), (.int (nar .byte (x4.toInt8.toInt32)))] (.int (0 : Int32))) :
    own_Met l Z (⟨"java/lang/StringUTF16", "coderFromArrayLen", "([BI)B"⟩ : MethodName) jdk_52_method_15_code 2 (some .byte) ({ frames := 0, cells := 0, slots := 0, locals := 0 } : Room) #[(.ref t), (.int (5 : Int32))] h0 (Q_c_coder_5 h0 n0) := by
  refine own_body (L0 := #[.val (.ref t), .val (.int (5 : Int32))]) (plainFor_of_name (by first | (simp [plainName, overriddenIn]; done) | decide +kernel)) (fun m => by first | (simp [entryFrame, mkF, argsToLocals, Value.category]; done) | rfl) ?_
  intro p e s m below meth c s₁ hx hby hml hZ hown hnm hret hlk X0 e0
  have N0 := Fr.nil n0
  have Z0 : n0 ≤ h0.size := OL.1 ▸ OL.2.1
  show OwnOk p e below _ (s₁.setTop (mkF m 0 #[.val (.ref t), .val (.int (5 : Int32))] []))
  refine own_up (fun tx kx => XS.iloadN X0.here hx rfl (hb hby d17_0) rfl kx) ?_
  show OwnOk p e below _ (s₁.setTop (mkF m 1 #[.val (.ref t), .val (.int (5 : Int32))] [(.int (5 : Int32))]))
  refine own_up (fun tx kx => XS.aloadN X0.here hx rfl (hb hby d17_1) rfl rfl kx) ?_
  show OwnOk p e below _ (s₁.setTop (mkF m 2 #[.val (.ref t), .val (.int (5 : Int32))] [(.ref t), (.int (5 : Int32))]))
  obtain ⟨cl11, Ar11, qc11, Sz11, Nn11, Hs11, Gf11⟩ := id V_t
  have hlen11 : cl11.slots.size.toInt32 = (5 : Int32) := len_of Sz11 Nn11
  refine own_up (fun tx kx => X0.arraylength hx (own_ar e0 Ar11.1) (State.isArrayOf_alike hZ.alike Ar11.2.1) (g := (mkF m 2 #[.val (.ref t), .val (.int (5 : Int32))] [(.ref t), (.int (5 : Int32))])) rfl rfl (hb hby d17_2) _ kx) ?_
  rw [hlen11]
  show OwnOk p e below _ (s₁.setTop (mkF m 3 #[.val (.ref t), .val (.int (5 : Int32))] [(.int (5 : Int32)), (.int (5 : Int32))]))
  have hc3_12 : ((5 : Int32) - (5 : Int32)) = (0 : Int32) := by decide
  refine own_up (fun tx kx => XS.isub X0.here hx rfl (hb hby d17_3) rfl kx) ?_
  show OwnOk p e below _ (s₁.setTop (mkF m 4 #[.val (.ref t), .val (.int (5 : Int32))] [(.int ((5 : Int32) - (5 : Int32)))]))
  rw [hc3_12]
  show OwnOk p e below _ (s₁.setTop (mkF m 4 #[.val (.ref t), .val (.int (5 : Int32))] [(.int (0 : Int32))]))
  refine own_up (fun tx kx => XS.bipush X0.here hx rfl (hb hby d17_4) kx) ?_
  show OwnOk p e below _ (s₁.setTop (mkF m 6 #[.val (.ref t), .val (.int (5 : Int32))] [(.int (31 : Int32)), (.int (0 : Int32))]))
  refine own_up (fun tx kx => XS.iushr X0.here hx rfl (hb hby d17_6) rfl kx) ?_
  show OwnOk p e below _ (s₁.setTop (mkF m 7 #[.val (.ref t), .val (.int (5 : Int32))] [(.int (((0 : Int32).toUInt32 >>> ((31 : Int32) &&& 31).toUInt32).toInt32))]))
  refine own_up (fun tx kx => XS.i2b X0.here hx rfl (hb hby d17_7) rfl kx) ?_
  show OwnOk p e below _ (s₁.setTop (mkF m 8 #[.val (.ref t), .val (.int (5 : Int32))] [(.int ((((0 : Int32).toUInt32 >>> ((31 : Int32) &&& 31).toUInt32).toInt32).toInt8.toInt32))]))
  refine own_retN X0 hx (t := .byte) (show meth.sig.returnType = some .byte from hret) (by simp) hlk (hb hby d17_8) (z' := 0) (by decide) e0 (Nat.le_of_ble_eq_true rfl) (Nat.le_of_ble_eq_true rfl) ?_
  exact ⟨rfl, N0, rfl⟩
def Q_c_init2_5 (Z : State) (a : Addr) (x0 x1 x2 x3 x4 : Int32) (h0 : Heap) (n0 : Nat) (v : Option Value) (h : Heap) (L : List Loc) : Prop := v = none ∧ Fr n0 L ∧ Keep h0 h [a] ∧ ∃ (u : Addr) (ku : ClassId), h0.size ≤ u ∧ (Exa Z h a "java/lang/String") ∧ (Fld Z h a "java/lang/String" "value" "[B" (.ref u)) ∧ (Fld Z h a "java/lang/String" "coder" "B" (.int (0 : Int32))) ∧ (Arv Z h u ku .byte (Int32.ofNat 5) (own_F 5 (fun j => [(nar .byte (x0.toInt8.toInt32)), (nar .byte (x1.toInt8.toInt32)), (nar .byte (x2.toInt8.toInt32)), (nar .byte (x3.toInt8.toInt32)), (nar .byte (x4.toInt8.toInt32))].getD j 0)) (.int (0 : Int32)))
set_option maxRecDepth 65536 in
set_option maxHeartbeats 40000000 in
theorem c_init2_5 (l : Launch) (Z : State) (a0 : Array Value) (hw : ∀ d ∈ tables_1, d.before a0 Z = true) (a ca : Addr) (kc : ClassId) (x0 x1 x2 x3 x4 : Int32) (cz : Int32) (h0 : Heap) (n0 : Nat) (OL : Old Z n0 h0) (SC : Sta Z Z.heap "java/lang/String" "COMPACT_STRINGS" "Z" (.int cz)) (hcz : ¬ cz = 0) (E_a : Exa Z h0 a "java/lang/String") (F_value_a : Fld Z h0 a "java/lang/String" "value" "[B" .null) (F_coder_a : Fld Z h0 a "java/lang/String" "coder" "B" (.int (0 : Int32))) (n0_a : n0 ≤ a) (V_ca : Arv Z h0 ca kc .char (5 : Int32) [(.int x0), (.int x1), (.int x2), (.int x3), (.int x4)] (.int (0 : Int32))) (ne_a_ca : a ≠ ca) (c0 : ¬ (255 : Int32) < x0) (c1 : ¬ (255 : Int32) < x1) (c2 : ¬ (255 : Int32) < x2) (c3 : ¬ (255 : Int32) < x3) (c4 : ¬ (255 : Int32) < x4) :
    own_Met l Z (⟨"java/lang/String", "<init>", "([CIILjava/lang/Void;)V"⟩ : MethodName) jdk_42_method_149_code 6 none ({ frames := 2, cells := 1, slots := 5, locals := 45 } : Room) #[(.ref a), (.ref ca), (.int (0 : Int32)), (.int (5 : Int32)), .null] h0 (Q_c_init2_5 Z a x0 x1 x2 x3 x4 h0 n0) := by
  refine own_body (L0 := #[.val (.ref a), .val (.ref ca), .val (.int (0 : Int32)), .val (.int (5 : Int32)), .val .null, .unset]) (plainFor_of_name (by first | (simp [plainName, overriddenIn]; done) | decide +kernel)) (fun m => by first | (simp [entryFrame, mkF, argsToLocals, Value.category]; done) | rfl) ?_
  intro p e s m below meth c s₁ hx hby hml hZ hown hnm hret hlk X0 e0
  have N0 := Fr.nil n0
  have Z0 : n0 ≤ h0.size := OL.1 ▸ OL.2.1
  show OwnOk p e below _ (s₁.setTop (mkF m 0 #[.val (.ref a), .val (.ref ca), .val (.int (0 : Int32)), .val (.int (5 : Int32)), .val .null, .unset] []))
  have KP0 : Keep h0 h0 [a] := Keep.refl h0 _
  refine own_up (fun tx kx => XS.aloadN X0.here hx rfl (hb hby d13_0) rfl rfl kx) ?_
  show OwnOk p e below _ (s₁.setTop (mkF m 1 #[.val (.ref a), .val (.ref ca), .val (.int (0 : Int32)), .val (.int (5 : Int32)), .val .null, .unset] [(.ref a)]))
  obtain ⟨T11, X11, e11, st11⟩ := initO X0 hx hZ hown (wd_87 hw) (wd_88 hw) (wd_89 hw) e0 (g := (mkF m 1 #[.val (.ref a), .val (.ref ca), .val (.int (0 : Int32)), .val (.int (5 : Int32)), .val .null, .unset] [(.ref a)])) rfl (by rw [hml]; rfl) rfl (hb hby d13_1) (by decide) (W := 0) (by show 2 * 0 + _ ≤ _; exact Nat.le_of_eq rfl) (by decide)
  refine own_up st11 ?_
  show OwnOk p e below _ (T11.setTop (mkF m 4 #[.val (.ref a), .val (.ref ca), .val (.int (0 : Int32)), .val (.int (5 : Int32)), .val .null, .unset] []))
  refine own_up (fun tx kx => XS.iloadN X11.here hx rfl (hb hby d13_4) rfl kx) ?_
  show OwnOk p e below _ (T11.setTop (mkF m 5 #[.val (.ref a), .val (.ref ca), .val (.int (0 : Int32)), .val (.int (5 : Int32)), .val .null, .unset] [(.int (5 : Int32))]))
  refine own_up (fun tx kx => XS.ifYes X11.here hx rfl (pc0 := 5) (pc' := 27) rfl (hb hby d13_5) rfl ((if0 _ _).trans (feq (by decide)).2) (by decide) (by decide) kx) ?_
  show OwnOk p e below _ (T11.setTop (mkF m 27 #[.val (.ref a), .val (.ref ca), .val (.int (0 : Int32)), .val (.int (5 : Int32)), .val .null, .unset] []))
  obtain ⟨T12, X12, e12, st12⟩ := getS2 X11 hx hZ hown (host := "") (Or.inl (wd_24 hw)) Via.refl e11 (SC.ext OL.2) (g := (mkF m 27 #[.val (.ref a), .val (.ref ca), .val (.int (0 : Int32)), .val (.int (5 : Int32)), .val .null, .unset] [])) rfl (hb hby d13_27)
  refine own_up st12 ?_
  show OwnOk p e below _ (T12.setTop (mkF m 30 #[.val (.ref a), .val (.ref ca), .val (.int (0 : Int32)), .val (.int (5 : Int32)), .val .null, .unset] [(.int cz)]))
  refine own_up (fun tx kx => XS.ifNo X12.here hx rfl (hb hby d13_30) rfl ((if0 _ _).trans (feq hcz).1) kx) ?_
  show OwnOk p e below _ (T12.setTop (mkF m 33 #[.val (.ref a), .val (.ref ca), .val (.int (0 : Int32)), .val (.int (5 : Int32)), .val .null, .unset] []))
  refine own_up (fun tx kx => XS.aloadN X12.here hx rfl (hb hby d13_33) rfl rfl kx) ?_
  show OwnOk p e below _ (T12.setTop (mkF m 34 #[.val (.ref a), .val (.ref ca), .val (.int (0 : Int32)), .val (.int (5 : Int32)), .val .null, .unset] [(.ref ca)]))
  refine own_up (fun tx kx => XS.iloadN X12.here hx rfl (hb hby d13_34) rfl kx) ?_
  show OwnOk p e below _ (T12.setTop (mkF m 35 #[.val (.ref a), .val (.ref ca), .val (.int (0 : Int32)), .val (.int (5 : Int32)), .val .null, .unset] [(.int (0 : Int32)), (.ref ca)]))
  refine own_up (fun tx kx => XS.iloadN X12.here hx rfl (hb hby d13_35) rfl kx) ?_
  show OwnOk p e below _ (T12.setTop (mkF m 36 #[.val (.ref a), .val (.ref ca), .val (.int (0 : Int32)), .val (.int (5 : Int32)), .val .null, .unset] [(.int (5 : Int32)), (.int (0 : Int32)), (.ref ca)]))
  refine own_callS X12 hx hZ (y := (⟨"java/lang/StringUTF16", "compress", "([CII)[B"⟩ : MethodName)) hown (wd_90 hw) (wd_91 hw) (wd_92 hw) (wd_93 hw) (by decide) (c_cmp4_5 l Z a0 hw ca kc x0 x1 x2 x3 x4 h0 n0 OL V_ca c0 c1 c2 c3 c4) e12 (argsL := [(.ref ca), (.int (0 : Int32)), (.int (5 : Int32))]) (rest := []) (by rw [hml]; rfl) (lenOf pd_6 rfl) rfl rfl (W := 0) rfl (hb hby d13_36) (by decide) (by decide) (by decide) (by decide) (fun T13 v13 L13 X13 hQ13 => ?_)
  obtain ⟨tt13, kt13, rfl, Nq13, Kq13, gt13, vt13⟩ := hQ13
  have N13 := Fr.app N0 Nq13
  have lt_a_tt13 : a < tt13 := Nat.lt_of_lt_of_le E_a.lt gt13
  have lt_ca_tt13 : ca < tt13 := Nat.lt_of_lt_of_le V_ca.lt gt13
  have n0_tt13 : n0 ≤ tt13 := Nat.le_trans (own_n0 OL) gt13
  have ws_tt13 : h0.size ≤ tt13 := Nat.le_trans KP0.1 gt13
  have OL13 := OL.keep Kq13 all0
  have KP13 := KP0.trans Kq13 all0
  show OwnOk p e below _ (T13.setTop (mkF m 39 #[.val (.ref a), .val (.ref ca), .val (.int (0 : Int32)), .val (.int (5 : Int32)), .val .null, .unset] [(.ref tt13)]))
  refine own_up (fun tx kx => XS.astore X13.here hx rfl (hb hby d13_39) rfl rfl (l' := #[.val (.ref a), .val (.ref ca), .val (.int (0 : Int32)), .val (.int (5 : Int32)), .val .null, .val (.ref tt13)]) rfl kx) ?_
  show OwnOk p e below _ (T13.setTop (mkF m 41 #[.val (.ref a), .val (.ref ca), .val (.int (0 : Int32)), .val (.int (5 : Int32)), .val .null, .val (.ref tt13)] []))
  refine own_up (fun tx kx => XS.aloadN X13.here hx rfl (hb hby d13_41) rfl rfl kx) ?_
  show OwnOk p e below _ (T13.setTop (mkF m 42 #[.val (.ref a), .val (.ref ca), .val (.int (0 : Int32)), .val (.int (5 : Int32)), .val .null, .val (.ref tt13)] [(.ref a)]))
  refine own_up (fun tx kx => XS.aload X13.here hx rfl (hb hby d13_42) rfl rfl kx) ?_
  show OwnOk p e below _ (T13.setTop (mkF m 44 #[.val (.ref a), .val (.ref ca), .val (.int (0 : Int32)), .val (.int (5 : Int32)), .val .null, .val (.ref tt13)] [(.ref tt13), (.ref a)]))
  refine own_up (fun tx kx => XS.iloadN X13.here hx rfl (hb hby d13_44) rfl kx) ?_
  show OwnOk p e below _ (T13.setTop (mkF m 45 #[.val (.ref a), .val (.ref ca), .val (.int (0 : Int32)), .val (.int (5 : Int32)), .val .null, .val (.ref tt13)] [(.int (5 : Int32)), (.ref tt13), (.ref a)]))
  refine own_callS X13 hx hZ (y := (⟨"java/lang/StringUTF16", "coderFromArrayLen", "([BI)B"⟩ : MethodName)) hown (wd_97 hw) (wd_98 hw) (wd_92 hw) (wd_99 hw) (by decide) (c_coder_5 l Z a0 hw tt13 kt13 x0 x1 x2 x3 x4 T13.heap n0 OL13 vt13) rfl (argsL := [(.ref tt13), (.int (5 : Int32))]) (rest := [(.ref a)]) (by rw [hml]; rfl) (lenOf pd_7 rfl) rfl rfl (W := 1) rfl (hb hby d13_45) (by decide) (by decide) (by decide) (by decide) (fun T14 v14 L14 X14 hQ14 => ?_)
  obtain ⟨rfl, Nq14, hh14⟩ := hQ14
  have N14 := Fr.app N13 Nq14
  show OwnOk p e below _ (T14.setTop (mkF m 48 #[.val (.ref a), .val (.ref ca), .val (.int (0 : Int32)), .val (.int (5 : Int32)), .val .null, .val (.ref tt13)] [(.int (0 : Int32)), (.ref a)]))
  have F_coder_a_15 := (F_coder_a.keep Kq13 nin0)
  have E_a_16 := (E_a.keep Kq13)
  obtain ⟨T17, h17, X17, e17, W17, st17⟩ := putFN X14 hx hZ hown (wd_25 hw) Via.refl hh14 F_coder_a_15 E_a_16 (Or.inr ⟨(wd_6 hw), rfl, hnm⟩) (wd_3 hw) (ty := .byte) (v := (.int (0 : Int32))) (v' := (.int (0 : Int32))) (by decide) (by decide) (by decide) (g := (mkF m 48 #[.val (.ref a), .val (.ref ca), .val (.int (0 : Int32)), .val (.int (5 : Int32)), .val .null, .val (.ref tt13)] [(.int (0 : Int32)), (.ref a)])) rfl rfl (hb hby d13_48)
  have Fw17 := Fld.same W17 F_coder_a_15
  have N17 := Fr.snoc X17 N14 n0_a
  have OL18 := OL13.wr W17 n0_a
  have KP18 := KP13.wr W17 (Or.inl (List.mem_of_getElem? (i := 0) rfl))
  refine own_up st17 ?_
  show OwnOk p e below _ (T17.setTop (mkF m 51 #[.val (.ref a), .val (.ref ca), .val (.int (0 : Int32)), .val (.int (5 : Int32)), .val .null, .val (.ref tt13)] []))
  refine own_up (fun tx kx => XS.aloadN X17.here hx rfl (hb hby d13_51) rfl rfl kx) ?_
  show OwnOk p e below _ (T17.setTop (mkF m 52 #[.val (.ref a), .val (.ref ca), .val (.int (0 : Int32)), .val (.int (5 : Int32)), .val .null, .val (.ref tt13)] [(.ref a)]))
  refine own_up (fun tx kx => XS.aload X17.here hx rfl (hb hby d13_52) rfl rfl kx) ?_
  show OwnOk p e below _ (T17.setTop (mkF m 54 #[.val (.ref a), .val (.ref ca), .val (.int (0 : Int32)), .val (.int (5 : Int32)), .val .null, .val (.ref tt13)] [(.ref tt13), (.ref a)]))
  have F_value_a_19 := ((F_value_a.keep Kq13 nin0).other W17 (Or.inr (slot_ne (Or.inr (wd_5 hw)) (Or.inr (wd_6 hw)) (by decide) (t := (.array .byte)) (t' := .byte) (by decide) (by decide))))
  have E_a_20 := (E_a_16.wr W17)
  obtain ⟨T21, h21, X21, e21, W21, st21⟩ := putF X17 hx hZ hown (host := "") (Or.inl (wd_26 hw)) Via.refl e17 F_value_a_19 E_a_20 (Or.inr ⟨(wd_5 hw), rfl, hnm⟩) (wd_3 hw) (ty := (.array .byte)) (by decide) rfl rfl (g := (mkF m 54 #[.val (.ref a), .val (.ref ca), .val (.int (0 : Int32)), .val (.int (5 : Int32)), .val .null, .val (.ref tt13)] [(.ref tt13), (.ref a)])) rfl rfl (hb hby d13_54)
  have Fw21 := Fld.same W21 F_value_a_19
  have N21 := Fr.snoc X21 N17 n0_a
  have OL22 := OL18.wr W21 n0_a
  have KP22 := KP18.wr W21 (Or.inl (List.mem_of_getElem? (i := 0) rfl))
  refine own_up st21 ?_
  show OwnOk p e below _ (T21.setTop (mkF m 57 #[.val (.ref a), .val (.ref ca), .val (.int (0 : Int32)), .val (.int (5 : Int32)), .val .null, .val (.ref tt13)] []))
  have E_a_23 := (E_a_20.wr W21)
  have F_coder_a_24 := (Fw17.other W21 (Or.inr (slot_ne (Or.inr (wd_6 hw)) (Or.inr (wd_5 hw)) (by decide) (t := .byte) (t' := (.array .byte)) (by decide) (by decide))))
  have V_tt13_25 := ((vt13.other W17 (Nat.ne_of_gt lt_a_tt13)).other W21 (Nat.ne_of_gt lt_a_tt13))
  refine own_retV X21 hx (show meth.sig.returnType = none from hret) hlk (hb hby d13_57) e21 (Nat.le_of_ble_eq_true rfl) (Nat.le_of_ble_eq_true rfl) ?_
  exact ⟨rfl, N21, KP22, tt13, _, ws_tt13, E_a_23, Fw21, F_coder_a_24, V_tt13_25⟩
def Q_c_init1_5 (Z : State) (a : Addr) (x0 x1 x2 x3 x4 : Int32) (h0 : Heap) (n0 : Nat) (v : Option Value) (h : Heap) (L : List Loc) : Prop := v = none ∧ Fr n0 L ∧ Keep h0 h [a] ∧ ∃ (u : Addr) (ku : ClassId), h0.size ≤ u ∧ (Exa Z h a "java/lang/String") ∧ (Fld Z h a "java/lang/String" "value" "[B" (.ref u)) ∧ (Fld Z h a "java/lang/String" "coder" "B" (.int (0 : Int32))) ∧ (Arv Z h u ku .byte (Int32.ofNat 5) (own_F 5 (fun j => [(nar .byte (x0.toInt8.toInt32)), (nar .byte (x1.toInt8.toInt32)), (nar .byte (x2.toInt8.toInt32)), (nar .byte (x3.toInt8.toInt32)), (nar .byte (x4.toInt8.toInt32))].getD j 0)) (.int (0 : Int32)))
set_option maxRecDepth 65536 in
set_option maxHeartbeats 40000000 in
theorem c_init1_5 (l : Launch) (Z : State) (a0 : Array Value) (hw : ∀ d ∈ tables_1, d.before a0 Z = true) (a ca : Addr) (kc : ClassId) (x0 x1 x2 x3 x4 : Int32) (cz : Int32) (h0 : Heap) (n0 : Nat) (OL : Old Z n0 h0) (SC : Sta Z Z.heap "java/lang/String" "COMPACT_STRINGS" "Z" (.int cz)) (hcz : ¬ cz = 0) (E_a : Exa Z h0 a "java/lang/String") (F_value_a : Fld Z h0 a "java/lang/String" "value" "[B" .null) (F_coder_a : Fld Z h0 a "java/lang/String" "coder" "B" (.int (0 : Int32))) (n0_a : n0 ≤ a) (V_ca : Arv Z h0 ca kc .char (5 : Int32) [(.int x0), (.int x1), (.int x2), (.int x3), (.int x4)] (.int (0 : Int32))) (ne_a_ca : a ≠ ca) (c0 : ¬ (255 : Int32) < x0) (c1 : ¬ (255 : Int32) < x1) (c2 : ¬ (255 : Int32) < x2) (c3 : ¬ (255 : Int32) < x3) (c4 : ¬ (255 : Int32) < x4) :
    own_Met l Z (⟨"java/lang/String", "<init>", "([C)V"⟩ : MethodName) jdk_42_method_3_code 2 none ({ frames := 3, cells := 1, slots := 5, locals := 65 } : Room) #[(.ref a), (.ref ca)] h0 (Q_c_init1_5 Z a x0 x1 x2 x3 x4 h0 n0) := by
  refine own_body (L0 := #[.val (.ref a), .val (.ref ca)]) (plainFor_of_name (by first | (simp [plainName, overriddenIn]; done) | decide +kernel)) (fun m => by first | (simp [entryFrame, mkF, argsToLocals, Value.category]; done) | rfl) ?_
  intro p e s m below meth c s₁ hx hby hml hZ hown hnm hret hlk X0 e0
  have N0 := Fr.nil n0
  have Z0 : n0 ≤ h0.size := OL.1 ▸ OL.2.1
  show OwnOk p e below _ (s₁.setTop (mkF m 0 #[.val (.ref a), .val (.ref ca)] []))
  have KP0 : Keep h0 h0 [a] := Keep.refl h0 _
  refine own_up (fun tx kx => XS.aloadN X0.here hx rfl (hb hby d12_0) rfl rfl kx) ?_
  show OwnOk p e below _ (s₁.setTop (mkF m 1 #[.val (.ref a), .val (.ref ca)] [(.ref a)]))
  refine own_up (fun tx kx => XS.aloadN X0.here hx rfl (hb hby d12_1) rfl rfl kx) ?_
  show OwnOk p e below _ (s₁.setTop (mkF m 2 #[.val (.ref a), .val (.ref ca)] [(.ref ca), (.ref a)]))
  refine own_up (fun tx kx => XS.iconst X0.here hx rfl (hb hby d12_2) kx) ?_
  show OwnOk p e below _ (s₁.setTop (mkF m 3 #[.val (.ref a), .val (.ref ca)] [(.int (0 : Int32)), (.ref ca), (.ref a)]))
  refine own_up (fun tx kx => XS.aloadN X0.here hx rfl (hb hby d12_3) rfl rfl kx) ?_
  show OwnOk p e below _ (s₁.setTop (mkF m 4 #[.val (.ref a), .val (.ref ca)] [(.ref ca), (.int (0 : Int32)), (.ref ca), (.ref a)]))
  obtain ⟨cl11, Ar11, qc11, Sz11, Nn11, Hs11, Gf11⟩ := id V_ca
  have hlen11 : cl11.slots.size.toInt32 = (5 : Int32) := len_of Sz11 Nn11
  refine own_up (fun tx kx => X0.arraylength hx (own_ar e0 Ar11.1) (State.isArrayOf_alike hZ.alike Ar11.2.1) (g := (mkF m 4 #[.val (.ref a), .val (.ref ca)] [(.ref ca), (.int (0 : Int32)), (.ref ca), (.ref a)])) rfl rfl (hb hby d12_4) _ kx) ?_
  rw [hlen11]
  show OwnOk p e below _ (s₁.setTop (mkF m 5 #[.val (.ref a), .val (.ref ca)] [(.int (5 : Int32)), (.int (0 : Int32)), (.ref ca), (.ref a)]))
  refine own_up (fun tx kx => XS.aconstNull X0.here hx rfl (hb hby d12_5) kx) ?_
  show OwnOk p e below _ (s₁.setTop (mkF m 6 #[.val (.ref a), .val (.ref ca)] [.null, (.int (5 : Int32)), (.int (0 : Int32)), (.ref ca), (.ref a)]))
  refine own_callC X0 hx hZ (y := (⟨"java/lang/String", "<init>", "([CIILjava/lang/Void;)V"⟩ : MethodName)) rfl hown (wd_84 hw) (wd_85 hw) (wd_2 hw) (wd_86 hw) (by decide) (c_init2_5 l Z a0 hw a ca kc x0 x1 x2 x3 x4 cz h0 n0 OL SC hcz E_a F_value_a F_coder_a n0_a V_ca ne_a_ca c0 c1 c2 c3 c4) e0 (argsL := [(.ref ca), (.int (0 : Int32)), (.int (5 : Int32)), .null]) (rest := []) (a := a) (by rw [hml]; rfl) (lenOf pd_8 rfl) rfl rfl (W := 0) rfl (hb hby d12_6) (by decide) (by decide) (by decide) (by decide) (fun T12 v12 L12 X12 hQ12 => ?_)
  obtain ⟨rfl, Nq12, Kq12, uu12, ku12, gu12, ea12, fv12, fc12, vu12⟩ := hQ12
  have N12 := Fr.app N0 Nq12
  have OL12 := OL.keep Kq12 (allS n0_a all0)
  have KP12 := KP0.trans Kq12 (allS (Or.inl (List.mem_of_getElem? (i := 0) rfl)) all0)
  show OwnOk p e below _ (T12.setTop (mkF m 9 #[.val (.ref a), .val (.ref ca)] []))
  refine own_retV X12 hx (show meth.sig.returnType = none from hret) hlk (hb hby d12_9) rfl (Nat.le_of_ble_eq_true rfl) (Nat.le_of_ble_eq_true rfl) ?_
  exact ⟨rfl, N12, KP12, uu12, ku12, gu12, ea12, fv12, fc12, vu12⟩
def Q_c_cmp5_6 (Z : State) (t : Addr) (kt : ClassId) (x0 x1 x2 x3 x4 x5 : Int32) (h0 : Heap) (n0 : Nat) (v : Option Value) (h : Heap) (L : List Loc) : Prop := v = some (.int (6 : Int32)) ∧ Fr n0 L ∧ Keep h0 h [t] ∧ Arv Z h t kt .byte (6 : Int32) [(.int (nar .byte (x0.toInt8.toInt32))), (.int (nar .byte (x1.toInt8.toInt32))), (.int (nar .byte (x2.toInt8.toInt32))), (.int (nar .byte (x3.toInt8.toInt32))), (.int (nar .byte (x4.toInt8.toInt32))), (.int (nar .byte (x5.toInt8.toInt32)))] (.int (0 : Int32))
set_option maxRecDepth 65536 in
set_option maxHeartbeats 40000000 in
theorem c_cmp5_6 (l : Launch) (Z : State) (a0 : Array Value) (hw : ∀ d ∈ tables_1, d.before a0 Z = true) (ca t : Addr) (kc kt : ClassId) (x0 x1 x2 x3 x4 x5 : Int32) (h0 : Heap) (n0 : Nat) (OL : Old Z n0 h0) (V_ca : Arv Z h0 ca kc .char (6 : Int32) [(.int x0), (.int x1), (.int x2), (.int x3), (.int x4), (.int x5)] (.int (0 : Int32))) (V_t : Arv Z h0 t kt .byte (6 : Int32) [(.int (0 : Int32)), (.int (0 : Int32)), (.int (0 : Int32)), (.int (0 : Int32)), (.int (0 : Int32)), (.int (0 : Int32))] (.int (0 : Int32))) (n0_t : n0 ≤ t) (ne_ca_t : ca ≠ t) (c0 : ¬ (255 : Int32) < x0) (c1 : ¬ (255 : Int32) < x1) (c2 : ¬ (255 : Int32) < x2) (c3 : ¬ (255 : Int32) < x3) (c4 : ¬ (255 : Int32) < x4) (c5 : ¬ (255 : Int32) < x5) :
    own_Met l Z (⟨"java/lang/StringUTF16", "compress", "([CI[BII)I"⟩ : MethodName) jdk_52_method_21_code 7 (some .int) ({ frames := 0, cells := 0, slots := 0, locals := 0 } : Room) #[(.ref ca), (.int (0 : Int32)), (.ref t), (.int (0 : Int32)), (.int (6 : Int32))] h0 (Q_c_cmp5_6 Z t kt x0 x1 x2 x3 x4 x5 h0 n0) := by
  refine own_body (L0 := #[.val (.ref ca), .val (.int (0 : Int32)), .val (.ref t), .val (.int (0 : Int32)), .val (.int (6 : Int32)), .unset, .unset]) (plainFor_of_name (by first | (simp [plainName, overriddenIn]; done) | decide +kernel)) (fun m => by first | (simp [entryFrame, mkF, argsToLocals, Value.category]; done) | rfl) ?_
  intro p e s m below meth c s₁ hx hby hml hZ hown hnm hret hlk X0 e0
  have N0 := Fr.nil n0
  have Z0 : n0 ≤ h0.size := OL.1 ▸ OL.2.1
  show OwnOk p e below _ (s₁.setTop (mkF m 0 #[.val (.ref ca), .val (.int (0 : Int32)), .val (.ref t), .val (.int (0 : Int32)), .val (.int (6 : Int32)), .unset, .unset] []))
  have KP0 : Keep h0 h0 [t] := Keep.refl h0 _
  refine own_up (fun tx kx => XS.iconst X0.here hx rfl (hb hby d16_0) kx) ?_
  show OwnOk p e below _ (s₁.setTop (mkF m 1 #[.val (.ref ca), .val (.int (0 : Int32)), .val (.ref t), .val (.int (0 : Int32)), .val (.int (6 : Int32)), .unset, .unset] [(.int (0 : Int32))]))
  refine own_up (fun tx kx => XS.istore X0.here hx rfl (hb hby d16_1) rfl (l' := #[.val (.ref ca), .val (.int (0 : Int32)), .val (.ref t), .val (.int (0 : Int32)), .val (.int (6 : Int32)), .val (.int (0 : Int32)), .unset]) rfl kx) ?_
  show OwnOk p e below _ (s₁.setTop (mkF m 3 #[.val (.ref ca), .val (.int (0 : Int32)), .val (.ref t), .val (.int (0 : Int32)), .val (.int (6 : Int32)), .val (.int (0 : Int32)), .unset] []))
  refine own_up (fun tx kx => XS.iload X0.here hx rfl (hb hby d16_3) rfl kx) ?_
  show OwnOk p e below _ (s₁.setTop (mkF m 5 #[.val (.ref ca), .val (.int (0 : Int32)), .val (.ref t), .val (.int (0 : Int32)), .val (.int (6 : Int32)), .val (.int (0 : Int32)), .unset] [(.int (0 : Int32))]))
  refine own_up (fun tx kx => XS.iload X0.here hx rfl (hb hby d16_5) rfl kx) ?_
  show OwnOk p e below _ (s₁.setTop (mkF m 7 #[.val (.ref ca), .val (.int (0 : Int32)), .val (.ref t), .val (.int (0 : Int32)), .val (.int (6 : Int32)), .val (.int (0 : Int32)), .unset] [(.int (6 : Int32)), (.int (0 : Int32))]))
  refine own_up (fun tx kx => XS.icmpNo X0.here hx rfl (hb hby d16_7) rfl (tlt (by decide)).2.1 kx) ?_
  show OwnOk p e below _ (s₁.setTop (mkF m 10 #[.val (.ref ca), .val (.int (0 : Int32)), .val (.ref t), .val (.int (0 : Int32)), .val (.int (6 : Int32)), .val (.int (0 : Int32)), .unset] []))
  refine own_up (fun tx kx => XS.aloadN X0.here hx rfl (hb hby d16_10) rfl rfl kx) ?_
  show OwnOk p e below _ (s₁.setTop (mkF m 11 #[.val (.ref ca), .val (.int (0 : Int32)), .val (.ref t), .val (.int (0 : Int32)), .val (.int (6 : Int32)), .val (.int (0 : Int32)), .unset] [(.ref ca)]))
  refine own_up (fun tx kx => XS.iloadN X0.here hx rfl (hb hby d16_11) rfl kx) ?_
  show OwnOk p e below _ (s₁.setTop (mkF m 12 #[.val (.ref ca), .val (.int (0 : Int32)), .val (.ref t), .val (.int (0 : Int32)), .val (.int (6 : Int32)), .val (.int (0 : Int32)), .unset] [(.int (0 : Int32)), (.ref ca)]))
  obtain ⟨cl11, Ar11, qc11, Sz11, Nn11, Hs11, Gf11⟩ := id V_ca
  have hin11 : ¬ ((0 : Int32) < 0 ∨ cl11.slots.size ≤ ((0 : Int32)).toNatClampNeg) := inb_of Sz11 ⟨by decide, by decide⟩
  have hat11 : cl11.slots[((0 : Int32)).toNatClampNeg]? = some (.int x0) := Hs11.at hin11 rfl
  refine own_up (fun tx kx => X0.caload hx (j := (0 : Int32)) (v := (.int x0)) (own_ar e0 Ar11.1) (State.isArrayOf_alike hZ.alike Ar11.2.1) Ar11.2.2 hin11 hat11 (g := (mkF m 12 #[.val (.ref ca), .val (.int (0 : Int32)), .val (.ref t), .val (.int (0 : Int32)), .val (.int (6 : Int32)), .val (.int (0 : Int32)), .unset] [(.int (0 : Int32)), (.ref ca)])) rfl rfl (hb hby d16_12) _ kx) ?_
  show OwnOk p e below _ (s₁.setTop (mkF m 13 #[.val (.ref ca), .val (.int (0 : Int32)), .val (.ref t), .val (.int (0 : Int32)), .val (.int (6 : Int32)), .val (.int (0 : Int32)), .unset] [(.int x0)]))
  refine own_up (fun tx kx => XS.istore X0.here hx rfl (hb hby d16_13) rfl (l' := #[.val (.ref ca), .val (.int (0 : Int32)), .val (.ref t), .val (.int (0 : Int32)), .val (.int (6 : Int32)), .val (.int (0 : Int32)), .val (.int x0)]) rfl kx) ?_
  show OwnOk p e below _ (s₁.setTop (mkF m 15 #[.val (.ref ca), .val (.int (0 : Int32)), .val (.ref t), .val (.int (0 : Int32)), .val (.int (6 : Int32)), .val (.int (0 : Int32)), .val (.int x0)] []))
  refine own_up (fun tx kx => XS.iload X0.here hx rfl (hb hby d16_15) rfl kx) ?_
  show OwnOk p e below _ (s₁.setTop (mkF m 17 #[.val (.ref ca), .val (.int (0 : Int32)), .val (.ref t), .val (.int (0 : Int32)), .val (.int (6 : Int32)), .val (.int (0 : Int32)), .val (.int x0)] [(.int x0)]))
  refine own_up (fun tx kx => XS.sipush X0.here hx rfl (hb hby d16_17) kx) ?_
  show OwnOk p e below _ (s₁.setTop (mkF m 20 #[.val (.ref ca), .val (.int (0 : Int32)), .val (.ref t), .val (.int (0 : Int32)), .val (.int (6 : Int32)), .val (.int (0 : Int32)), .val (.int x0)] [(.int (255 : Int32)), (.int x0)]))
  refine own_up (fun tx kx => XS.icmpYes X0.here hx rfl (pc0 := 20) (pc' := 26) rfl (hb hby d16_20) rfl (flt c0).2.2.2 (by decide) (by decide) kx) ?_
  show OwnOk p e below _ (s₁.setTop (mkF m 26 #[.val (.ref ca), .val (.int (0 : Int32)), .val (.ref t), .val (.int (0 : Int32)), .val (.int (6 : Int32)), .val (.int (0 : Int32)), .val (.int x0)] []))
  refine own_up (fun tx kx => XS.aloadN X0.here hx rfl (hb hby d16_26) rfl rfl kx) ?_
  show OwnOk p e below _ (s₁.setTop (mkF m 27 #[.val (.ref ca), .val (.int (0 : Int32)), .val (.ref t), .val (.int (0 : Int32)), .val (.int (6 : Int32)), .val (.int (0 : Int32)), .val (.int x0)] [(.ref t)]))
  refine own_up (fun tx kx => XS.iloadN X0.here hx rfl (hb hby d16_27) rfl kx) ?_
  show OwnOk p e below _ (s₁.setTop (mkF m 28 #[.val (.ref ca), .val (.int (0 : Int32)), .val (.ref t), .val (.int (0 : Int32)), .val (.int (6 : Int32)), .val (.int (0 : Int32)), .val (.int x0)] [(.int (0 : Int32)), (.ref t)]))
  refine own_up (fun tx kx => XS.iload X0.here hx rfl (hb hby d16_28) rfl kx) ?_
  show OwnOk p e below _ (s₁.setTop (mkF m 30 #[.val (.ref ca), .val (.int (0 : Int32)), .val (.ref t), .val (.int (0 : Int32)), .val (.int (6 : Int32)), .val (.int (0 : Int32)), .val (.int x0)] [(.int x0), (.int (0 : Int32)), (.ref t)]))
  refine own_up (fun tx kx => XS.i2b X0.here hx rfl (hb hby d16_30) rfl kx) ?_
  show OwnOk p e below _ (s₁.setTop (mkF m 31 #[.val (.ref ca), .val (.int (0 : Int32)), .val (.ref t), .val (.int (0 : Int32)), .val (.int (6 : Int32)), .val (.int (0 : Int32)), .val (.int x0)] [(.int (x0.toInt8.toInt32)), (.int (0 : Int32)), (.ref t)]))
  obtain ⟨cl12, Ar12, qc12, Sz12, Nn12, Hs12, Gf12⟩ := id V_t
  have hin12 : ¬ ((0 : Int32) < 0 ∨ cl12.slots.size ≤ ((0 : Int32)).toNatClampNeg) := inb_of Sz12 ⟨by decide, by decide⟩
  obtain ⟨T13, h13, X13, e13, W13, st13⟩ := stB X0 hx hZ e0 Ar12 (j := (0 : Int32)) hin12 (g := (mkF m 31 #[.val (.ref ca), .val (.int (0 : Int32)), .val (.ref t), .val (.int (0 : Int32)), .val (.int (6 : Int32)), .val (.int (0 : Int32)), .val (.int x0)] [(.int (x0.toInt8.toInt32)), (.int (0 : Int32)), (.ref t)])) rfl rfl (hb hby d16_31)
  have V_t_13 : Arv Z h13 t kt .byte (6 : Int32) [(.int (nar .byte (x0.toInt8.toInt32))), (.int (0 : Int32)), (.int (0 : Int32)), (.int (0 : Int32)), (.int (0 : Int32)), (.int (0 : Int32))] (.int (0 : Int32)) := Arv.set Ar12 qc12 Sz12 Nn12 Hs12 Gf12 (fits_nar_byte _) W13 0 rfl (Nat.le_of_ble_eq_true rfl)
  have N13 := Fr.snoc X13 N0 n0_t
  have OL14 := OL.wr W13 n0_t
  have KP14 := KP0.wr W13 (Or.inl (List.mem_of_getElem? (i := 0) rfl))
  refine own_up st13 ?_
  show OwnOk p e below _ (T13.setTop (mkF m 32 #[.val (.ref ca), .val (.int (0 : Int32)), .val (.ref t), .val (.int (0 : Int32)), .val (.int (6 : Int32)), .val (.int (0 : Int32)), .val (.int x0)] []))
  have hi32_15 : ((0 : Int32) + (1 : Int32)) = (1 : Int32) := by decide
  refine own_up (fun tx kx => XS.iinc X13.here hx rfl (hb hby d16_32) rfl (l' := #[.val (.ref ca), .val (.int ((0 : Int32) + (1 : Int32))), .val (.ref t), .val (.int (0 : Int32)), .val (.int (6 : Int32)), .val (.int (0 : Int32)), .val (.int x0)]) rfl kx) ?_
  rw [hi32_15]
  show OwnOk p e below _ (T13.setTop (mkF m 35 #[.val (.ref ca), .val (.int (1 : Int32)), .val (.ref t), .val (.int (0 : Int32)), .val (.int (6 : Int32)), .val (.int (0 : Int32)), .val (.int x0)] []))
  have hi35_16 : ((0 : Int32) + (1 : Int32)) = (1 : Int32) := by decide
  refine own_up (fun tx kx => XS.iinc X13.here hx rfl (hb hby d16_35) rfl (l' := #[.val (.ref ca), .val (.int (1 : Int32)), .val (.ref t), .val (.int ((0 : Int32) + (1 : Int32))), .val (.int (6 : Int32)), .val (.int (0 : Int32)), .val (.int x0)]) rfl kx) ?_
  rw [hi35_16]
  show OwnOk p e below _ (T13.setTop (mkF m 38 #[.val (.ref ca), .val (.int (1 : Int32)), .val (.ref t), .val (.int (1 : Int32)), .val (.int (6 : Int32)), .val (.int (0 : Int32)), .val (.int x0)] []))
  have hi38_17 : ((0 : Int32) + (1 : Int32)) = (1 : Int32) := by decide
  refine own_up (fun tx kx => XS.iinc X13.here hx rfl (hb hby d16_38) rfl (l' := #[.val (.ref ca), .val (.int (1 : Int32)), .val (.ref t), .val (.int (1 : Int32)), .val (.int (6 : Int32)), .val (.int ((0 : Int32) + (1 : Int32))), .val (.int x0)]) rfl kx) ?_
  rw [hi38_17]
  show OwnOk p e below _ (T13.setTop (mkF m 41 #[.val (.ref ca), .val (.int (1 : Int32)), .val (.ref t), .val (.int (1 : Int32)), .val (.int (6 : Int32)), .val (.int (1 : Int32)), .val (.int x0)] []))
  refine own_up (fun tx kx => XS.goto X13.here hx rfl (pc0 := 41) (pc' := 3) rfl (hb hby d16_41) (by decide) (by decide) kx) ?_
  show OwnOk p e below _ (T13.setTop (mkF m 3 #[.val (.ref ca), .val (.int (1 : Int32)), .val (.ref t), .val (.int (1 : Int32)), .val (.int (6 : Int32)), .val (.int (1 : Int32)), .val (.int x0)] []))
  refine own_up (fun tx kx => XS.iload X13.here hx rfl (hb hby d16_3) rfl kx) ?_
  show OwnOk p e below _ (T13.setTop (mkF m 5 #[.val (.ref ca), .val (.int (1 : Int32)), .val (.ref t), .val (.int (1 : Int32)), .val (.int (6 : Int32)), .val (.int (1 : Int32)), .val (.int x0)] [(.int (1 : Int32))]))
  refine own_up (fun tx kx => XS.iload X13.here hx rfl (hb hby d16_5) rfl kx) ?_
  show OwnOk p e below _ (T13.setTop (mkF m 7 #[.val (.ref ca), .val (.int (1 : Int32)), .val (.ref t), .val (.int (1 : Int32)), .val (.int (6 : Int32)), .val (.int (1 : Int32)), .val (.int x0)] [(.int (6 : Int32)), (.int (1 : Int32))]))
  refine own_up (fun tx kx => XS.icmpNo X13.here hx rfl (hb hby d16_7) rfl (tlt (by decide)).2.1 kx) ?_
  show OwnOk p e below _ (T13.setTop (mkF m 10 #[.val (.ref ca), .val (.int (1 : Int32)), .val (.ref t), .val (.int (1 : Int32)), .val (.int (6 : Int32)), .val (.int (1 : Int32)), .val (.int x0)] []))
  refine own_up (fun tx kx => XS.aloadN X13.here hx rfl (hb hby d16_10) rfl rfl kx) ?_
  show OwnOk p e below _ (T13.setTop (mkF m 11 #[.val (.ref ca), .val (.int (1 : Int32)), .val (.ref t), .val (.int (1 : Int32)), .val (.int (6 : Int32)), .val (.int (1 : Int32)), .val (.int x0)] [(.ref ca)]))
  refine own_up (fun tx kx => XS.iloadN X13.here hx rfl (hb hby d16_11) rfl kx) ?_
  show OwnOk p e below _ (T13.setTop (mkF m 12 #[.val (.ref ca), .val (.int (1 : Int32)), .val (.ref t), .val (.int (1 : Int32)), .val (.int (6 : Int32)), .val (.int (1 : Int32)), .val (.int x0)] [(.int (1 : Int32)), (.ref ca)]))
  have V_ca_18 := (V_ca.other W13 ne_ca_t)
  obtain ⟨cl19, Ar19, qc19, Sz19, Nn19, Hs19, Gf19⟩ := id V_ca_18
  have hin19 : ¬ ((1 : Int32) < 0 ∨ cl19.slots.size ≤ ((1 : Int32)).toNatClampNeg) := inb_of Sz19 ⟨by decide, by decide⟩
  have hat19 : cl19.slots[((1 : Int32)).toNatClampNeg]? = some (.int x1) := Hs19.at hin19 rfl
  refine own_up (fun tx kx => X13.caload hx (j := (1 : Int32)) (v := (.int x1)) (own_ar e13 Ar19.1) (State.isArrayOf_alike hZ.alike Ar19.2.1) Ar19.2.2 hin19 hat19 (g := (mkF m 12 #[.val (.ref ca), .val (.int (1 : Int32)), .val (.ref t), .val (.int (1 : Int32)), .val (.int (6 : Int32)), .val (.int (1 : Int32)), .val (.int x0)] [(.int (1 : Int32)), (.ref ca)])) rfl rfl (hb hby d16_12) _ kx) ?_
  show OwnOk p e below _ (T13.setTop (mkF m 13 #[.val (.ref ca), .val (.int (1 : Int32)), .val (.ref t), .val (.int (1 : Int32)), .val (.int (6 : Int32)), .val (.int (1 : Int32)), .val (.int x0)] [(.int x1)]))
  refine own_up (fun tx kx => XS.istore X13.here hx rfl (hb hby d16_13) rfl (l' := #[.val (.ref ca), .val (.int (1 : Int32)), .val (.ref t), .val (.int (1 : Int32)), .val (.int (6 : Int32)), .val (.int (1 : Int32)), .val (.int x1)]) rfl kx) ?_
  show OwnOk p e below _ (T13.setTop (mkF m 15 #[.val (.ref ca), .val (.int (1 : Int32)), .val (.ref t), .val (.int (1 : Int32)), .val (.int (6 : Int32)), .val (.int (1 : Int32)), .val (.int x1)] []))
  refine own_up (fun tx kx => XS.iload X13.here hx rfl (hb hby d16_15) rfl kx) ?_
  show OwnOk p e below _ (T13.setTop (mkF m 17 #[.val (.ref ca), .val (.int (1 : Int32)), .val (.ref t), .val (.int (1 : Int32)), .val (.int (6 : Int32)), .val (.int (1 : Int32)), .val (.int x1)] [(.int x1)]))
  refine own_up (fun tx kx => XS.sipush X13.here hx rfl (hb hby d16_17) kx) ?_
  show OwnOk p e below _ (T13.setTop (mkF m 20 #[.val (.ref ca), .val (.int (1 : Int32)), .val (.ref t), .val (.int (1 : Int32)), .val (.int (6 : Int32)), .val (.int (1 : Int32)), .val (.int x1)] [(.int (255 : Int32)), (.int x1)]))
  refine own_up (fun tx kx => XS.icmpYes X13.here hx rfl (pc0 := 20) (pc' := 26) rfl (hb hby d16_20) rfl (flt c1).2.2.2 (by decide) (by decide) kx) ?_
  show OwnOk p e below _ (T13.setTop (mkF m 26 #[.val (.ref ca), .val (.int (1 : Int32)), .val (.ref t), .val (.int (1 : Int32)), .val (.int (6 : Int32)), .val (.int (1 : Int32)), .val (.int x1)] []))
  refine own_up (fun tx kx => XS.aloadN X13.here hx rfl (hb hby d16_26) rfl rfl kx) ?_
  show OwnOk p e below _ (T13.setTop (mkF m 27 #[.val (.ref ca), .val (.int (1 : Int32)), .val (.ref t), .val (.int (1 : Int32)), .val (.int (6 : Int32)), .val (.int (1 : Int32)), .val (.int x1)] [(.ref t)]))
  refine own_up (fun tx kx => XS.iloadN X13.here hx rfl (hb hby d16_27) rfl kx) ?_
  show OwnOk p e below _ (T13.setTop (mkF m 28 #[.val (.ref ca), .val (.int (1 : Int32)), .val (.ref t), .val (.int (1 : Int32)), .val (.int (6 : Int32)), .val (.int (1 : Int32)), .val (.int x1)] [(.int (1 : Int32)), (.ref t)]))
  refine own_up (fun tx kx => XS.iload X13.here hx rfl (hb hby d16_28) rfl kx) ?_
  show OwnOk p e below _ (T13.setTop (mkF m 30 #[.val (.ref ca), .val (.int (1 : Int32)), .val (.ref t), .val (.int (1 : Int32)), .val (.int (6 : Int32)), .val (.int (1 : Int32)), .val (.int x1)] [(.int x1), (.int (1 : Int32)), (.ref t)]))
  refine own_up (fun tx kx => XS.i2b X13.here hx rfl (hb hby d16_30) rfl kx) ?_
  show OwnOk p e below _ (T13.setTop (mkF m 31 #[.val (.ref ca), .val (.int (1 : Int32)), .val (.ref t), .val (.int (1 : Int32)), .val (.int (6 : Int32)), .val (.int (1 : Int32)), .val (.int x1)] [(.int (x1.toInt8.toInt32)), (.int (1 : Int32)), (.ref t)]))
  obtain ⟨cl20, Ar20, qc20, Sz20, Nn20, Hs20, Gf20⟩ := id V_t_13
  have hin20 : ¬ ((1 : Int32) < 0 ∨ cl20.slots.size ≤ ((1 : Int32)).toNatClampNeg) := inb_of Sz20 ⟨by decide, by decide⟩
  obtain ⟨T21, h21, X21, e21, W21, st21⟩ := stB X13 hx hZ e13 Ar20 (j := (1 : Int32)) hin20 (g := (mkF m 31 #[.val (.ref ca), .val (.int (1 : Int32)), .val (.ref t), .val (.int (1 : Int32)), .val (.int (6 : Int32)), .val (.int (1 : Int32)), .val (.int x1)] [(.int (x1.toInt8.toInt32)), (.int (1 : Int32)), (.ref t)])) rfl rfl (hb hby d16_31)
  have V_t_21 : Arv Z h21 t kt .byte (6 : Int32) [(.int (nar .byte (x0.toInt8.toInt32))), (.int (nar .byte (x1.toInt8.toInt32))), (.int (0 : Int32)), (.int (0 : Int32)), (.int (0 : Int32)), (.int (0 : Int32))] (.int (0 : Int32)) := Arv.set Ar20 qc20 Sz20 Nn20 Hs20 Gf20 (fits_nar_byte _) W21 1 rfl (Nat.le_of_ble_eq_true rfl)
  have N21 := Fr.snoc X21 N13 n0_t
  have OL22 := OL14.wr W21 n0_t
  have KP22 := KP14.wr W21 (Or.inl (List.mem_of_getElem? (i := 0) rfl))
  refine own_up st21 ?_
  show OwnOk p e below _ (T21.setTop (mkF m 32 #[.val (.ref ca), .val (.int (1 : Int32)), .val (.ref t), .val (.int (1 : Int32)), .val (.int (6 : Int32)), .val (.int (1 : Int32)), .val (.int x1)] []))
  have hi32_23 : ((1 : Int32) + (1 : Int32)) = (2 : Int32) := by decide
  refine own_up (fun tx kx => XS.iinc X21.here hx rfl (hb hby d16_32) rfl (l' := #[.val (.ref ca), .val (.int ((1 : Int32) + (1 : Int32))), .val (.ref t), .val (.int (1 : Int32)), .val (.int (6 : Int32)), .val (.int (1 : Int32)), .val (.int x1)]) rfl kx) ?_
  rw [hi32_23]
  show OwnOk p e below _ (T21.setTop (mkF m 35 #[.val (.ref ca), .val (.int (2 : Int32)), .val (.ref t), .val (.int (1 : Int32)), .val (.int (6 : Int32)), .val (.int (1 : Int32)), .val (.int x1)] []))
  have hi35_24 : ((1 : Int32) + (1 : Int32)) = (2 : Int32) := by decide
  refine own_up (fun tx kx => XS.iinc X21.here hx rfl (hb hby d16_35) rfl (l' := #[.val (.ref ca), .val (.int (2 : Int32)), .val (.ref t), .val (.int ((1 : Int32) + (1 : Int32))), .val (.int (6 : Int32)), .val (.int (1 : Int32)), .val (.int x1)]) rfl kx) ?_
  rw [hi35_24]
  show OwnOk p e below _ (T21.setTop (mkF m 38 #[.val (.ref ca), .val (.int (2 : Int32)), .val (.ref t), .val (.int (2 : Int32)), .val (.int (6 : Int32)), .val (.int (1 : Int32)), .val (.int x1)] []))
  have hi38_25 : ((1 : Int32) + (1 : Int32)) = (2 : Int32) := by decide
  refine own_up (fun tx kx => XS.iinc X21.here hx rfl (hb hby d16_38) rfl (l' := #[.val (.ref ca), .val (.int (2 : Int32)), .val (.ref t), .val (.int (2 : Int32)), .val (.int (6 : Int32)), .val (.int ((1 : Int32) + (1 : Int32))), .val (.int x1)]) rfl kx) ?_
  rw [hi38_25]
  show OwnOk p e below _ (T21.setTop (mkF m 41 #[.val (.ref ca), .val (.int (2 : Int32)), .val (.ref t), .val (.int (2 : Int32)), .val (.int (6 : Int32)), .val (.int (2 : Int32)), .val (.int x1)] []))
  refine own_up (fun tx kx => XS.goto X21.here hx rfl (pc0 := 41) (pc' := 3) rfl (hb hby d16_41) (by decide) (by decide) kx) ?_
  show OwnOk p e below _ (T21.setTop (mkF m 3 #[.val (.ref ca), .val (.int (2 : Int32)), .val (.ref t), .val (.int (2 : Int32)), .val (.int (6 : Int32)), .val (.int (2 : Int32)), .val (.int x1)] []))
  refine own_up (fun tx kx => XS.iload X21.here hx rfl (hb hby d16_3) rfl kx) ?_
  show OwnOk p e below _ (T21.setTop (mkF m 5 #[.val (.ref ca), .val (.int (2 : Int32)), .val (.ref t), .val (.int (2 : Int32)), .val (.int (6 : Int32)), .val (.int (2 : Int32)), .val (.int x1)] [(.int (2 : Int32))]))
  refine own_up (fun tx kx => XS.iload X21.here hx rfl (hb hby d16_5) rfl kx) ?_
  show OwnOk p e below _ (T21.setTop (mkF m 7 #[.val (.ref ca), .val (.int (2 : Int32)), .val (.ref t), .val (.int (2 : Int32)), .val (.int (6 : Int32)), .val (.int (2 : Int32)), .val (.int x1)] [(.int (6 : Int32)), (.int (2 : Int32))]))
  refine own_up (fun tx kx => XS.icmpNo X21.here hx rfl (hb hby d16_7) rfl (tlt (by decide)).2.1 kx) ?_
  show OwnOk p e below _ (T21.setTop (mkF m 10 #[.val (.ref ca), .val (.int (2 : Int32)), .val (.ref t), .val (.int (2 : Int32)), .val (.int (6 : Int32)), .val (.int (2 : Int32)), .val (.int x1)] []))
  refine own_up (fun tx kx => XS.aloadN X21.here hx rfl (hb hby d16_10) rfl rfl kx) ?_
  show OwnOk p e below _ (T21.setTop (mkF m 11 #[.val (.ref ca), .val (.int (2 : Int32)), .val (.ref t), .val (.int (2 : Int32)), .val (.int (6 : Int32)), .val (.int (2 : Int32)), .val (.int x1)] [(.ref ca)]))
  refine own_up (fun tx kx => XS.iloadN X21.here hx rfl (hb hby d16_11) rfl kx) ?_
  show OwnOk p e below _ (T21.setTop (mkF m 12 #[.val (.ref ca), .val (.int (2 : Int32)), .val (.ref t), .val (.int (2 : Int32)), .val (.int (6 : Int32)), .val (.int (2 : Int32)), .val (.int x1)] [(.int (2 : Int32)), (.ref ca)]))
  have V_ca_26 := (V_ca_18.other W21 ne_ca_t)
  obtain ⟨cl27, Ar27, qc27, Sz27, Nn27, Hs27, Gf27⟩ := id V_ca_26
  have hin27 : ¬ ((2 : Int32) < 0 ∨ cl27.slots.size ≤ ((2 : Int32)).toNatClampNeg) := inb_of Sz27 ⟨by decide, by decide⟩
  have hat27 : cl27.slots[((2 : Int32)).toNatClampNeg]? = some (.int x2) := Hs27.at hin27 rfl
  refine own_up (fun tx kx => X21.caload hx (j := (2 : Int32)) (v := (.int x2)) (own_ar e21 Ar27.1) (State.isArrayOf_alike hZ.alike Ar27.2.1) Ar27.2.2 hin27 hat27 (g := (mkF m 12 #[.val (.ref ca), .val (.int (2 : Int32)), .val (.ref t), .val (.int (2 : Int32)), .val (.int (6 : Int32)), .val (.int (2 : Int32)), .val (.int x1)] [(.int (2 : Int32)), (.ref ca)])) rfl rfl (hb hby d16_12) _ kx) ?_
  show OwnOk p e below _ (T21.setTop (mkF m 13 #[.val (.ref ca), .val (.int (2 : Int32)), .val (.ref t), .val (.int (2 : Int32)), .val (.int (6 : Int32)), .val (.int (2 : Int32)), .val (.int x1)] [(.int x2)]))
  refine own_up (fun tx kx => XS.istore X21.here hx rfl (hb hby d16_13) rfl (l' := #[.val (.ref ca), .val (.int (2 : Int32)), .val (.ref t), .val (.int (2 : Int32)), .val (.int (6 : Int32)), .val (.int (2 : Int32)), .val (.int x2)]) rfl kx) ?_
  show OwnOk p e below _ (T21.setTop (mkF m 15 #[.val (.ref ca), .val (.int (2 : Int32)), .val (.ref t), .val (.int (2 : Int32)), .val (.int (6 : Int32)), .val (.int (2 : Int32)), .val (.int x2)] []))
  refine own_up (fun tx kx => XS.iload X21.here hx rfl (hb hby d16_15) rfl kx) ?_
  show OwnOk p e below _ (T21.setTop (mkF m 17 #[.val (.ref ca), .val (.int (2 : Int32)), .val (.ref t), .val (.int (2 : Int32)), .val (.int (6 : Int32)), .val (.int (2 : Int32)), .val (.int x2)] [(.int x2)]))
  refine own_up (fun tx kx => XS.sipush X21.here hx rfl (hb hby d16_17) kx) ?_
  show OwnOk p e below _ (T21.setTop (mkF m 20 #[.val (.ref ca), .val (.int (2 : Int32)), .val (.ref t), .val (.int (2 : Int32)), .val (.int (6 : Int32)), .val (.int (2 : Int32)), .val (.int x2)] [(.int (255 : Int32)), (.int x2)]))
  refine own_up (fun tx kx => XS.icmpYes X21.here hx rfl (pc0 := 20) (pc' := 26) rfl (hb hby d16_20) rfl (flt c2).2.2.2 (by decide) (by decide) kx) ?_
  show OwnOk p e below _ (T21.setTop (mkF m 26 #[.val (.ref ca), .val (.int (2 : Int32)), .val (.ref t), .val (.int (2 : Int32)), .val (.int (6 : Int32)), .val (.int (2 : Int32)), .val (.int x2)] []))
  refine own_up (fun tx kx => XS.aloadN X21.here hx rfl (hb hby d16_26) rfl rfl kx) ?_
  show OwnOk p e below _ (T21.setTop (mkF m 27 #[.val (.ref ca), .val (.int (2 : Int32)), .val (.ref t), .val (.int (2 : Int32)), .val (.int (6 : Int32)), .val (.int (2 : Int32)), .val (.int x2)] [(.ref t)]))
  refine own_up (fun tx kx => XS.iloadN X21.here hx rfl (hb hby d16_27) rfl kx) ?_
  show OwnOk p e below _ (T21.setTop (mkF m 28 #[.val (.ref ca), .val (.int (2 : Int32)), .val (.ref t), .val (.int (2 : Int32)), .val (.int (6 : Int32)), .val (.int (2 : Int32)), .val (.int x2)] [(.int (2 : Int32)), (.ref t)]))
  refine own_up (fun tx kx => XS.iload X21.here hx rfl (hb hby d16_28) rfl kx) ?_
  show OwnOk p e below _ (T21.setTop (mkF m 30 #[.val (.ref ca), .val (.int (2 : Int32)), .val (.ref t), .val (.int (2 : Int32)), .val (.int (6 : Int32)), .val (.int (2 : Int32)), .val (.int x2)] [(.int x2), (.int (2 : Int32)), (.ref t)]))
  refine own_up (fun tx kx => XS.i2b X21.here hx rfl (hb hby d16_30) rfl kx) ?_
  show OwnOk p e below _ (T21.setTop (mkF m 31 #[.val (.ref ca), .val (.int (2 : Int32)), .val (.ref t), .val (.int (2 : Int32)), .val (.int (6 : Int32)), .val (.int (2 : Int32)), .val (.int x2)] [(.int (x2.toInt8.toInt32)), (.int (2 : Int32)), (.ref t)]))
  obtain ⟨cl28, Ar28, qc28, Sz28, Nn28, Hs28, Gf28⟩ := id V_t_21
  have hin28 : ¬ ((2 : Int32) < 0 ∨ cl28.slots.size ≤ ((2 : Int32)).toNatClampNeg) := inb_of Sz28 ⟨by decide, by decide⟩
  obtain ⟨T29, h29, X29, e29, W29, st29⟩ := stB X21 hx hZ e21 Ar28 (j := (2 : Int32)) hin28 (g := (mkF m 31 #[.val (.ref ca), .val (.int (2 : Int32)), .val (.ref t), .val (.int (2 : Int32)), .val (.int (6 : Int32)), .val (.int (2 : Int32)), .val (.int x2)] [(.int (x2.toInt8.toInt32)), (.int (2 : Int32)), (.ref t)])) rfl rfl (hb hby d16_31)
  have V_t_29 : Arv Z h29 t kt .byte (6 : Int32) [(.int (nar .byte (x0.toInt8.toInt32))), (.int (nar .byte (x1.toInt8.toInt32))), (.int (nar .byte (x2.toInt8.toInt32))), (.int (0 : Int32)), (.int (0 : Int32)), (.int (0 : Int32))] (.int (0 : Int32)) := Arv.set Ar28 qc28 Sz28 Nn28 Hs28 Gf28 (fits_nar_byte _) W29 2 rfl (Nat.le_of_ble_eq_true rfl)
  have N29 := Fr.snoc X29 N21 n0_t
  have OL30 := OL22.wr W29 n0_t
  have KP30 := KP22.wr W29 (Or.inl (List.mem_of_getElem? (i := 0) rfl))
  refine own_up st29 ?_
  show OwnOk p e below _ (T29.setTop (mkF m 32 #[.val (.ref ca), .val (.int (2 : Int32)), .val (.ref t), .val (.int (2 : Int32)), .val (.int (6 : Int32)), .val (.int (2 : Int32)), .val (.int x2)] []))
  have hi32_31 : ((2 : Int32) + (1 : Int32)) = (3 : Int32) := by decide
  refine own_up (fun tx kx => XS.iinc X29.here hx rfl (hb hby d16_32) rfl (l' := #[.val (.ref ca), .val (.int ((2 : Int32) + (1 : Int32))), .val (.ref t), .val (.int (2 : Int32)), .val (.int (6 : Int32)), .val (.int (2 : Int32)), .val (.int x2)]) rfl kx) ?_
  rw [hi32_31]
  show OwnOk p e below _ (T29.setTop (mkF m 35 #[.val (.ref ca), .val (.int (3 : Int32)), .val (.ref t), .val (.int (2 : Int32)), .val (.int (6 : Int32)), .val (.int (2 : Int32)), .val (.int x2)] []))
  have hi35_32 : ((2 : Int32) + (1 : Int32)) = (3 : Int32) := by decide
  refine own_up (fun tx kx => XS.iinc X29.here hx rfl (hb hby d16_35) rfl (l' := #[.val (.ref ca), .val (.int (3 : Int32)), .val (.ref t), .val (.int ((2 : Int32) + (1 : Int32))), .val (.int (6 : Int32)), .val (.int (2 : Int32)), .val (.int x2)]) rfl kx) ?_
  rw [hi35_32]
  show OwnOk p e below _ (T29.setTop (mkF m 38 #[.val (.ref ca), .val (.int (3 : Int32)), .val (.ref t), .val (.int (3 : Int32)), .val (.int (6 : Int32)), .val (.int (2 : Int32)), .val (.int x2)] []))
  have hi38_33 : ((2 : Int32) + (1 : Int32)) = (3 : Int32) := by decide
  refine own_up (fun tx kx => XS.iinc X29.here hx rfl (hb hby d16_38) rfl (l' := #[.val (.ref ca), .val (.int (3 : Int32)), .val (.ref t), .val (.int (3 : Int32)), .val (.int (6 : Int32)), .val (.int ((2 : Int32) + (1 : Int32))), .val (.int x2)]) rfl kx) ?_
  rw [hi38_33]
  show OwnOk p e below _ (T29.setTop (mkF m 41 #[.val (.ref ca), .val (.int (3 : Int32)), .val (.ref t), .val (.int (3 : Int32)), .val (.int (6 : Int32)), .val (.int (3 : Int32)), .val (.int x2)] []))
  refine own_up (fun tx kx => XS.goto X29.here hx rfl (pc0 := 41) (pc' := 3) rfl (hb hby d16_41) (by decide) (by decide) kx) ?_
  show OwnOk p e below _ (T29.setTop (mkF m 3 #[.val (.ref ca), .val (.int (3 : Int32)), .val (.ref t), .val (.int (3 : Int32)), .val (.int (6 : Int32)), .val (.int (3 : Int32)), .val (.int x2)] []))
  refine own_up (fun tx kx => XS.iload X29.here hx rfl (hb hby d16_3) rfl kx) ?_
  show OwnOk p e below _ (T29.setTop (mkF m 5 #[.val (.ref ca), .val (.int (3 : Int32)), .val (.ref t), .val (.int (3 : Int32)), .val (.int (6 : Int32)), .val (.int (3 : Int32)), .val (.int x2)] [(.int (3 : Int32))]))
  refine own_up (fun tx kx => XS.iload X29.here hx rfl (hb hby d16_5) rfl kx) ?_
  show OwnOk p e below _ (T29.setTop (mkF m 7 #[.val (.ref ca), .val (.int (3 : Int32)), .val (.ref t), .val (.int (3 : Int32)), .val (.int (6 : Int32)), .val (.int (3 : Int32)), .val (.int x2)] [(.int (6 : Int32)), (.int (3 : Int32))]))
  refine own_up (fun tx kx => XS.icmpNo X29.here hx rfl (hb hby d16_7) rfl (tlt (by decide)).2.1 kx) ?_
  show OwnOk p e below _ (T29.setTop (mkF m 10 #[.val (.ref ca), .val (.int (3 : Int32)), .val (.ref t), .val (.int (3 : Int32)), .val (.int (6 : Int32)), .val (.int (3 : Int32)), .val (.int x2)] []))
  refine own_up (fun tx kx => XS.aloadN X29.here hx rfl (hb hby d16_10) rfl rfl kx) ?_
  show OwnOk p e below _ (T29.setTop (mkF m 11 #[.val (.ref ca), .val (.int (3 : Int32)), .val (.ref t), .val (.int (3 : Int32)), .val (.int (6 : Int32)), .val (.int (3 : Int32)), .val (.int x2)] [(.ref ca)]))
  refine own_up (fun tx kx => XS.iloadN X29.here hx rfl (hb hby d16_11) rfl kx) ?_
  show OwnOk p e below _ (T29.setTop (mkF m 12 #[.val (.ref ca), .val (.int (3 : Int32)), .val (.ref t), .val (.int (3 : Int32)), .val (.int (6 : Int32)), .val (.int (3 : Int32)), .val (.int x2)] [(.int (3 : Int32)), (.ref ca)]))
  have V_ca_34 := (V_ca_26.other W29 ne_ca_t)
  obtain ⟨cl35, Ar35, qc35, Sz35, Nn35, Hs35, Gf35⟩ := id V_ca_34
  have hin35 : ¬ ((3 : Int32) < 0 ∨ cl35.slots.size ≤ ((3 : Int32)).toNatClampNeg) := inb_of Sz35 ⟨by decide, by decide⟩
  have hat35 : cl35.slots[((3 : Int32)).toNatClampNeg]? = some (.int x3) := Hs35.at hin35 rfl
  refine own_up (fun tx kx => X29.caload hx (j := (3 : Int32)) (v := (.int x3)) (own_ar e29 Ar35.1) (State.isArrayOf_alike hZ.alike Ar35.2.1) Ar35.2.2 hin35 hat35 (g := (mkF m 12 #[.val (.ref ca), .val (.int (3 : Int32)), .val (.ref t), .val (.int (3 : Int32)), .val (.int (6 : Int32)), .val (.int (3 : Int32)), .val (.int x2)] [(.int (3 : Int32)), (.ref ca)])) rfl rfl (hb hby d16_12) _ kx) ?_
  show OwnOk p e below _ (T29.setTop (mkF m 13 #[.val (.ref ca), .val (.int (3 : Int32)), .val (.ref t), .val (.int (3 : Int32)), .val (.int (6 : Int32)), .val (.int (3 : Int32)), .val (.int x2)] [(.int x3)]))
  refine own_up (fun tx kx => XS.istore X29.here hx rfl (hb hby d16_13) rfl (l' := #[.val (.ref ca), .val (.int (3 : Int32)), .val (.ref t), .val (.int (3 : Int32)), .val (.int (6 : Int32)), .val (.int (3 : Int32)), .val (.int x3)]) rfl kx) ?_
  show OwnOk p e below _ (T29.setTop (mkF m 15 #[.val (.ref ca), .val (.int (3 : Int32)), .val (.ref t), .val (.int (3 : Int32)), .val (.int (6 : Int32)), .val (.int (3 : Int32)), .val (.int x3)] []))
  refine own_up (fun tx kx => XS.iload X29.here hx rfl (hb hby d16_15) rfl kx) ?_
  show OwnOk p e below _ (T29.setTop (mkF m 17 #[.val (.ref ca), .val (.int (3 : Int32)), .val (.ref t), .val (.int (3 : Int32)), .val (.int (6 : Int32)), .val (.int (3 : Int32)), .val (.int x3)] [(.int x3)]))
  refine own_up (fun tx kx => XS.sipush X29.here hx rfl (hb hby d16_17) kx) ?_
  show OwnOk p e below _ (T29.setTop (mkF m 20 #[.val (.ref ca), .val (.int (3 : Int32)), .val (.ref t), .val (.int (3 : Int32)), .val (.int (6 : Int32)), .val (.int (3 : Int32)), .val (.int x3)] [(.int (255 : Int32)), (.int x3)]))
  refine own_up (fun tx kx => XS.icmpYes X29.here hx rfl (pc0 := 20) (pc' := 26) rfl (hb hby d16_20) rfl (flt c3).2.2.2 (by decide) (by decide) kx) ?_
  show OwnOk p e below _ (T29.setTop (mkF m 26 #[.val (.ref ca), .val (.int (3 : Int32)), .val (.ref t), .val (.int (3 : Int32)), .val (.int (6 : Int32)), .val (.int (3 : Int32)), .val (.int x3)] []))
  refine own_up (fun tx kx => XS.aloadN X29.here hx rfl (hb hby d16_26) rfl rfl kx) ?_
  show OwnOk p e below _ (T29.setTop (mkF m 27 #[.val (.ref ca), .val (.int (3 : Int32)), .val (.ref t), .val (.int (3 : Int32)), .val (.int (6 : Int32)), .val (.int (3 : Int32)), .val (.int x3)] [(.ref t)]))
  refine own_up (fun tx kx => XS.iloadN X29.here hx rfl (hb hby d16_27) rfl kx) ?_
  show OwnOk p e below _ (T29.setTop (mkF m 28 #[.val (.ref ca), .val (.int (3 : Int32)), .val (.ref t), .val (.int (3 : Int32)), .val (.int (6 : Int32)), .val (.int (3 : Int32)), .val (.int x3)] [(.int (3 : Int32)), (.ref t)]))
  refine own_up (fun tx kx => XS.iload X29.here hx rfl (hb hby d16_28) rfl kx) ?_
  show OwnOk p e below _ (T29.setTop (mkF m 30 #[.val (.ref ca), .val (.int (3 : Int32)), .val (.ref t), .val (.int (3 : Int32)), .val (.int (6 : Int32)), .val (.int (3 : Int32)), .val (.int x3)] [(.int x3), (.int (3 : Int32)), (.ref t)]))
  refine own_up (fun tx kx => XS.i2b X29.here hx rfl (hb hby d16_30) rfl kx) ?_
  show OwnOk p e below _ (T29.setTop (mkF m 31 #[.val (.ref ca), .val (.int (3 : Int32)), .val (.ref t), .val (.int (3 : Int32)), .val (.int (6 : Int32)), .val (.int (3 : Int32)), .val (.int x3)] [(.int (x3.toInt8.toInt32)), (.int (3 : Int32)), (.ref t)]))
  obtain ⟨cl36, Ar36, qc36, Sz36, Nn36, Hs36, Gf36⟩ := id V_t_29
  have hin36 : ¬ ((3 : Int32) < 0 ∨ cl36.slots.size ≤ ((3 : Int32)).toNatClampNeg) := inb_of Sz36 ⟨by decide, by decide⟩
  obtain ⟨T37, h37, X37, e37, W37, st37⟩ := stB X29 hx hZ e29 Ar36 (j := (3 : Int32)) hin36 (g := (mkF m 31 #[.val (.ref ca), .val (.int (3 : Int32)), .val (.ref t), .val (.int (3 : Int32)), .val (.int (6 : Int32)), .val (.int (3 : Int32)), .val (.int x3)] [(.int (x3.toInt8.toInt32)), (.int (3 : Int32)), (.ref t)])) rfl rfl (hb hby d16_31)
  have V_t_37 : Arv Z h37 t kt .byte (6 : Int32) [(.int (nar .byte (x0.toInt8.toInt32))), (.int (nar .byte (x1.toInt8.toInt32))), (.int (nar .byte (x2.toInt8.toInt32))), (.int (nar .byte (x3.toInt8.toInt32))), (.int (0 : Int32)), (.int (0 : Int32))] (.int (0 : Int32)) := Arv.set Ar36 qc36 Sz36 Nn36 Hs36 Gf36 (fits_nar_byte _) W37 3 rfl (Nat.le_of_ble_eq_true rfl)
  have N37 := Fr.snoc X37 N29 n0_t
  have OL38 := OL30.wr W37 n0_t
  have KP38 := KP30.wr W37 (Or.inl (List.mem_of_getElem? (i := 0) rfl))
  refine own_up st37 ?_
  show OwnOk p e below _ (T37.setTop (mkF m 32 #[.val (.ref ca), .val (.int (3 : Int32)), .val (.ref t), .val (.int (3 : Int32)), .val (.int (6 : Int32)), .val (.int (3 : Int32)), .val (.int x3)] []))
  have hi32_39 : ((3 : Int32) + (1 : Int32)) = (4 : Int32) := by decide
  refine own_up (fun tx kx => XS.iinc X37.here hx rfl (hb hby d16_32) rfl (l' := #[.val (.ref ca), .val (.int ((3 : Int32) + (1 : Int32))), .val (.ref t), .val (.int (3 : Int32)), .val (.int (6 : Int32)), .val (.int (3 : Int32)), .val (.int x3)]) rfl kx) ?_
  rw [hi32_39]
  show OwnOk p e below _ (T37.setTop (mkF m 35 #[.val (.ref ca), .val (.int (4 : Int32)), .val (.ref t), .val (.int (3 : Int32)), .val (.int (6 : Int32)), .val (.int (3 : Int32)), .val (.int x3)] []))
  have hi35_40 : ((3 : Int32) + (1 : Int32)) = (4 : Int32) := by decide
  refine own_up (fun tx kx => XS.iinc X37.here hx rfl (hb hby d16_35) rfl (l' := #[.val (.ref ca), .val (.int (4 : Int32)), .val (.ref t), .val (.int ((3 : Int32) + (1 : Int32))), .val (.int (6 : Int32)), .val (.int (3 : Int32)), .val (.int x3)]) rfl kx) ?_
  rw [hi35_40]
  show OwnOk p e below _ (T37.setTop (mkF m 38 #[.val (.ref ca), .val (.int (4 : Int32)), .val (.ref t), .val (.int (4 : Int32)), .val (.int (6 : Int32)), .val (.int (3 : Int32)), .val (.int x3)] []))
  have hi38_41 : ((3 : Int32) + (1 : Int32)) = (4 : Int32) := by decide
  refine own_up (fun tx kx => XS.iinc X37.here hx rfl (hb hby d16_38) rfl (l' := #[.val (.ref ca), .val (.int (4 : Int32)), .val (.ref t), .val (.int (4 : Int32)), .val (.int (6 : Int32)), .val (.int ((3 : Int32) + (1 : Int32))), .val (.int x3)]) rfl kx) ?_
  rw [hi38_41]
  show OwnOk p e below _ (T37.setTop (mkF m 41 #[.val (.ref ca), .val (.int (4 : Int32)), .val (.ref t), .val (.int (4 : Int32)), .val (.int (6 : Int32)), .val (.int (4 : Int32)), .val (.int x3)] []))
  refine own_up (fun tx kx => XS.goto X37.here hx rfl (pc0 := 41) (pc' := 3) rfl (hb hby d16_41) (by decide) (by decide) kx) ?_
  show OwnOk p e below _ (T37.setTop (mkF m 3 #[.val (.ref ca), .val (.int (4 : Int32)), .val (.ref t), .val (.int (4 : Int32)), .val (.int (6 : Int32)), .val (.int (4 : Int32)), .val (.int x3)] []))
  refine own_up (fun tx kx => XS.iload X37.here hx rfl (hb hby d16_3) rfl kx) ?_
  show OwnOk p e below _ (T37.setTop (mkF m 5 #[.val (.ref ca), .val (.int (4 : Int32)), .val (.ref t), .val (.int (4 : Int32)), .val (.int (6 : Int32)), .val (.int (4 : Int32)), .val (.int x3)] [(.int (4 : Int32))]))
  refine own_up (fun tx kx => XS.iload X37.here hx rfl (hb hby d16_5) rfl kx) ?_
  show OwnOk p e below _ (T37.setTop (mkF m 7 #[.val (.ref ca), .val (.int (4 : Int32)), .val (.ref t), .val (.int (4 : Int32)), .val (.int (6 : Int32)), .val (.int (4 : Int32)), .val (.int x3)] [(.int (6 : Int32)), (.int (4 : Int32))]))
  refine own_up (fun tx kx => XS.icmpNo X37.here hx rfl (hb hby d16_7) rfl (tlt (by decide)).2.1 kx) ?_
  show OwnOk p e below _ (T37.setTop (mkF m 10 #[.val (.ref ca), .val (.int (4 : Int32)), .val (.ref t), .val (.int (4 : Int32)), .val (.int (6 : Int32)), .val (.int (4 : Int32)), .val (.int x3)] []))
  refine own_up (fun tx kx => XS.aloadN X37.here hx rfl (hb hby d16_10) rfl rfl kx) ?_
  show OwnOk p e below _ (T37.setTop (mkF m 11 #[.val (.ref ca), .val (.int (4 : Int32)), .val (.ref t), .val (.int (4 : Int32)), .val (.int (6 : Int32)), .val (.int (4 : Int32)), .val (.int x3)] [(.ref ca)]))
  refine own_up (fun tx kx => XS.iloadN X37.here hx rfl (hb hby d16_11) rfl kx) ?_
  show OwnOk p e below _ (T37.setTop (mkF m 12 #[.val (.ref ca), .val (.int (4 : Int32)), .val (.ref t), .val (.int (4 : Int32)), .val (.int (6 : Int32)), .val (.int (4 : Int32)), .val (.int x3)] [(.int (4 : Int32)), (.ref ca)]))
  have V_ca_42 := (V_ca_34.other W37 ne_ca_t)
  obtain ⟨cl43, Ar43, qc43, Sz43, Nn43, Hs43, Gf43⟩ := id V_ca_42
  have hin43 : ¬ ((4 : Int32) < 0 ∨ cl43.slots.size ≤ ((4 : Int32)).toNatClampNeg) := inb_of Sz43 ⟨by decide, by decide⟩
  have hat43 : cl43.slots[((4 : Int32)).toNatClampNeg]? = some (.int x4) := Hs43.at hin43 rfl
  refine own_up (fun tx kx => X37.caload hx (j := (4 : Int32)) (v := (.int x4)) (own_ar e37 Ar43.1) (State.isArrayOf_alike hZ.alike Ar43.2.1) Ar43.2.2 hin43 hat43 (g := (mkF m 12 #[.val (.ref ca), .val (.int (4 : Int32)), .val (.ref t), .val (.int (4 : Int32)), .val (.int (6 : Int32)), .val (.int (4 : Int32)), .val (.int x3)] [(.int (4 : Int32)), (.ref ca)])) rfl rfl (hb hby d16_12) _ kx) ?_
  show OwnOk p e below _ (T37.setTop (mkF m 13 #[.val (.ref ca), .val (.int (4 : Int32)), .val (.ref t), .val (.int (4 : Int32)), .val (.int (6 : Int32)), .val (.int (4 : Int32)), .val (.int x3)] [(.int x4)]))
  refine own_up (fun tx kx => XS.istore X37.here hx rfl (hb hby d16_13) rfl (l' := #[.val (.ref ca), .val (.int (4 : Int32)), .val (.ref t), .val (.int (4 : Int32)), .val (.int (6 : Int32)), .val (.int (4 : Int32)), .val (.int x4)]) rfl kx) ?_
  show OwnOk p e below _ (T37.setTop (mkF m 15 #[.val (.ref ca), .val (.int (4 : Int32)), .val (.ref t), .val (.int (4 : Int32)), .val (.int (6 : Int32)), .val (.int (4 : Int32)), .val (.int x4)] []))
  refine own_up (fun tx kx => XS.iload X37.here hx rfl (hb hby d16_15) rfl kx) ?_
  show OwnOk p e below _ (T37.setTop (mkF m 17 #[.val (.ref ca), .val (.int (4 : Int32)), .val (.ref t), .val (.int (4 : Int32)), .val (.int (6 : Int32)), .val (.int (4 : Int32)), .val (.int x4)] [(.int x4)]))
  refine own_up (fun tx kx => XS.sipush X37.here hx rfl (hb hby d16_17) kx) ?_
  show OwnOk p e below _ (T37.setTop (mkF m 20 #[.val (.ref ca), .val (.int (4 : Int32)), .val (.ref t), .val (.int (4 : Int32)), .val (.int (6 : Int32)), .val (.int (4 : Int32)), .val (.int x4)] [(.int (255 : Int32)), (.int x4)]))
  refine own_up (fun tx kx => XS.icmpYes X37.here hx rfl (pc0 := 20) (pc' := 26) rfl (hb hby d16_20) rfl (flt c4).2.2.2 (by decide) (by decide) kx) ?_
  show OwnOk p e below _ (T37.setTop (mkF m 26 #[.val (.ref ca), .val (.int (4 : Int32)), .val (.ref t), .val (.int (4 : Int32)), .val (.int (6 : Int32)), .val (.int (4 : Int32)), .val (.int x4)] []))
  refine own_up (fun tx kx => XS.aloadN X37.here hx rfl (hb hby d16_26) rfl rfl kx) ?_
  show OwnOk p e below _ (T37.setTop (mkF m 27 #[.val (.ref ca), .val (.int (4 : Int32)), .val (.ref t), .val (.int (4 : Int32)), .val (.int (6 : Int32)), .val (.int (4 : Int32)), .val (.int x4)] [(.ref t)]))
  refine own_up (fun tx kx => XS.iloadN X37.here hx rfl (hb hby d16_27) rfl kx) ?_
  show OwnOk p e below _ (T37.setTop (mkF m 28 #[.val (.ref ca), .val (.int (4 : Int32)), .val (.ref t), .val (.int (4 : Int32)), .val (.int (6 : Int32)), .val (.int (4 : Int32)), .val (.int x4)] [(.int (4 : Int32)), (.ref t)]))
  refine own_up (fun tx kx => XS.iload X37.here hx rfl (hb hby d16_28) rfl kx) ?_
  show OwnOk p e below _ (T37.setTop (mkF m 30 #[.val (.ref ca), .val (.int (4 : Int32)), .val (.ref t), .val (.int (4 : Int32)), .val (.int (6 : Int32)), .val (.int (4 : Int32)), .val (.int x4)] [(.int x4), (.int (4 : Int32)), (.ref t)]))
  refine own_up (fun tx kx => XS.i2b X37.here hx rfl (hb hby d16_30) rfl kx) ?_
  show OwnOk p e below _ (T37.setTop (mkF m 31 #[.val (.ref ca), .val (.int (4 : Int32)), .val (.ref t), .val (.int (4 : Int32)), .val (.int (6 : Int32)), .val (.int (4 : Int32)), .val (.int x4)] [(.int (x4.toInt8.toInt32)), (.int (4 : Int32)), (.ref t)]))
  obtain ⟨cl44, Ar44, qc44, Sz44, Nn44, Hs44, Gf44⟩ := id V_t_37
  have hin44 : ¬ ((4 : Int32) < 0 ∨ cl44.slots.size ≤ ((4 : Int32)).toNatClampNeg) := inb_of Sz44 ⟨by decide, by decide⟩
  obtain ⟨T45, h45, X45, e45, W45, st45⟩ := stB X37 hx hZ e37 Ar44 (j := (4 : Int32)) hin44 (g := (mkF m 31 #[.val (.ref ca), .val (.int (4 : Int32)), .val (.ref t), .val (.int (4 : Int32)), .val (.int (6 : Int32)), .val (.int (4 : Int32)), .val (.int x4)] [(.int (x4.toInt8.toInt32)), (.int (4 : Int32)), (.ref t)])) rfl rfl (hb hby d16_31)
  have V_t_45 : Arv Z h45 t kt .byte (6 : Int32) [(.int (nar .byte (x0.toInt8.toInt32))), (.int (nar .byte (x1.toInt8.toInt32))), (.int (nar .byte (x2.toInt8.toInt32))), (.int (nar .byte (x3.toInt8.toInt32))), (.int (nar .byte (x4.toInt8.toInt32))), (.int (0 : Int32))] (.int (0 : Int32)) := Arv.set Ar44 qc44 Sz44 Nn44 Hs44 Gf44 (fits_nar_byte _) W45 4 rfl (Nat.le_of_ble_eq_true rfl)
  have N45 := Fr.snoc X45 N37 n0_t
  have OL46 := OL38.wr W45 n0_t
  have KP46 := KP38.wr W45 (Or.inl (List.mem_of_getElem? (i := 0) rfl))
  refine own_up st45 ?_
  show OwnOk p e below _ (T45.setTop (mkF m 32 #[.val (.ref ca), .val (.int (4 : Int32)), .val (.ref t), .val (.int (4 : Int32)), .val (.int (6 : Int32)), .val (.int (4 : Int32)), .val (.int x4)] []))
  have hi32_47 : ((4 : Int32) + (1 : Int32)) = (5 : Int32) := by decide
  refine own_up (fun tx kx => XS.iinc X45.here hx rfl (hb hby d16_32) rfl (l' := #[.val (.ref ca), .val (.int ((4 : Int32) + (1 : Int32))), .val (.ref t), .val (.int (4 : Int32)), .val (.int (6 : Int32)), .val (.int (4 : Int32)), .val (.int x4)]) rfl kx) ?_
  rw [hi32_47]
  show OwnOk p e below _ (T45.setTop (mkF m 35 #[.val (.ref ca), .val (.int (5 : Int32)), .val (.ref t), .val (.int (4 : Int32)), .val (.int (6 : Int32)), .val (.int (4 : Int32)), .val (.int x4)] []))
  have hi35_48 : ((4 : Int32) + (1 : Int32)) = (5 : Int32) := by decide
  refine own_up (fun tx kx => XS.iinc X45.here hx rfl (hb hby d16_35) rfl (l' := #[.val (.ref ca), .val (.int (5 : Int32)), .val (.ref t), .val (.int ((4 : Int32) + (1 : Int32))), .val (.int (6 : Int32)), .val (.int (4 : Int32)), .val (.int x4)]) rfl kx) ?_
  rw [hi35_48]
  show OwnOk p e below _ (T45.setTop (mkF m 38 #[.val (.ref ca), .val (.int (5 : Int32)), .val (.ref t), .val (.int (5 : Int32)), .val (.int (6 : Int32)), .val (.int (4 : Int32)), .val (.int x4)] []))
  have hi38_49 : ((4 : Int32) + (1 : Int32)) = (5 : Int32) := by decide
  refine own_up (fun tx kx => XS.iinc X45.here hx rfl (hb hby d16_38) rfl (l' := #[.val (.ref ca), .val (.int (5 : Int32)), .val (.ref t), .val (.int (5 : Int32)), .val (.int (6 : Int32)), .val (.int ((4 : Int32) + (1 : Int32))), .val (.int x4)]) rfl kx) ?_
  rw [hi38_49]
  show OwnOk p e below _ (T45.setTop (mkF m 41 #[.val (.ref ca), .val (.int (5 : Int32)), .val (.ref t), .val (.int (5 : Int32)), .val (.int (6 : Int32)), .val (.int (5 : Int32)), .val (.int x4)] []))
  refine own_up (fun tx kx => XS.goto X45.here hx rfl (pc0 := 41) (pc' := 3) rfl (hb hby d16_41) (by decide) (by decide) kx) ?_
  show OwnOk p e below _ (T45.setTop (mkF m 3 #[.val (.ref ca), .val (.int (5 : Int32)), .val (.ref t), .val (.int (5 : Int32)), .val (.int (6 : Int32)), .val (.int (5 : Int32)), .val (.int x4)] []))
  refine own_up (fun tx kx => XS.iload X45.here hx rfl (hb hby d16_3) rfl kx) ?_
  show OwnOk p e below _ (T45.setTop (mkF m 5 #[.val (.ref ca), .val (.int (5 : Int32)), .val (.ref t), .val (.int (5 : Int32)), .val (.int (6 : Int32)), .val (.int (5 : Int32)), .val (.int x4)] [(.int (5 : Int32))]))
  refine own_up (fun tx kx => XS.iload X45.here hx rfl (hb hby d16_5) rfl kx) ?_
  show OwnOk p e below _ (T45.setTop (mkF m 7 #[.val (.ref ca), .val (.int (5 : Int32)), .val (.ref t), .val (.int (5 : Int32)), .val (.int (6 : Int32)), .val (.int (5 : Int32)), .val (.int x4)] [(.int (6 : Int32)), (.int (5 : Int32))]))
  refine own_up (fun tx kx => XS.icmpNo X45.here hx rfl (hb hby d16_7) rfl (tlt (by decide)).2.1 kx) ?_
  show OwnOk p e below _ (T45.setTop (mkF m 10 #[.val (.ref ca), .val (.int (5 : Int32)), .val (.ref t), .val (.int (5 : Int32)), .val (.int (6 : Int32)), .val (.int (5 : Int32)), .val (.int x4)] []))
  refine own_up (fun tx kx => XS.aloadN X45.here hx rfl (hb hby d16_10) rfl rfl kx) ?_
  show OwnOk p e below _ (T45.setTop (mkF m 11 #[.val (.ref ca), .val (.int (5 : Int32)), .val (.ref t), .val (.int (5 : Int32)), .val (.int (6 : Int32)), .val (.int (5 : Int32)), .val (.int x4)] [(.ref ca)]))
  refine own_up (fun tx kx => XS.iloadN X45.here hx rfl (hb hby d16_11) rfl kx) ?_
  show OwnOk p e below _ (T45.setTop (mkF m 12 #[.val (.ref ca), .val (.int (5 : Int32)), .val (.ref t), .val (.int (5 : Int32)), .val (.int (6 : Int32)), .val (.int (5 : Int32)), .val (.int x4)] [(.int (5 : Int32)), (.ref ca)]))
  have V_ca_50 := (V_ca_42.other W45 ne_ca_t)
  obtain ⟨cl51, Ar51, qc51, Sz51, Nn51, Hs51, Gf51⟩ := id V_ca_50
  have hin51 : ¬ ((5 : Int32) < 0 ∨ cl51.slots.size ≤ ((5 : Int32)).toNatClampNeg) := inb_of Sz51 ⟨by decide, by decide⟩
  have hat51 : cl51.slots[((5 : Int32)).toNatClampNeg]? = some (.int x5) := Hs51.at hin51 rfl
  refine own_up (fun tx kx => X45.caload hx (j := (5 : Int32)) (v := (.int x5)) (own_ar e45 Ar51.1) (State.isArrayOf_alike hZ.alike Ar51.2.1) Ar51.2.2 hin51 hat51 (g := (mkF m 12 #[.val (.ref ca), .val (.int (5 : Int32)), .val (.ref t), .val (.int (5 : Int32)), .val (.int (6 : Int32)), .val (.int (5 : Int32)), .val (.int x4)] [(.int (5 : Int32)), (.ref ca)])) rfl rfl (hb hby d16_12) _ kx) ?_
  show OwnOk p e below _ (T45.setTop (mkF m 13 #[.val (.ref ca), .val (.int (5 : Int32)), .val (.ref t), .val (.int (5 : Int32)), .val (.int (6 : Int32)), .val (.int (5 : Int32)), .val (.int x4)] [(.int x5)]))
  refine own_up (fun tx kx => XS.istore X45.here hx rfl (hb hby d16_13) rfl (l' := #[.val (.ref ca), .val (.int (5 : Int32)), .val (.ref t), .val (.int (5 : Int32)), .val (.int (6 : Int32)), .val (.int (5 : Int32)), .val (.int x5)]) rfl kx) ?_
  show OwnOk p e below _ (T45.setTop (mkF m 15 #[.val (.ref ca), .val (.int (5 : Int32)), .val (.ref t), .val (.int (5 : Int32)), .val (.int (6 : Int32)), .val (.int (5 : Int32)), .val (.int x5)] []))
  refine own_up (fun tx kx => XS.iload X45.here hx rfl (hb hby d16_15) rfl kx) ?_
  show OwnOk p e below _ (T45.setTop (mkF m 17 #[.val (.ref ca), .val (.int (5 : Int32)), .val (.ref t), .val (.int (5 : Int32)), .val (.int (6 : Int32)), .val (.int (5 : Int32)), .val (.int x5)] [(.int x5)]))
  refine own_up (fun tx kx => XS.sipush X45.here hx rfl (hb hby d16_17) kx) ?_
  show OwnOk p e below _ (T45.setTop (mkF m 20 #[.val (.ref ca), .val (.int (5 : Int32)), .val (.ref t), .val (.int (5 : Int32)), .val (.int (6 : Int32)), .val (.int (5 : Int32)), .val (.int x5)] [(.int (255 : Int32)), (.int x5)]))
  refine own_up (fun tx kx => XS.icmpYes X45.here hx rfl (pc0 := 20) (pc' := 26) rfl (hb hby d16_20) rfl (flt c5).2.2.2 (by decide) (by decide) kx) ?_
  show OwnOk p e below _ (T45.setTop (mkF m 26 #[.val (.ref ca), .val (.int (5 : Int32)), .val (.ref t), .val (.int (5 : Int32)), .val (.int (6 : Int32)), .val (.int (5 : Int32)), .val (.int x5)] []))
  refine own_up (fun tx kx => XS.aloadN X45.here hx rfl (hb hby d16_26) rfl rfl kx) ?_
  show OwnOk p e below _ (T45.setTop (mkF m 27 #[.val (.ref ca), .val (.int (5 : Int32)), .val (.ref t), .val (.int (5 : Int32)), .val (.int (6 : Int32)), .val (.int (5 : Int32)), .val (.int x5)] [(.ref t)]))
  refine own_up (fun tx kx => XS.iloadN X45.here hx rfl (hb hby d16_27) rfl kx) ?_
  show OwnOk p e below _ (T45.setTop (mkF m 28 #[.val (.ref ca), .val (.int (5 : Int32)), .val (.ref t), .val (.int (5 : Int32)), .val (.int (6 : Int32)), .val (.int (5 : Int32)), .val (.int x5)] [(.int (5 : Int32)), (.ref t)]))
  refine own_up (fun tx kx => XS.iload X45.here hx rfl (hb hby d16_28) rfl kx) ?_
  show OwnOk p e below _ (T45.setTop (mkF m 30 #[.val (.ref ca), .val (.int (5 : Int32)), .val (.ref t), .val (.int (5 : Int32)), .val (.int (6 : Int32)), .val (.int (5 : Int32)), .val (.int x5)] [(.int x5), (.int (5 : Int32)), (.ref t)]))
  refine own_up (fun tx kx => XS.i2b X45.here hx rfl (hb hby d16_30) rfl kx) ?_
  show OwnOk p e below _ (T45.setTop (mkF m 31 #[.val (.ref ca), .val (.int (5 : Int32)), .val (.ref t), .val (.int (5 : Int32)), .val (.int (6 : Int32)), .val (.int (5 : Int32)), .val (.int x5)] [(.int (x5.toInt8.toInt32)), (.int (5 : Int32)), (.ref t)]))
  obtain ⟨cl52, Ar52, qc52, Sz52, Nn52, Hs52, Gf52⟩ := id V_t_45
  have hin52 : ¬ ((5 : Int32) < 0 ∨ cl52.slots.size ≤ ((5 : Int32)).toNatClampNeg) := inb_of Sz52 ⟨by decide, by decide⟩
  obtain ⟨T53, h53, X53, e53, W53, st53⟩ := stB X45 hx hZ e45 Ar52 (j := (5 : Int32)) hin52 (g := (mkF m 31 #[.val (.ref ca), .val (.int (5 : Int32)), .val (.ref t), .val (.int (5 : Int32)), .val (.int (6 : Int32)), .val (.int (5 : Int32)), .val (.int x5)] [(.int (x5.toInt8.toInt32)), (.int (5 : Int32)), (.ref t)])) rfl rfl (hb hby d16_31)
  have V_t_53 : Arv Z h53 t kt .byte (6 : Int32) [(.int (nar .byte (x0.toInt8.toInt32))), (.int (nar .byte (x1.toInt8.toInt32))), (.int (nar .byte (x2.toInt8.toInt32))), (.int (nar .byte (x3.toInt8.toInt32))), (.int (nar .byte (x4.toInt8.toInt32))), (.int (nar .byte (x5.toInt8.toInt32)))] (.int (0 : Int32)) := Arv.set Ar52 qc52 Sz52 Nn52 Hs52 Gf52 (fits_nar_byte _) W53 5 rfl (Nat.le_of_ble_eq_true rfl)
  have N53 := Fr.snoc X53 N45 n0_t
  have OL54 := OL46.wr W53 n0_t
  have KP54 := KP46.wr W53 (Or.inl (List.mem_of_getElem? (i := 0) rfl))
  refine own_up st53 ?_
  show OwnOk p e below _ (T53.setTop (mkF m 32 #[.val (.ref ca), .val (.int (5 : Int32)), .val (.ref t), .val (.int (5 : Int32)), .val (.int (6 : Int32)), .val (.int (5 : Int32)), .val (.int x5)] []))
  have hi32_55 : ((5 : Int32) + (1 : Int32)) = (6 : Int32) := by decide
  refine own_up (fun tx kx => XS.iinc X53.here hx rfl (hb hby d16_32) rfl (l' := #[.val (.ref ca), .val (.int ((5 : Int32) + (1 : Int32))), .val (.ref t), .val (.int (5 : Int32)), .val (.int (6 : Int32)), .val (.int (5 : Int32)), .val (.int x5)]) rfl kx) ?_
  rw [hi32_55]
  show OwnOk p e below _ (T53.setTop (mkF m 35 #[.val (.ref ca), .val (.int (6 : Int32)), .val (.ref t), .val (.int (5 : Int32)), .val (.int (6 : Int32)), .val (.int (5 : Int32)), .val (.int x5)] []))
  have hi35_56 : ((5 : Int32) + (1 : Int32)) = (6 : Int32) := by decide
  refine own_up (fun tx kx => XS.iinc X53.here hx rfl (hb hby d16_35) rfl (l' := #[.val (.ref ca), .val (.int (6 : Int32)), .val (.ref t), .val (.int ((5 : Int32) + (1 : Int32))), .val (.int (6 : Int32)), .val (.int (5 : Int32)), .val (.int x5)]) rfl kx) ?_
  rw [hi35_56]
  show OwnOk p e below _ (T53.setTop (mkF m 38 #[.val (.ref ca), .val (.int (6 : Int32)), .val (.ref t), .val (.int (6 : Int32)), .val (.int (6 : Int32)), .val (.int (5 : Int32)), .val (.int x5)] []))
  have hi38_57 : ((5 : Int32) + (1 : Int32)) = (6 : Int32) := by decide
  refine own_up (fun tx kx => XS.iinc X53.here hx rfl (hb hby d16_38) rfl (l' := #[.val (.ref ca), .val (.int (6 : Int32)), .val (.ref t), .val (.int (6 : Int32)), .val (.int (6 : Int32)), .val (.int ((5 : Int32) + (1 : Int32))), .val (.int x5)]) rfl kx) ?_
  rw [hi38_57]
  show OwnOk p e below _ (T53.setTop (mkF m 41 #[.val (.ref ca), .val (.int (6 : Int32)), .val (.ref t), .val (.int (6 : Int32)), .val (.int (6 : Int32)), .val (.int (6 : Int32)), .val (.int x5)] []))
  refine own_up (fun tx kx => XS.goto X53.here hx rfl (pc0 := 41) (pc' := 3) rfl (hb hby d16_41) (by decide) (by decide) kx) ?_
  show OwnOk p e below _ (T53.setTop (mkF m 3 #[.val (.ref ca), .val (.int (6 : Int32)), .val (.ref t), .val (.int (6 : Int32)), .val (.int (6 : Int32)), .val (.int (6 : Int32)), .val (.int x5)] []))
  refine own_up (fun tx kx => XS.iload X53.here hx rfl (hb hby d16_3) rfl kx) ?_
  show OwnOk p e below _ (T53.setTop (mkF m 5 #[.val (.ref ca), .val (.int (6 : Int32)), .val (.ref t), .val (.int (6 : Int32)), .val (.int (6 : Int32)), .val (.int (6 : Int32)), .val (.int x5)] [(.int (6 : Int32))]))
  refine own_up (fun tx kx => XS.iload X53.here hx rfl (hb hby d16_5) rfl kx) ?_
  show OwnOk p e below _ (T53.setTop (mkF m 7 #[.val (.ref ca), .val (.int (6 : Int32)), .val (.ref t), .val (.int (6 : Int32)), .val (.int (6 : Int32)), .val (.int (6 : Int32)), .val (.int x5)] [(.int (6 : Int32)), (.int (6 : Int32))]))
  refine own_up (fun tx kx => XS.icmpYes X53.here hx rfl (pc0 := 7) (pc' := 44) rfl (hb hby d16_7) rfl (flt (by decide)).2.1 (by decide) (by decide) kx) ?_
  show OwnOk p e below _ (T53.setTop (mkF m 44 #[.val (.ref ca), .val (.int (6 : Int32)), .val (.ref t), .val (.int (6 : Int32)), .val (.int (6 : Int32)), .val (.int (6 : Int32)), .val (.int x5)] []))
  refine own_up (fun tx kx => XS.iload X53.here hx rfl (hb hby d16_44) rfl kx) ?_
  show OwnOk p e below _ (T53.setTop (mkF m 46 #[.val (.ref ca), .val (.int (6 : Int32)), .val (.ref t), .val (.int (6 : Int32)), .val (.int (6 : Int32)), .val (.int (6 : Int32)), .val (.int x5)] [(.int (6 : Int32))]))
  refine own_retI X53 hx (show meth.sig.returnType = some .int from hret) hlk (hb hby d16_46) e53 (Nat.le_of_ble_eq_true rfl) (Nat.le_of_ble_eq_true rfl) ?_
  exact ⟨rfl, N53, KP54, V_t_53⟩
def Q_c_cmp4_6 (Z : State) (x0 x1 x2 x3 x4 x5 : Int32) (h0 : Heap) (n0 : Nat) (v : Option Value) (h : Heap) (L : List Loc) : Prop := ∃ (t : Addr) (kt : ClassId), v = some (.ref t) ∧ Fr n0 L ∧ Keep h0 h [] ∧ h0.size ≤ t ∧ Arv Z h t kt .byte (6 : Int32) [(.int (nar .byte (x0.toInt8.toInt32))), (.int (nar .byte (x1.toInt8.toInt32))), (.int (nar .byte (x2.toInt8.toInt32))), (.int (nar .byte (x3.toInt8.toInt32))), (.int (nar .byte (x4.toInt8.toInt32))), (.int (nar .byte (x5.toInt8.toInt32)))] (.int (0 : Int32))
set_option maxRecDepth 65536 in
set_option maxHeartbeats 40000000 in
theorem c_cmp4_6 (l : Launch) (Z : State) (a0 : Array Value) (hw : ∀ d ∈ tables_1, d.before a0 Z = true) (ca : Addr) (kc : ClassId) (x0 x1 x2 x3 x4 x5 : Int32) (h0 : Heap) (n0 : Nat) (OL : Old Z n0 h0) (V_ca : Arv Z h0 ca kc .char (6 : Int32) [(.int x0), (.int x1), (.int x2), (.int x3), (.int x4), (.int x5)] (.int (0 : Int32))) (c0 : ¬ (255 : Int32) < x0) (c1 : ¬ (255 : Int32) < x1) (c2 : ¬ (255 : Int32) < x2) (c3 : ¬ (255 : Int32) < x3) (c4 : ¬ (255 : Int32) < x4) (c5 : ¬ (255 : Int32) < x5) :
    own_Met l Z (⟨"java/lang/StringUTF16", "compress", "([CII)[B"⟩ : MethodName) jdk_52_method_16_code 6 (some (.array .byte)) ({ frames := 1, cells := 1, slots := 6, locals := 20 } : Room) #[(.ref ca), (.int (0 : Int32)), (.int (6 : Int32))] h0 (Q_c_cmp4_6 Z x0 x1 x2 x3 x4 x5 h0 n0) := by
  refine own_body (L0 := #[.val (.ref ca), .val (.int (0 : Int32)), .val (.int (6 : Int32)), .unset, .unset, .unset]) (plainFor_of_name (by first | (simp [plainName, overriddenIn]; done) | decide +kernel)) (fun m => by first | (simp [entryFrame, mkF, argsToLocals, Value.category]; done) | rfl) ?_
  intro p e s m below meth c s₁ hx hby hml hZ hown hnm hret hlk X0 e0
  have N0 := Fr.nil n0
  have Z0 : n0 ≤ h0.size := OL.1 ▸ OL.2.1
  show OwnOk p e below _ (s₁.setTop (mkF m 0 #[.val (.ref ca), .val (.int (0 : Int32)), .val (.int (6 : Int32)), .unset, .unset, .unset] []))
  have KP0 : Keep h0 h0 [] := Keep.refl h0 _
  refine own_up (fun tx kx => XS.iloadN X0.here hx rfl (hb hby d15_0) rfl kx) ?_
  show OwnOk p e below _ (s₁.setTop (mkF m 1 #[.val (.ref ca), .val (.int (0 : Int32)), .val (.int (6 : Int32)), .unset, .unset, .unset] [(.int (6 : Int32))]))
  obtain ⟨T11, h11, k11, X11, e11, E11, A11, st11⟩ := newP (aty := .byte) X0 hx hZ (wd_4 hw) e0 (g := (mkF m 1 #[.val (.ref ca), .val (.int (0 : Int32)), .val (.int (6 : Int32)), .unset, .unset, .unset] [(.int (6 : Int32))])) rfl (hb hby d15_1) rfl (by decide) (cap := 6) (by decide) (by decide) (by decide) (by decide)
  obtain ⟨b11, g11⟩ : ∃ z, z = h0.size := ⟨_, rfl⟩
  rw [← g11] at A11 st11
  have sz_b11 : h0.size ≤ b11 := Nat.le_of_eq g11.symm
  have lt_ca_b11 : ca < b11 := Nat.lt_of_lt_of_le V_ca.lt sz_b11
  have n0_b11 : n0 ≤ b11 := Nat.le_trans (own_n0 OL) sz_b11
  have ws_b11 : h0.size ≤ b11 := Nat.le_trans KP0.1 sz_b11
  have V_b11 : Arv Z h11 b11 k11 .byte (6 : Int32) [(.int (0 : Int32)), (.int (0 : Int32)), (.int (0 : Int32)), (.int (0 : Int32)), (.int (0 : Int32)), (.int (0 : Int32))] (.int (0 : Int32)) := (Arv.new A11 (by decide)).pad (pad_rep [] (.int (0 : Int32)) 6)
  have OL13 := OL.ext E11
  have KP13 := KP0.ext E11
  refine own_up st11 ?_
  show OwnOk p e below _ (T11.setTop (mkF m 3 #[.val (.ref ca), .val (.int (0 : Int32)), .val (.int (6 : Int32)), .unset, .unset, .unset] [(.ref b11)]))
  refine own_up (fun tx kx => XS.astoreN X11.here hx rfl (hb hby d15_3) rfl rfl (l' := #[.val (.ref ca), .val (.int (0 : Int32)), .val (.int (6 : Int32)), .val (.ref b11), .unset, .unset]) rfl kx) ?_
  show OwnOk p e below _ (T11.setTop (mkF m 4 #[.val (.ref ca), .val (.int (0 : Int32)), .val (.int (6 : Int32)), .val (.ref b11), .unset, .unset] []))
  refine own_up (fun tx kx => XS.aloadN X11.here hx rfl (hb hby d15_4) rfl rfl kx) ?_
  show OwnOk p e below _ (T11.setTop (mkF m 5 #[.val (.ref ca), .val (.int (0 : Int32)), .val (.int (6 : Int32)), .val (.ref b11), .unset, .unset] [(.ref ca)]))
  refine own_up (fun tx kx => XS.iloadN X11.here hx rfl (hb hby d15_5) rfl kx) ?_
  show OwnOk p e below _ (T11.setTop (mkF m 6 #[.val (.ref ca), .val (.int (0 : Int32)), .val (.int (6 : Int32)), .val (.ref b11), .unset, .unset] [(.int (0 : Int32)), (.ref ca)]))
  refine own_up (fun tx kx => XS.aloadN X11.here hx rfl (hb hby d15_6) rfl rfl kx) ?_
  show OwnOk p e below _ (T11.setTop (mkF m 7 #[.val (.ref ca), .val (.int (0 : Int32)), .val (.int (6 : Int32)), .val (.ref b11), .unset, .unset] [(.ref b11), (.int (0 : Int32)), (.ref ca)]))
  refine own_up (fun tx kx => XS.iconst X11.here hx rfl (hb hby d15_7) kx) ?_
  show OwnOk p e below _ (T11.setTop (mkF m 8 #[.val (.ref ca), .val (.int (0 : Int32)), .val (.int (6 : Int32)), .val (.ref b11), .unset, .unset] [(.int (0 : Int32)), (.ref b11), (.int (0 : Int32)), (.ref ca)]))
  refine own_up (fun tx kx => XS.iloadN X11.here hx rfl (hb hby d15_8) rfl kx) ?_
  show OwnOk p e below _ (T11.setTop (mkF m 9 #[.val (.ref ca), .val (.int (0 : Int32)), .val (.int (6 : Int32)), .val (.ref b11), .unset, .unset] [(.int (6 : Int32)), (.int (0 : Int32)), (.ref b11), (.int (0 : Int32)), (.ref ca)]))
  have V_ca_14 := (V_ca.ext E11)
  refine own_callS X11 hx hZ (y := (⟨"java/lang/StringUTF16", "compress", "([CI[BII)I"⟩ : MethodName)) hown (wd_94 hw) (wd_95 hw) (wd_92 hw) (wd_96 hw) (by decide) (c_cmp5_6 l Z a0 hw ca b11 kc k11 x0 x1 x2 x3 x4 x5 h11 n0 OL13 V_ca_14 V_b11 n0_b11 (Nat.ne_of_lt lt_ca_b11) c0 c1 c2 c3 c4 c5) e11 (argsL := [(.ref ca), (.int (0 : Int32)), (.ref b11), (.int (0 : Int32)), (.int (6 : Int32))]) (rest := []) (by rw [hml]; rfl) (lenOf pd_5 rfl) rfl rfl (W := 0) rfl (hb hby d15_9) (by decide) (by decide) (by decide) (by decide) (fun T15 v15 L15 X15 hQ15 => ?_)
  obtain ⟨rfl, Nq15, Kq15, Vq15⟩ := hQ15
  have N15 := Fr.app N0 Nq15
  have OL15 := OL13.keep Kq15 (allS n0_b11 all0)
  have KP15 := KP13.trans Kq15 (allS (Or.inr ws_b11) all0)
  show OwnOk p e below _ (T15.setTop (mkF m 12 #[.val (.ref ca), .val (.int (0 : Int32)), .val (.int (6 : Int32)), .val (.ref b11), .unset, .unset] [(.int (6 : Int32))]))
  refine own_up (fun tx kx => XS.istore X15.here hx rfl (hb hby d15_12) rfl (l' := #[.val (.ref ca), .val (.int (0 : Int32)), .val (.int (6 : Int32)), .val (.ref b11), .val (.int (6 : Int32)), .unset]) rfl kx) ?_
  show OwnOk p e below _ (T15.setTop (mkF m 14 #[.val (.ref ca), .val (.int (0 : Int32)), .val (.int (6 : Int32)), .val (.ref b11), .val (.int (6 : Int32)), .unset] []))
  refine own_up (fun tx kx => XS.iload X15.here hx rfl (hb hby d15_14) rfl kx) ?_
  show OwnOk p e below _ (T15.setTop (mkF m 16 #[.val (.ref ca), .val (.int (0 : Int32)), .val (.int (6 : Int32)), .val (.ref b11), .val (.int (6 : Int32)), .unset] [(.int (6 : Int32))]))
  refine own_up (fun tx kx => XS.iloadN X15.here hx rfl (hb hby d15_16) rfl kx) ?_
  show OwnOk p e below _ (T15.setTop (mkF m 17 #[.val (.ref ca), .val (.int (0 : Int32)), .val (.int (6 : Int32)), .val (.ref b11), .val (.int (6 : Int32)), .unset] [(.int (6 : Int32)), (.int (6 : Int32))]))
  refine own_up (fun tx kx => XS.icmpYes X15.here hx rfl (pc0 := 17) (pc' := 57) rfl (hb hby d15_17) rfl (teq rfl).1 (by decide) (by decide) kx) ?_
  show OwnOk p e below _ (T15.setTop (mkF m 57 #[.val (.ref ca), .val (.int (0 : Int32)), .val (.int (6 : Int32)), .val (.ref b11), .val (.int (6 : Int32)), .unset] []))
  refine own_up (fun tx kx => XS.aloadN X15.here hx rfl (hb hby d15_57) rfl rfl kx) ?_
  show OwnOk p e below _ (T15.setTop (mkF m 58 #[.val (.ref ca), .val (.int (0 : Int32)), .val (.int (6 : Int32)), .val (.ref b11), .val (.int (6 : Int32)), .unset] [(.ref b11)]))
  refine own_retR X15 hx (t := (.array .byte)) (show meth.sig.returnType = some (.array .byte) from hret) rfl hlk rfl (hb hby d15_58) rfl (Nat.le_of_ble_eq_true rfl) (Nat.le_of_ble_eq_true rfl) ?_
  exact ⟨b11, _, rfl, N15, KP15, ws_b11, Vq15⟩
def Q_c_coder_6 (h0 : Heap) (n0 : Nat) (v : Option Value) (h : Heap) (L : List Loc) : Prop := v = some (.int 0) ∧ Fr n0 L ∧ h = h0
set_option maxRecDepth 65536 in
set_option maxHeartbeats 40000000 in
theorem c_coder_6 (l : Launch) (Z : State) (a0 : Array Value) (hw : ∀ d ∈ tables_1, d.before a0 Z = true) (t : Addr) (kt : ClassId) (x0 x1 x2 x3 x4 x5 : Int32) (h0 : Heap) (n0 : Nat) (OL : Old Z n0 h0) (V_t : Arv Z h0 t kt .byte (6 : Int32) [(.int (nar .byte (x0.toInt8.toInt32))), (.int (nar .byte (x1.toInt8.toInt32))), (.int (nar .byte (x2.toInt8.toInt32))), (.int (nar .byte (x3.toInt8.toInt32))), (.int (nar .byte (x4.toInt8.toInt32))), (.int (nar .byte (x5.toInt8.toInt32)))] (.int (0 : Int32))) :
    own_Met l Z (⟨"java/lang/StringUTF16", "coderFromArrayLen", "([BI)B"⟩ : MethodName) jdk_52_method_15_code 2 (some .byte) ({ frames := 0, cells := 0, slots := 0, locals := 0 } : Room) #[(.ref t), (.int (6 : Int32))] h0 (Q_c_coder_6 h0 n0) := by
  refine own_body (L0 := #[.val (.ref t), .val (.int (6 : Int32))]) (plainFor_of_name (by first | (simp [plainName, overriddenIn]; done) | decide +kernel)) (fun m => by first | (simp [entryFrame, mkF, argsToLocals, Value.category]; done) | rfl) ?_
  intro p e s m below meth c s₁ hx hby hml hZ hown hnm hret hlk X0 e0
  have N0 := Fr.nil n0
  have Z0 : n0 ≤ h0.size := OL.1 ▸ OL.2.1
  show OwnOk p e below _ (s₁.setTop (mkF m 0 #[.val (.ref t), .val (.int (6 : Int32))] []))
  refine own_up (fun tx kx => XS.iloadN X0.here hx rfl (hb hby d17_0) rfl kx) ?_
  show OwnOk p e below _ (s₁.setTop (mkF m 1 #[.val (.ref t), .val (.int (6 : Int32))] [(.int (6 : Int32))]))
  refine own_up (fun tx kx => XS.aloadN X0.here hx rfl (hb hby d17_1) rfl rfl kx) ?_
  show OwnOk p e below _ (s₁.setTop (mkF m 2 #[.val (.ref t), .val (.int (6 : Int32))] [(.ref t), (.int (6 : Int32))]))
  obtain ⟨cl11, Ar11, qc11, Sz11, Nn11, Hs11, Gf11⟩ := id V_t
  have hlen11 : cl11.slots.size.toInt32 = (6 : Int32) := len_of Sz11 Nn11
  refine own_up (fun tx kx => X0.arraylength hx (own_ar e0 Ar11.1) (State.isArrayOf_alike hZ.alike Ar11.2.1) (g := (mkF m 2 #[.val (.ref t), .val (.int (6 : Int32))] [(.ref t), (.int (6 : Int32))])) rfl rfl (hb hby d17_2) _ kx) ?_
  rw [hlen11]
  show OwnOk p e below _ (s₁.setTop (mkF m 3 #[.val (.ref t), .val (.int (6 : Int32))] [(.int (6 : Int32)), (.int (6 : Int32))]))
  have hc3_12 : ((6 : Int32) - (6 : Int32)) = (0 : Int32) := by decide
  refine own_up (fun tx kx => XS.isub X0.here hx rfl (hb hby d17_3) rfl kx) ?_
  show OwnOk p e below _ (s₁.setTop (mkF m 4 #[.val (.ref t), .val (.int (6 : Int32))] [(.int ((6 : Int32) - (6 : Int32)))]))
  rw [hc3_12]
  show OwnOk p e below _ (s₁.setTop (mkF m 4 #[.val (.ref t), .val (.int (6 : Int32))] [(.int (0 : Int32))]))
  refine own_up (fun tx kx => XS.bipush X0.here hx rfl (hb hby d17_4) kx) ?_
  show OwnOk p e below _ (s₁.setTop (mkF m 6 #[.val (.ref t), .val (.int (6 : Int32))] [(.int (31 : Int32)), (.int (0 : Int32))]))
  refine own_up (fun tx kx => XS.iushr X0.here hx rfl (hb hby d17_6) rfl kx) ?_
  show OwnOk p e below _ (s₁.setTop (mkF m 7 #[.val (.ref t), .val (.int (6 : Int32))] [(.int (((0 : Int32).toUInt32 >>> ((31 : Int32) &&& 31).toUInt32).toInt32))]))
  refine own_up (fun tx kx => XS.i2b X0.here hx rfl (hb hby d17_7) rfl kx) ?_
  show OwnOk p e below _ (s₁.setTop (mkF m 8 #[.val (.ref t), .val (.int (6 : Int32))] [(.int ((((0 : Int32).toUInt32 >>> ((31 : Int32) &&& 31).toUInt32).toInt32).toInt8.toInt32))]))
  refine own_retN X0 hx (t := .byte) (show meth.sig.returnType = some .byte from hret) (by simp) hlk (hb hby d17_8) (z' := 0) (by decide) e0 (Nat.le_of_ble_eq_true rfl) (Nat.le_of_ble_eq_true rfl) ?_
  exact ⟨rfl, N0, rfl⟩
def Q_c_init2_6 (Z : State) (a : Addr) (x0 x1 x2 x3 x4 x5 : Int32) (h0 : Heap) (n0 : Nat) (v : Option Value) (h : Heap) (L : List Loc) : Prop := v = none ∧ Fr n0 L ∧ Keep h0 h [a] ∧ ∃ (u : Addr) (ku : ClassId), h0.size ≤ u ∧ (Exa Z h a "java/lang/String") ∧ (Fld Z h a "java/lang/String" "value" "[B" (.ref u)) ∧ (Fld Z h a "java/lang/String" "coder" "B" (.int (0 : Int32))) ∧ (Arv Z h u ku .byte (Int32.ofNat 6) (own_F 6 (fun j => [(nar .byte (x0.toInt8.toInt32)), (nar .byte (x1.toInt8.toInt32)), (nar .byte (x2.toInt8.toInt32)), (nar .byte (x3.toInt8.toInt32)), (nar .byte (x4.toInt8.toInt32)), (nar .byte (x5.toInt8.toInt32))].getD j 0)) (.int (0 : Int32)))
set_option maxRecDepth 65536 in
set_option maxHeartbeats 40000000 in
theorem c_init2_6 (l : Launch) (Z : State) (a0 : Array Value) (hw : ∀ d ∈ tables_1, d.before a0 Z = true) (a ca : Addr) (kc : ClassId) (x0 x1 x2 x3 x4 x5 : Int32) (cz : Int32) (h0 : Heap) (n0 : Nat) (OL : Old Z n0 h0) (SC : Sta Z Z.heap "java/lang/String" "COMPACT_STRINGS" "Z" (.int cz)) (hcz : ¬ cz = 0) (E_a : Exa Z h0 a "java/lang/String") (F_value_a : Fld Z h0 a "java/lang/String" "value" "[B" .null) (F_coder_a : Fld Z h0 a "java/lang/String" "coder" "B" (.int (0 : Int32))) (n0_a : n0 ≤ a) (V_ca : Arv Z h0 ca kc .char (6 : Int32) [(.int x0), (.int x1), (.int x2), (.int x3), (.int x4), (.int x5)] (.int (0 : Int32))) (ne_a_ca : a ≠ ca) (c0 : ¬ (255 : Int32) < x0) (c1 : ¬ (255 : Int32) < x1) (c2 : ¬ (255 : Int32) < x2) (c3 : ¬ (255 : Int32) < x3) (c4 : ¬ (255 : Int32) < x4) (c5 : ¬ (255 : Int32) < x5) :
    own_Met l Z (⟨"java/lang/String", "<init>", "([CIILjava/lang/Void;)V"⟩ : MethodName) jdk_42_method_149_code 6 none ({ frames := 2, cells := 1, slots := 6, locals := 45 } : Room) #[(.ref a), (.ref ca), (.int (0 : Int32)), (.int (6 : Int32)), .null] h0 (Q_c_init2_6 Z a x0 x1 x2 x3 x4 x5 h0 n0) := by
  refine own_body (L0 := #[.val (.ref a), .val (.ref ca), .val (.int (0 : Int32)), .val (.int (6 : Int32)), .val .null, .unset]) (plainFor_of_name (by first | (simp [plainName, overriddenIn]; done) | decide +kernel)) (fun m => by first | (simp [entryFrame, mkF, argsToLocals, Value.category]; done) | rfl) ?_
  intro p e s m below meth c s₁ hx hby hml hZ hown hnm hret hlk X0 e0
  have N0 := Fr.nil n0
  have Z0 : n0 ≤ h0.size := OL.1 ▸ OL.2.1
  show OwnOk p e below _ (s₁.setTop (mkF m 0 #[.val (.ref a), .val (.ref ca), .val (.int (0 : Int32)), .val (.int (6 : Int32)), .val .null, .unset] []))
  have KP0 : Keep h0 h0 [a] := Keep.refl h0 _
  refine own_up (fun tx kx => XS.aloadN X0.here hx rfl (hb hby d13_0) rfl rfl kx) ?_
  show OwnOk p e below _ (s₁.setTop (mkF m 1 #[.val (.ref a), .val (.ref ca), .val (.int (0 : Int32)), .val (.int (6 : Int32)), .val .null, .unset] [(.ref a)]))
  obtain ⟨T11, X11, e11, st11⟩ := initO X0 hx hZ hown (wd_87 hw) (wd_88 hw) (wd_89 hw) e0 (g := (mkF m 1 #[.val (.ref a), .val (.ref ca), .val (.int (0 : Int32)), .val (.int (6 : Int32)), .val .null, .unset] [(.ref a)])) rfl (by rw [hml]; rfl) rfl (hb hby d13_1) (by decide) (W := 0) (by show 2 * 0 + _ ≤ _; exact Nat.le_of_eq rfl) (by decide)
  refine own_up st11 ?_
  show OwnOk p e below _ (T11.setTop (mkF m 4 #[.val (.ref a), .val (.ref ca), .val (.int (0 : Int32)), .val (.int (6 : Int32)), .val .null, .unset] []))
  refine own_up (fun tx kx => XS.iloadN X11.here hx rfl (hb hby d13_4) rfl kx) ?_
  show OwnOk p e below _ (T11.setTop (mkF m 5 #[.val (.ref a), .val (.ref ca), .val (.int (0 : Int32)), .val (.int (6 : Int32)), .val .null, .unset] [(.int (6 : Int32))]))
  refine own_up (fun tx kx => XS.ifYes X11.here hx rfl (pc0 := 5) (pc' := 27) rfl (hb hby d13_5) rfl ((if0 _ _).trans (feq (by decide)).2) (by decide) (by decide) kx) ?_
  show OwnOk p e below _ (T11.setTop (mkF m 27 #[.val (.ref a), .val (.ref ca), .val (.int (0 : Int32)), .val (.int (6 : Int32)), .val .null, .unset] []))
  obtain ⟨T12, X12, e12, st12⟩ := getS2 X11 hx hZ hown (host := "") (Or.inl (wd_24 hw)) Via.refl e11 (SC.ext OL.2) (g := (mkF m 27 #[.val (.ref a), .val (.ref ca), .val (.int (0 : Int32)), .val (.int (6 : Int32)), .val .null, .unset] [])) rfl (hb hby d13_27)
  refine own_up st12 ?_
  show OwnOk p e below _ (T12.setTop (mkF m 30 #[.val (.ref a), .val (.ref ca), .val (.int (0 : Int32)), .val (.int (6 : Int32)), .val .null, .unset] [(.int cz)]))
  refine own_up (fun tx kx => XS.ifNo X12.here hx rfl (hb hby d13_30) rfl ((if0 _ _).trans (feq hcz).1) kx) ?_
  show OwnOk p e below _ (T12.setTop (mkF m 33 #[.val (.ref a), .val (.ref ca), .val (.int (0 : Int32)), .val (.int (6 : Int32)), .val .null, .unset] []))
  refine own_up (fun tx kx => XS.aloadN X12.here hx rfl (hb hby d13_33) rfl rfl kx) ?_
  show OwnOk p e below _ (T12.setTop (mkF m 34 #[.val (.ref a), .val (.ref ca), .val (.int (0 : Int32)), .val (.int (6 : Int32)), .val .null, .unset] [(.ref ca)]))
  refine own_up (fun tx kx => XS.iloadN X12.here hx rfl (hb hby d13_34) rfl kx) ?_
  show OwnOk p e below _ (T12.setTop (mkF m 35 #[.val (.ref a), .val (.ref ca), .val (.int (0 : Int32)), .val (.int (6 : Int32)), .val .null, .unset] [(.int (0 : Int32)), (.ref ca)]))
  refine own_up (fun tx kx => XS.iloadN X12.here hx rfl (hb hby d13_35) rfl kx) ?_
  show OwnOk p e below _ (T12.setTop (mkF m 36 #[.val (.ref a), .val (.ref ca), .val (.int (0 : Int32)), .val (.int (6 : Int32)), .val .null, .unset] [(.int (6 : Int32)), (.int (0 : Int32)), (.ref ca)]))
  refine own_callS X12 hx hZ (y := (⟨"java/lang/StringUTF16", "compress", "([CII)[B"⟩ : MethodName)) hown (wd_90 hw) (wd_91 hw) (wd_92 hw) (wd_93 hw) (by decide) (c_cmp4_6 l Z a0 hw ca kc x0 x1 x2 x3 x4 x5 h0 n0 OL V_ca c0 c1 c2 c3 c4 c5) e12 (argsL := [(.ref ca), (.int (0 : Int32)), (.int (6 : Int32))]) (rest := []) (by rw [hml]; rfl) (lenOf pd_6 rfl) rfl rfl (W := 0) rfl (hb hby d13_36) (by decide) (by decide) (by decide) (by decide) (fun T13 v13 L13 X13 hQ13 => ?_)
  obtain ⟨tt13, kt13, rfl, Nq13, Kq13, gt13, vt13⟩ := hQ13
  have N13 := Fr.app N0 Nq13
  have lt_a_tt13 : a < tt13 := Nat.lt_of_lt_of_le E_a.lt gt13
  have lt_ca_tt13 : ca < tt13 := Nat.lt_of_lt_of_le V_ca.lt gt13
  have n0_tt13 : n0 ≤ tt13 := Nat.le_trans (own_n0 OL) gt13
  have ws_tt13 : h0.size ≤ tt13 := Nat.le_trans KP0.1 gt13
  have OL13 := OL.keep Kq13 all0
  have KP13 := KP0.trans Kq13 all0
  show OwnOk p e below _ (T13.setTop (mkF m 39 #[.val (.ref a), .val (.ref ca), .val (.int (0 : Int32)), .val (.int (6 : Int32)), .val .null, .unset] [(.ref tt13)]))
  refine own_up (fun tx kx => XS.astore X13.here hx rfl (hb hby d13_39) rfl rfl (l' := #[.val (.ref a), .val (.ref ca), .val (.int (0 : Int32)), .val (.int (6 : Int32)), .val .null, .val (.ref tt13)]) rfl kx) ?_
  show OwnOk p e below _ (T13.setTop (mkF m 41 #[.val (.ref a), .val (.ref ca), .val (.int (0 : Int32)), .val (.int (6 : Int32)), .val .null, .val (.ref tt13)] []))
  refine own_up (fun tx kx => XS.aloadN X13.here hx rfl (hb hby d13_41) rfl rfl kx) ?_
  show OwnOk p e below _ (T13.setTop (mkF m 42 #[.val (.ref a), .val (.ref ca), .val (.int (0 : Int32)), .val (.int (6 : Int32)), .val .null, .val (.ref tt13)] [(.ref a)]))
  refine own_up (fun tx kx => XS.aload X13.here hx rfl (hb hby d13_42) rfl rfl kx) ?_
  show OwnOk p e below _ (T13.setTop (mkF m 44 #[.val (.ref a), .val (.ref ca), .val (.int (0 : Int32)), .val (.int (6 : Int32)), .val .null, .val (.ref tt13)] [(.ref tt13), (.ref a)]))
  refine own_up (fun tx kx => XS.iloadN X13.here hx rfl (hb hby d13_44) rfl kx) ?_
  show OwnOk p e below _ (T13.setTop (mkF m 45 #[.val (.ref a), .val (.ref ca), .val (.int (0 : Int32)), .val (.int (6 : Int32)), .val .null, .val (.ref tt13)] [(.int (6 : Int32)), (.ref tt13), (.ref a)]))
  refine own_callS X13 hx hZ (y := (⟨"java/lang/StringUTF16", "coderFromArrayLen", "([BI)B"⟩ : MethodName)) hown (wd_97 hw) (wd_98 hw) (wd_92 hw) (wd_99 hw) (by decide) (c_coder_6 l Z a0 hw tt13 kt13 x0 x1 x2 x3 x4 x5 T13.heap n0 OL13 vt13) rfl (argsL := [(.ref tt13), (.int (6 : Int32))]) (rest := [(.ref a)]) (by rw [hml]; rfl) (lenOf pd_7 rfl) rfl rfl (W := 1) rfl (hb hby d13_45) (by decide) (by decide) (by decide) (by decide) (fun T14 v14 L14 X14 hQ14 => ?_)
  obtain ⟨rfl, Nq14, hh14⟩ := hQ14
  have N14 := Fr.app N13 Nq14
  show OwnOk p e below _ (T14.setTop (mkF m 48 #[.val (.ref a), .val (.ref ca), .val (.int (0 : Int32)), .val (.int (6 : Int32)), .val .null, .val (.ref tt13)] [(.int (0 : Int32)), (.ref a)]))
  have F_coder_a_15 := (F_coder_a.keep Kq13 nin0)
  have E_a_16 := (E_a.keep Kq13)
  obtain ⟨T17, h17, X17, e17, W17, st17⟩ := putFN X14 hx hZ hown (wd_25 hw) Via.refl hh14 F_coder_a_15 E_a_16 (Or.inr ⟨(wd_6 hw), rfl, hnm⟩) (wd_3 hw) (ty := .byte) (v := (.int (0 : Int32))) (v' := (.int (0 : Int32))) (by decide) (by decide) (by decide) (g := (mkF m 48 #[.val (.ref a), .val (.ref ca), .val (.int (0 : Int32)), .val (.int (6 : Int32)), .val .null, .val (.ref tt13)] [(.int (0 : Int32)), (.ref a)])) rfl rfl (hb hby d13_48)
  have Fw17 := Fld.same W17 F_coder_a_15
  have N17 := Fr.snoc X17 N14 n0_a
  have OL18 := OL13.wr W17 n0_a
  have KP18 := KP13.wr W17 (Or.inl (List.mem_of_getElem? (i := 0) rfl))
  refine own_up st17 ?_
  show OwnOk p e below _ (T17.setTop (mkF m 51 #[.val (.ref a), .val (.ref ca), .val (.int (0 : Int32)), .val (.int (6 : Int32)), .val .null, .val (.ref tt13)] []))
  refine own_up (fun tx kx => XS.aloadN X17.here hx rfl (hb hby d13_51) rfl rfl kx) ?_
  show OwnOk p e below _ (T17.setTop (mkF m 52 #[.val (.ref a), .val (.ref ca), .val (.int (0 : Int32)), .val (.int (6 : Int32)), .val .null, .val (.ref tt13)] [(.ref a)]))
  refine own_up (fun tx kx => XS.aload X17.here hx rfl (hb hby d13_52) rfl rfl kx) ?_
  show OwnOk p e below _ (T17.setTop (mkF m 54 #[.val (.ref a), .val (.ref ca), .val (.int (0 : Int32)), .val (.int (6 : Int32)), .val .null, .val (.ref tt13)] [(.ref tt13), (.ref a)]))
  have F_value_a_19 := ((F_value_a.keep Kq13 nin0).other W17 (Or.inr (slot_ne (Or.inr (wd_5 hw)) (Or.inr (wd_6 hw)) (by decide) (t := (.array .byte)) (t' := .byte) (by decide) (by decide))))
  have E_a_20 := (E_a_16.wr W17)
  obtain ⟨T21, h21, X21, e21, W21, st21⟩ := putF X17 hx hZ hown (host := "") (Or.inl (wd_26 hw)) Via.refl e17 F_value_a_19 E_a_20 (Or.inr ⟨(wd_5 hw), rfl, hnm⟩) (wd_3 hw) (ty := (.array .byte)) (by decide) rfl rfl (g := (mkF m 54 #[.val (.ref a), .val (.ref ca), .val (.int (0 : Int32)), .val (.int (6 : Int32)), .val .null, .val (.ref tt13)] [(.ref tt13), (.ref a)])) rfl rfl (hb hby d13_54)
  have Fw21 := Fld.same W21 F_value_a_19
  have N21 := Fr.snoc X21 N17 n0_a
  have OL22 := OL18.wr W21 n0_a
  have KP22 := KP18.wr W21 (Or.inl (List.mem_of_getElem? (i := 0) rfl))
  refine own_up st21 ?_
  show OwnOk p e below _ (T21.setTop (mkF m 57 #[.val (.ref a), .val (.ref ca), .val (.int (0 : Int32)), .val (.int (6 : Int32)), .val .null, .val (.ref tt13)] []))
  have E_a_23 := (E_a_20.wr W21)
  have F_coder_a_24 := (Fw17.other W21 (Or.inr (slot_ne (Or.inr (wd_6 hw)) (Or.inr (wd_5 hw)) (by decide) (t := .byte) (t' := (.array .byte)) (by decide) (by decide))))
  have V_tt13_25 := ((vt13.other W17 (Nat.ne_of_gt lt_a_tt13)).other W21 (Nat.ne_of_gt lt_a_tt13))
  refine own_retV X21 hx (show meth.sig.returnType = none from hret) hlk (hb hby d13_57) e21 (Nat.le_of_ble_eq_true rfl) (Nat.le_of_ble_eq_true rfl) ?_
  exact ⟨rfl, N21, KP22, tt13, _, ws_tt13, E_a_23, Fw21, F_coder_a_24, V_tt13_25⟩
def Q_c_init1_6 (Z : State) (a : Addr) (x0 x1 x2 x3 x4 x5 : Int32) (h0 : Heap) (n0 : Nat) (v : Option Value) (h : Heap) (L : List Loc) : Prop := v = none ∧ Fr n0 L ∧ Keep h0 h [a] ∧ ∃ (u : Addr) (ku : ClassId), h0.size ≤ u ∧ (Exa Z h a "java/lang/String") ∧ (Fld Z h a "java/lang/String" "value" "[B" (.ref u)) ∧ (Fld Z h a "java/lang/String" "coder" "B" (.int (0 : Int32))) ∧ (Arv Z h u ku .byte (Int32.ofNat 6) (own_F 6 (fun j => [(nar .byte (x0.toInt8.toInt32)), (nar .byte (x1.toInt8.toInt32)), (nar .byte (x2.toInt8.toInt32)), (nar .byte (x3.toInt8.toInt32)), (nar .byte (x4.toInt8.toInt32)), (nar .byte (x5.toInt8.toInt32))].getD j 0)) (.int (0 : Int32)))
set_option maxRecDepth 65536 in
set_option maxHeartbeats 40000000 in
theorem c_init1_6 (l : Launch) (Z : State) (a0 : Array Value) (hw : ∀ d ∈ tables_1, d.before a0 Z = true) (a ca : Addr) (kc : ClassId) (x0 x1 x2 x3 x4 x5 : Int32) (cz : Int32) (h0 : Heap) (n0 : Nat) (OL : Old Z n0 h0) (SC : Sta Z Z.heap "java/lang/String" "COMPACT_STRINGS" "Z" (.int cz)) (hcz : ¬ cz = 0) (E_a : Exa Z h0 a "java/lang/String") (F_value_a : Fld Z h0 a "java/lang/String" "value" "[B" .null) (F_coder_a : Fld Z h0 a "java/lang/String" "coder" "B" (.int (0 : Int32))) (n0_a : n0 ≤ a) (V_ca : Arv Z h0 ca kc .char (6 : Int32) [(.int x0), (.int x1), (.int x2), (.int x3), (.int x4), (.int x5)] (.int (0 : Int32))) (ne_a_ca : a ≠ ca) (c0 : ¬ (255 : Int32) < x0) (c1 : ¬ (255 : Int32) < x1) (c2 : ¬ (255 : Int32) < x2) (c3 : ¬ (255 : Int32) < x3) (c4 : ¬ (255 : Int32) < x4) (c5 : ¬ (255 : Int32) < x5) :
    own_Met l Z (⟨"java/lang/String", "<init>", "([C)V"⟩ : MethodName) jdk_42_method_3_code 2 none ({ frames := 3, cells := 1, slots := 6, locals := 65 } : Room) #[(.ref a), (.ref ca)] h0 (Q_c_init1_6 Z a x0 x1 x2 x3 x4 x5 h0 n0) := by
  refine own_body (L0 := #[.val (.ref a), .val (.ref ca)]) (plainFor_of_name (by first | (simp [plainName, overriddenIn]; done) | decide +kernel)) (fun m => by first | (simp [entryFrame, mkF, argsToLocals, Value.category]; done) | rfl) ?_
  intro p e s m below meth c s₁ hx hby hml hZ hown hnm hret hlk X0 e0
  have N0 := Fr.nil n0
  have Z0 : n0 ≤ h0.size := OL.1 ▸ OL.2.1
  show OwnOk p e below _ (s₁.setTop (mkF m 0 #[.val (.ref a), .val (.ref ca)] []))
  have KP0 : Keep h0 h0 [a] := Keep.refl h0 _
  refine own_up (fun tx kx => XS.aloadN X0.here hx rfl (hb hby d12_0) rfl rfl kx) ?_
  show OwnOk p e below _ (s₁.setTop (mkF m 1 #[.val (.ref a), .val (.ref ca)] [(.ref a)]))
  refine own_up (fun tx kx => XS.aloadN X0.here hx rfl (hb hby d12_1) rfl rfl kx) ?_
  show OwnOk p e below _ (s₁.setTop (mkF m 2 #[.val (.ref a), .val (.ref ca)] [(.ref ca), (.ref a)]))
  refine own_up (fun tx kx => XS.iconst X0.here hx rfl (hb hby d12_2) kx) ?_
  show OwnOk p e below _ (s₁.setTop (mkF m 3 #[.val (.ref a), .val (.ref ca)] [(.int (0 : Int32)), (.ref ca), (.ref a)]))
  refine own_up (fun tx kx => XS.aloadN X0.here hx rfl (hb hby d12_3) rfl rfl kx) ?_
  show OwnOk p e below _ (s₁.setTop (mkF m 4 #[.val (.ref a), .val (.ref ca)] [(.ref ca), (.int (0 : Int32)), (.ref ca), (.ref a)]))
  obtain ⟨cl11, Ar11, qc11, Sz11, Nn11, Hs11, Gf11⟩ := id V_ca
  have hlen11 : cl11.slots.size.toInt32 = (6 : Int32) := len_of Sz11 Nn11
  refine own_up (fun tx kx => X0.arraylength hx (own_ar e0 Ar11.1) (State.isArrayOf_alike hZ.alike Ar11.2.1) (g := (mkF m 4 #[.val (.ref a), .val (.ref ca)] [(.ref ca), (.int (0 : Int32)), (.ref ca), (.ref a)])) rfl rfl (hb hby d12_4) _ kx) ?_
  rw [hlen11]
  show OwnOk p e below _ (s₁.setTop (mkF m 5 #[.val (.ref a), .val (.ref ca)] [(.int (6 : Int32)), (.int (0 : Int32)), (.ref ca), (.ref a)]))
  refine own_up (fun tx kx => XS.aconstNull X0.here hx rfl (hb hby d12_5) kx) ?_
  show OwnOk p e below _ (s₁.setTop (mkF m 6 #[.val (.ref a), .val (.ref ca)] [.null, (.int (6 : Int32)), (.int (0 : Int32)), (.ref ca), (.ref a)]))
  refine own_callC X0 hx hZ (y := (⟨"java/lang/String", "<init>", "([CIILjava/lang/Void;)V"⟩ : MethodName)) rfl hown (wd_84 hw) (wd_85 hw) (wd_2 hw) (wd_86 hw) (by decide) (c_init2_6 l Z a0 hw a ca kc x0 x1 x2 x3 x4 x5 cz h0 n0 OL SC hcz E_a F_value_a F_coder_a n0_a V_ca ne_a_ca c0 c1 c2 c3 c4 c5) e0 (argsL := [(.ref ca), (.int (0 : Int32)), (.int (6 : Int32)), .null]) (rest := []) (a := a) (by rw [hml]; rfl) (lenOf pd_8 rfl) rfl rfl (W := 0) rfl (hb hby d12_6) (by decide) (by decide) (by decide) (by decide) (fun T12 v12 L12 X12 hQ12 => ?_)
  obtain ⟨rfl, Nq12, Kq12, uu12, ku12, gu12, ea12, fv12, fc12, vu12⟩ := hQ12
  have N12 := Fr.app N0 Nq12
  have OL12 := OL.keep Kq12 (allS n0_a all0)
  have KP12 := KP0.trans Kq12 (allS (Or.inl (List.mem_of_getElem? (i := 0) rfl)) all0)
  show OwnOk p e below _ (T12.setTop (mkF m 9 #[.val (.ref a), .val (.ref ca)] []))
  refine own_retV X12 hx (show meth.sig.returnType = none from hret) hlk (hb hby d12_9) rfl (Nat.le_of_ble_eq_true rfl) (Nat.le_of_ble_eq_true rfl) ?_
  exact ⟨rfl, N12, KP12, uu12, ku12, gu12, ea12, fv12, fc12, vu12⟩
def own_kind (n : Nat) (g : Nat → Int32) (w0 w1 w2 : Addr) : Value := if ¬ own_eqI 5 (fun j => [(115 : Int32), (116 : Int32), (97 : Int32), (114 : Int32), (116 : Int32)].getD j 0) n g = 0 then .ref w0 else if ¬ own_eqI 5 (fun j => [(97 : Int32), (98 : Int32), (111 : Int32), (114 : Int32), (116 : Int32)].getD j 0) n g = 0 then .ref w1 else if ¬ own_eqI 5 (fun j => [(112 : Int32), (97 : Int32), (117 : Int32), (115 : Int32), (101 : Int32)].getD j 0) n g = 0 then .ref w2 else .null
def Q_m_values (Z : State) (w0 w1 w2 : Addr) (h0 : Heap) (n0 : Nat) (v : Option Value) (h : Heap) (L : List Loc) : Prop := ∃ (b : Addr) (kb : ClassId), v = some (.ref b) ∧ Fr n0 L ∧ Keep h0 h [] ∧ h0.size ≤ b ∧ Arv Z h b kb (.object "com/example/gridpost/gridpost/store/OperationKind") (3 : Int32) [.ref w0, .ref w1, .ref w2] .null
set_option maxRecDepth 65536 in
set_option maxHeartbeats 40000000 in
theorem m_values (l : Launch) (Z : State) (a0 : Array Value) (hw : ∀ d ∈ tables_1, d.before a0 Z = true) (w0 w1 w2 s0 s1 s2 u0 u1 u2 va : Addr) (k0 k1 k2 kva : ClassId) (h0 : Heap) (n0 : Nat) (OL : Old Z n0 h0) (S0 : Sta Z Z.heap "com/example/gridpost/gridpost/store/OperationKind" "START" "Lcom/example/gridpost/gridpost/store/OperationKind;" (.ref w0)) (W0 : Exa Z Z.heap w0 "com/example/gridpost/gridpost/store/OperationKind") (F0 : Fld Z Z.heap w0 "com/example/gridpost/gridpost/store/OperationKind" "wireName" "Ljava/lang/String;" (.ref s0)) (E0 : Exa Z Z.heap s0 "java/lang/String") (G0 : Fld Z Z.heap s0 "java/lang/String" "value" "[B" (.ref u0)) (D0 : Fld Z Z.heap s0 "java/lang/String" "coder" "B" (.int (0 : Int32))) (V0 : Arv Z Z.heap u0 k0 .byte (Int32.ofNat 5) (own_F 5 (fun j => [(115 : Int32), (116 : Int32), (97 : Int32), (114 : Int32), (116 : Int32)].getD j 0)) (.int (0 : Int32))) (S1 : Sta Z Z.heap "com/example/gridpost/gridpost/store/OperationKind" "ABORT" "Lcom/example/gridpost/gridpost/store/OperationKind;" (.ref w1)) (W1 : Exa Z Z.heap w1 "com/example/gridpost/gridpost/store/OperationKind") (F1 : Fld Z Z.heap w1 "com/example/gridpost/gridpost/store/OperationKind" "wireName" "Ljava/lang/String;" (.ref s1)) (E1 : Exa Z Z.heap s1 "java/lang/String") (G1 : Fld Z Z.heap s1 "java/lang/String" "value" "[B" (.ref u1)) (D1 : Fld Z Z.heap s1 "java/lang/String" "coder" "B" (.int (0 : Int32))) (V1 : Arv Z Z.heap u1 k1 .byte (Int32.ofNat 5) (own_F 5 (fun j => [(97 : Int32), (98 : Int32), (111 : Int32), (114 : Int32), (116 : Int32)].getD j 0)) (.int (0 : Int32))) (S2 : Sta Z Z.heap "com/example/gridpost/gridpost/store/OperationKind" "PAUSE" "Lcom/example/gridpost/gridpost/store/OperationKind;" (.ref w2)) (W2 : Exa Z Z.heap w2 "com/example/gridpost/gridpost/store/OperationKind") (F2 : Fld Z Z.heap w2 "com/example/gridpost/gridpost/store/OperationKind" "wireName" "Ljava/lang/String;" (.ref s2)) (E2 : Exa Z Z.heap s2 "java/lang/String") (G2 : Fld Z Z.heap s2 "java/lang/String" "value" "[B" (.ref u2)) (D2 : Fld Z Z.heap s2 "java/lang/String" "coder" "B" (.int (0 : Int32))) (V2 : Arv Z Z.heap u2 k2 .byte (Int32.ofNat 5) (own_F 5 (fun j => [(112 : Int32), (97 : Int32), (117 : Int32), (115 : Int32), (101 : Int32)].getD j 0)) (.int (0 : Int32))) (SV : Sta Z Z.heap "com/example/gridpost/gridpost/store/OperationKind" "$VALUES" "[Lcom/example/gridpost/gridpost/store/OperationKind;" (.ref va)) (EV : Exa Z Z.heap va "[Lcom/example/gridpost/gridpost/store/OperationKind;") (VV : Arv Z Z.heap va kva (.object "com/example/gridpost/gridpost/store/OperationKind") (3 : Int32) [.ref w0, .ref w1, .ref w2] .null) :
    own_Met l Z (⟨"com/example/gridpost/gridpost/store/OperationKind", "values", "()[Lcom/example/gridpost/gridpost/store/OperationKind;"⟩ : MethodName) prog_40_method_1_code 0 (some (.array (.object "com/example/gridpost/gridpost/store/OperationKind"))) ({ frames := 1, cells := 1, slots := 3, locals := 14 } : Room) #[] h0 (Q_m_values Z w0 w1 w2 h0 n0) := by
  refine own_body (L0 := #[]) (plainFor_of_name (by first | (simp [plainName, overriddenIn]; done) | decide +kernel)) (fun m => by first | (simp [entryFrame, mkF, argsToLocals, Value.category]; done) | rfl) ?_
  intro p e s m below meth c s₁ hx hby hml hZ hown hnm hret hlk X0 e0
  have N0 := Fr.nil n0
  have Z0 : n0 ≤ h0.size := OL.1 ▸ OL.2.1
  show OwnOk p e below _ (s₁.setTop (mkF m 0 #[] []))
  have KP0 : Keep h0 h0 [] := Keep.refl h0 _
  obtain ⟨T11, X11, e11, st11⟩ := getS2 X0 hx hZ hown (host := "") (Or.inl (wd_47 hw)) Via.refl e0 (SV.ext OL.2) (g := (mkF m 0 #[] [])) rfl (hb hby d8_0)
  refine own_up st11 ?_
  show OwnOk p e below _ (T11.setTop (mkF m 3 #[] [(.ref va)]))
  obtain ⟨T12, h12, X12, e12, E12, V12, P12, st12⟩ := cloneH X11 hx hZ hown (wd_49 hw) (wd_50 hw) (wd_54 hw) (wd_52 hw) (wd_53 hw) (wd_55 hw) e11 (Arv.arh (VV.ext OL.2)) (EV.ext OL.2) (g := (mkF m 3 #[] [(.ref va)])) rfl (by rw [hml]; rfl) rfl (hb hby d8_3) (by decide) (W := 0) (cap := 3) (by show 2 * 0 + _ ≤ _; exact Nat.le_of_eq rfl) (by decide) (by decide) (by decide) (by decide)
  obtain ⟨b12, g12⟩ : ∃ z, z = h0.size := ⟨_, rfl⟩
  rw [← g12] at V12 P12 st12
  have sz_b12 : h0.size ≤ b12 := Nat.le_of_eq g12.symm
  have n0_b12 : n0 ≤ b12 := Nat.le_trans (own_n0 OL) sz_b12
  have ws_b12 : h0.size ≤ b12 := Nat.le_trans KP0.1 sz_b12
  have OL14 := OL.ext E12
  have KP14 := KP0.ext E12
  refine own_up st12 ?_
  show OwnOk p e below _ (T12.setTop (mkF m 6 #[] [(.ref b12)]))
  obtain ⟨T15, X15, e15, st15⟩ := castY X12 hx hZ hown (wd_60 hw) e12 (Ins.self P12) (g := (mkF m 6 #[] [(.ref b12)])) rfl rfl (hb hby d8_6)
  refine own_up st15 ?_
  show OwnOk p e below _ (T15.setTop (mkF m 9 #[] [(.ref b12)]))
  refine own_retR X15 hx (t := (.array (.object "com/example/gridpost/gridpost/store/OperationKind"))) (show meth.sig.returnType = some (.array (.object "com/example/gridpost/gridpost/store/OperationKind")) from hret) rfl hlk rfl (hb hby d8_9) e15 (Nat.le_of_ble_eq_true rfl) (Nat.le_of_ble_eq_true rfl) ?_
  exact ⟨b12, _, rfl, N0, KP14, ws_b12, V12⟩
def Q_m_from (res : Value) (h0 : Heap) (n0 : Nat) (v : Option Value) (h : Heap) (L : List Loc) : Prop := v = some res ∧ Fr n0 L ∧ Keep h0 h []
set_option maxRecDepth 65536 in
set_option maxHeartbeats 40000000 in
theorem m_from (l : Launch) (Z : State) (a0 : Array Value) (hw : ∀ d ∈ tables_1, d.before a0 Z = true) (w0 w1 w2 s0 s1 s2 u0 u1 u2 va : Addr) (k0 k1 k2 kva : ClassId) (a u : Addr) (ku : ClassId) (ln : Nat) (g : Nat → Int32) (cz : Int32) (res : Value) (h0 : Heap) (n0 : Nat) (OL : Old Z n0 h0) (SC : Sta Z Z.heap "java/lang/String" "COMPACT_STRINGS" "Z" (.int cz)) (hcz : ¬ cz = 0) (S0 : Sta Z Z.heap "com/example/gridpost/gridpost/store/OperationKind" "START" "Lcom/example/gridpost/gridpost/store/OperationKind;" (.ref w0)) (W0 : Exa Z Z.heap w0 "com/example/gridpost/gridpost/store/OperationKind") (F0 : Fld Z Z.heap w0 "com/example/gridpost/gridpost/store/OperationKind" "wireName" "Ljava/lang/String;" (.ref s0)) (E0 : Exa Z Z.heap s0 "java/lang/String") (G0 : Fld Z Z.heap s0 "java/lang/String" "value" "[B" (.ref u0)) (D0 : Fld Z Z.heap s0 "java/lang/String" "coder" "B" (.int (0 : Int32))) (V0 : Arv Z Z.heap u0 k0 .byte (Int32.ofNat 5) (own_F 5 (fun j => [(115 : Int32), (116 : Int32), (97 : Int32), (114 : Int32), (116 : Int32)].getD j 0)) (.int (0 : Int32))) (S1 : Sta Z Z.heap "com/example/gridpost/gridpost/store/OperationKind" "ABORT" "Lcom/example/gridpost/gridpost/store/OperationKind;" (.ref w1)) (W1 : Exa Z Z.heap w1 "com/example/gridpost/gridpost/store/OperationKind") (F1 : Fld Z Z.heap w1 "com/example/gridpost/gridpost/store/OperationKind" "wireName" "Ljava/lang/String;" (.ref s1)) (E1 : Exa Z Z.heap s1 "java/lang/String") (G1 : Fld Z Z.heap s1 "java/lang/String" "value" "[B" (.ref u1)) (D1 : Fld Z Z.heap s1 "java/lang/String" "coder" "B" (.int (0 : Int32))) (V1 : Arv Z Z.heap u1 k1 .byte (Int32.ofNat 5) (own_F 5 (fun j => [(97 : Int32), (98 : Int32), (111 : Int32), (114 : Int32), (116 : Int32)].getD j 0)) (.int (0 : Int32))) (S2 : Sta Z Z.heap "com/example/gridpost/gridpost/store/OperationKind" "PAUSE" "Lcom/example/gridpost/gridpost/store/OperationKind;" (.ref w2)) (W2 : Exa Z Z.heap w2 "com/example/gridpost/gridpost/store/OperationKind") (F2 : Fld Z Z.heap w2 "com/example/gridpost/gridpost/store/OperationKind" "wireName" "Ljava/lang/String;" (.ref s2)) (E2 : Exa Z Z.heap s2 "java/lang/String") (G2 : Fld Z Z.heap s2 "java/lang/String" "value" "[B" (.ref u2)) (D2 : Fld Z Z.heap s2 "java/lang/String" "coder" "B" (.int (0 : Int32))) (V2 : Arv Z Z.heap u2 k2 .byte (Int32.ofNat 5) (own_F 5 (fun j => [(112 : Int32), (97 : Int32), (117 : Int32), (115 : Int32), (101 : Int32)].getD j 0)) (.int (0 : Int32))) (SV : Sta Z Z.heap "com/example/gridpost/gridpost/store/OperationKind" "$VALUES" "[Lcom/example/gridpost/gridpost/store/OperationKind;" (.ref va)) (EV : Exa Z Z.heap va "[Lcom/example/gridpost/gridpost/store/OperationKind;") (VV : Arv Z Z.heap va kva (.object "com/example/gridpost/gridpost/store/OperationKind") (3 : Int32) [.ref w0, .ref w1, .ref w2] .null) (E_a : Exa Z h0 a "java/lang/String") (F_value_a : Fld Z h0 a "java/lang/String" "value" "[B" (.ref u)) (F_coder_a : Fld Z h0 a "java/lang/String" "coder" "B" (.int (0 : Int32))) (V_u : Arv Z h0 u ku .byte (Int32.ofNat ln) (own_F ln g) (.int (0 : Int32))) (hln : ln ≤ 6) (hres : own_kind ln g w0 w1 w2 = res) :
    own_Met l Z (⟨"com/example/gridpost/gridpost/store/OperationKind", "fromWireName", "(Ljava/lang/String;)Lcom/example/gridpost/gridpost/store/OperationKind;"⟩ : MethodName) prog_40_method_5_code 5 (some (.object "com/example/gridpost/gridpost/store/OperationKind")) ({ frames := 2, cells := 1, slots := 3, locals := 32 } : Room) #[(.ref a)] h0 (Q_m_from res h0 n0) := by
  refine own_body (L0 := #[.val (.ref a), .unset, .unset, .unset, .unset]) (plainFor_of_name (by first | (simp [plainName, overriddenIn]; done) | decide +kernel)) (fun m => by first | (simp [entryFrame, mkF, argsToLocals, Value.category]; done) | rfl) ?_
  intro p e s m below meth c s₁ hx hby hml hZ hown hnm hret hlk X0 e0
  have N0 := Fr.nil n0
  have Z0 : n0 ≤ h0.size := OL.1 ▸ OL.2.1
  show OwnOk p e below _ (s₁.setTop (mkF m 0 #[.val (.ref a), .unset, .unset, .unset, .unset] []))
  have KP0 : Keep h0 h0 [] := Keep.refl h0 _
  refine own_callS X0 hx hZ (y := (⟨"com/example/gridpost/gridpost/store/OperationKind", "values", "()[Lcom/example/gridpost/gridpost/store/OperationKind;"⟩ : MethodName)) hown (wd_44 hw) (wd_45 hw) (wd_42 hw) (wd_46 hw) (by decide) (m_values l Z a0 hw w0 w1 w2 s0 s1 s2 u0 u1 u2 va k0 k1 k2 kva h0 n0 OL S0 W0 F0 E0 G0 D0 V0 S1 W1 F1 E1 G1 D1 V1 S2 W2 F2 E2 G2 D2 V2 SV EV VV) e0 (argsL := []) (rest := []) (by rw [hml]; rfl) (lenOf pd_9 rfl) rfl rfl (W := 0) rfl (hb hby d7_0) (by decide) (by decide) (by decide) (by decide) (fun T11 v11 L11 X11 hQ11 => ?_)
  obtain ⟨bb11, kb11, rfl, Nq11, Kq11, gb11, vb11⟩ := hQ11
  have N11 := Fr.app N0 Nq11
  have lt_a_bb11 : a < bb11 := Nat.lt_of_lt_of_le E_a.lt gb11
  have lt_u_bb11 : u < bb11 := Nat.lt_of_lt_of_le V_u.lt gb11
  have n0_bb11 : n0 ≤ bb11 := Nat.le_trans (own_n0 OL) gb11
  have ws_bb11 : h0.size ≤ bb11 := Nat.le_trans KP0.1 gb11
  have OL11 := OL.keep Kq11 all0
  have KP11 := KP0.trans Kq11 all0
  show OwnOk p e below _ (T11.setTop (mkF m 3 #[.val (.ref a), .unset, .unset, .unset, .unset] [(.ref bb11)]))
  refine own_up (fun tx kx => XS.astoreN X11.here hx rfl (hb hby d7_3) rfl rfl (l' := #[.val (.ref a), .val (.ref bb11), .unset, .unset, .unset]) rfl kx) ?_
  show OwnOk p e below _ (T11.setTop (mkF m 4 #[.val (.ref a), .val (.ref bb11), .unset, .unset, .unset] []))
  refine own_up (fun tx kx => XS.aloadN X11.here hx rfl (hb hby d7_4) rfl rfl kx) ?_
  show OwnOk p e below _ (T11.setTop (mkF m 5 #[.val (.ref a), .val (.ref bb11), .unset, .unset, .unset] [(.ref bb11)]))
  obtain ⟨cl12, Ar12, qc12, Sz12, Nn12, Hs12, Gf12⟩ := id vb11
  have hlen12 : cl12.slots.size.toInt32 = (3 : Int32) := len_of Sz12 Nn12
  refine own_up (fun tx kx => X11.arraylength hx (own_ar rfl Ar12.1) (State.isArrayOf_alike hZ.alike Ar12.2.1) (g := (mkF m 5 #[.val (.ref a), .val (.ref bb11), .unset, .unset, .unset] [(.ref bb11)])) rfl rfl (hb hby d7_5) _ kx) ?_
  rw [hlen12]
  show OwnOk p e below _ (T11.setTop (mkF m 6 #[.val (.ref a), .val (.ref bb11), .unset, .unset, .unset] [(.int (3 : Int32))]))
  refine own_up (fun tx kx => XS.istoreN X11.here hx rfl (hb hby d7_6) rfl (l' := #[.val (.ref a), .val (.ref bb11), .val (.int (3 : Int32)), .unset, .unset]) rfl kx) ?_
  show OwnOk p e below _ (T11.setTop (mkF m 7 #[.val (.ref a), .val (.ref bb11), .val (.int (3 : Int32)), .unset, .unset] []))
  refine own_up (fun tx kx => XS.iconst X11.here hx rfl (hb hby d7_7) kx) ?_
  show OwnOk p e below _ (T11.setTop (mkF m 8 #[.val (.ref a), .val (.ref bb11), .val (.int (3 : Int32)), .unset, .unset] [(.int (0 : Int32))]))
  refine own_up (fun tx kx => XS.istoreN X11.here hx rfl (hb hby d7_8) rfl (l' := #[.val (.ref a), .val (.ref bb11), .val (.int (3 : Int32)), .val (.int (0 : Int32)), .unset]) rfl kx) ?_
  show OwnOk p e below _ (T11.setTop (mkF m 9 #[.val (.ref a), .val (.ref bb11), .val (.int (3 : Int32)), .val (.int (0 : Int32)), .unset] []))
  refine own_up (fun tx kx => XS.iloadN X11.here hx rfl (hb hby d7_9) rfl kx) ?_
  show OwnOk p e below _ (T11.setTop (mkF m 10 #[.val (.ref a), .val (.ref bb11), .val (.int (3 : Int32)), .val (.int (0 : Int32)), .unset] [(.int (0 : Int32))]))
  refine own_up (fun tx kx => XS.iloadN X11.here hx rfl (hb hby d7_10) rfl kx) ?_
  show OwnOk p e below _ (T11.setTop (mkF m 11 #[.val (.ref a), .val (.ref bb11), .val (.int (3 : Int32)), .val (.int (0 : Int32)), .unset] [(.int (3 : Int32)), (.int (0 : Int32))]))
  refine own_up (fun tx kx => XS.icmpNo X11.here hx rfl (hb hby d7_11) rfl (tlt (by decide)).2.1 kx) ?_
  show OwnOk p e below _ (T11.setTop (mkF m 14 #[.val (.ref a), .val (.ref bb11), .val (.int (3 : Int32)), .val (.int (0 : Int32)), .unset] []))
  refine own_up (fun tx kx => XS.aloadN X11.here hx rfl (hb hby d7_14) rfl rfl kx) ?_
  show OwnOk p e below _ (T11.setTop (mkF m 15 #[.val (.ref a), .val (.ref bb11), .val (.int (3 : Int32)), .val (.int (0 : Int32)), .unset] [(.ref bb11)]))
  refine own_up (fun tx kx => XS.iloadN X11.here hx rfl (hb hby d7_15) rfl kx) ?_
  show OwnOk p e below _ (T11.setTop (mkF m 16 #[.val (.ref a), .val (.ref bb11), .val (.int (3 : Int32)), .val (.int (0 : Int32)), .unset] [(.int (0 : Int32)), (.ref bb11)]))
  obtain ⟨cl13, Ar13, qc13, Sz13, Nn13, Hs13, Gf13⟩ := id vb11
  have hin13 : ¬ ((0 : Int32) < 0 ∨ cl13.slots.size ≤ ((0 : Int32)).toNatClampNeg) := inb_of Sz13 ⟨by decide, by decide⟩
  have hat13 : cl13.slots[((0 : Int32)).toNatClampNeg]? = some (.ref w0) := Hs13.at hin13 rfl
  refine own_up (fun tx kx => X11.aaload hx (j := (0 : Int32)) (v := (.ref w0)) (own_ar rfl Ar13.1) (State.isArrayOf_alike hZ.alike Ar13.2.1) rfl Ar13.2.2 hin13 hat13 (g := (mkF m 16 #[.val (.ref a), .val (.ref bb11), .val (.int (3 : Int32)), .val (.int (0 : Int32)), .unset] [(.int (0 : Int32)), (.ref bb11)])) rfl rfl (hb hby d7_16) _ kx) ?_
  show OwnOk p e below _ (T11.setTop (mkF m 17 #[.val (.ref a), .val (.ref bb11), .val (.int (3 : Int32)), .val (.int (0 : Int32)), .unset] [(.ref w0)]))
  refine own_up (fun tx kx => XS.astore X11.here hx rfl (hb hby d7_17) rfl rfl (l' := #[.val (.ref a), .val (.ref bb11), .val (.int (3 : Int32)), .val (.int (0 : Int32)), .val (.ref w0)]) rfl kx) ?_
  show OwnOk p e below _ (T11.setTop (mkF m 19 #[.val (.ref a), .val (.ref bb11), .val (.int (3 : Int32)), .val (.int (0 : Int32)), .val (.ref w0)] []))
  refine own_up (fun tx kx => XS.aload X11.here hx rfl (hb hby d7_19) rfl rfl kx) ?_
  show OwnOk p e below _ (T11.setTop (mkF m 21 #[.val (.ref a), .val (.ref bb11), .val (.int (3 : Int32)), .val (.int (0 : Int32)), .val (.ref w0)] [(.ref w0)]))
  obtain ⟨T14, X14, e14, st14⟩ := getF X11 hx hZ hown (host := "") (Or.inl (wd_62 hw)) Via.refl rfl (F0.ext OL11.2) (g := (mkF m 21 #[.val (.ref a), .val (.ref bb11), .val (.int (3 : Int32)), .val (.int (0 : Int32)), .val (.ref w0)] [(.ref w0)])) rfl rfl (hb hby d7_21)
  refine own_up st14 ?_
  show OwnOk p e below _ (T14.setTop (mkF m 24 #[.val (.ref a), .val (.ref bb11), .val (.int (3 : Int32)), .val (.int (0 : Int32)), .val (.ref w0)] [(.ref s0)]))
  refine own_up (fun tx kx => XS.aloadN X14.here hx rfl (hb hby d7_24) rfl rfl kx) ?_
  show OwnOk p e below _ (T14.setTop (mkF m 25 #[.val (.ref a), .val (.ref bb11), .val (.int (3 : Int32)), .val (.int (0 : Int32)), .val (.ref w0)] [(.ref a), (.ref s0)]))
  have E_a_15 := (E_a.keep Kq11)
  have F_value_a_16 := (F_value_a.keep Kq11 nin0)
  have F_coder_a_17 := (F_coder_a.keep Kq11 nin0)
  have V_u_18 := (V_u.keep Kq11 nin0)
  refine own_callV X14 hx hZ (y := (⟨"java/lang/String", "equals", "(Ljava/lang/Object;)Z"⟩ : MethodName)) (z := (⟨"java/lang/String", "equals", "(Ljava/lang/Object;)Z"⟩ : MethodName)) hown (wd_64 hw) (wd_65 hw) (notFace_of_selects (args := #[]) (mvT hZ (wd_67 hw))) (wd_67 hw) (wd_66 hw) (wd_2 hw) (wd_68 hw) (by decide) (j_eq l Z a0 hw s0 u0 k0 5 (fun j => [(115 : Int32), (116 : Int32), (97 : Int32), (114 : Int32), (116 : Int32)].getD j 0) a u ku ln g cz T11.heap n0 OL11 SC hcz (E0.ext OL11.2) (G0.ext OL11.2) (D0.ext OL11.2) (V0.ext OL11.2) E_a_15 F_value_a_16 F_coder_a_17 V_u_18 (by decide) (by omega) (Or.inl rfl)) e14 (argsL := [(.ref a)]) (rest := []) (E0.ext OL11.2) (by rw [hml]; rfl) (lenOf pd_10 rfl) rfl rfl (W := 0) rfl (hb hby d7_25) (by decide) (by decide) (by decide) (by decide) (fun T19 v19 L19 X19 hQ19 => ?_)
  obtain ⟨rfl, Nq19, hh19⟩ := hQ19
  have N19 := Fr.app N11 Nq19
  show OwnOk p e below _ (T19.setTop (mkF m 28 #[.val (.ref a), .val (.ref bb11), .val (.int (3 : Int32)), .val (.int (0 : Int32)), .val (.ref w0)] [(.int (own_eqI 5 (fun j => [(115 : Int32), (116 : Int32), (97 : Int32), (114 : Int32), (116 : Int32)].getD j 0) ln g))]))
  by_cases hz0 : (own_eqI 5 (fun j => [(115 : Int32), (116 : Int32), (97 : Int32), (114 : Int32), (116 : Int32)].getD j 0) ln g) = (0 : Int32)
  · refine own_up (fun tx kx => XS.ifYes X19.here hx rfl (pc0 := 28) (pc' := 34) rfl (hb hby d7_28) rfl ((if0 _ _).trans (teq hz0).1) (by decide) (by decide) kx) ?_
    show OwnOk p e below _ (T19.setTop (mkF m 34 #[.val (.ref a), .val (.ref bb11), .val (.int (3 : Int32)), .val (.int (0 : Int32)), .val (.ref w0)] []))
    have hi34_20 : ((0 : Int32) + (1 : Int32)) = (1 : Int32) := by decide
    refine own_up (fun tx kx => XS.iinc X19.here hx rfl (hb hby d7_34) rfl (l' := #[.val (.ref a), .val (.ref bb11), .val (.int (3 : Int32)), .val (.int ((0 : Int32) + (1 : Int32))), .val (.ref w0)]) rfl kx) ?_
    rw [hi34_20]
    show OwnOk p e below _ (T19.setTop (mkF m 37 #[.val (.ref a), .val (.ref bb11), .val (.int (3 : Int32)), .val (.int (1 : Int32)), .val (.ref w0)] []))
    refine own_up (fun tx kx => XS.goto X19.here hx rfl (pc0 := 37) (pc' := 9) rfl (hb hby d7_37) (by decide) (by decide) kx) ?_
    show OwnOk p e below _ (T19.setTop (mkF m 9 #[.val (.ref a), .val (.ref bb11), .val (.int (3 : Int32)), .val (.int (1 : Int32)), .val (.ref w0)] []))
    refine own_up (fun tx kx => XS.iloadN X19.here hx rfl (hb hby d7_9) rfl kx) ?_
    show OwnOk p e below _ (T19.setTop (mkF m 10 #[.val (.ref a), .val (.ref bb11), .val (.int (3 : Int32)), .val (.int (1 : Int32)), .val (.ref w0)] [(.int (1 : Int32))]))
    refine own_up (fun tx kx => XS.iloadN X19.here hx rfl (hb hby d7_10) rfl kx) ?_
    show OwnOk p e below _ (T19.setTop (mkF m 11 #[.val (.ref a), .val (.ref bb11), .val (.int (3 : Int32)), .val (.int (1 : Int32)), .val (.ref w0)] [(.int (3 : Int32)), (.int (1 : Int32))]))
    refine own_up (fun tx kx => XS.icmpNo X19.here hx rfl (hb hby d7_11) rfl (tlt (by decide)).2.1 kx) ?_
    show OwnOk p e below _ (T19.setTop (mkF m 14 #[.val (.ref a), .val (.ref bb11), .val (.int (3 : Int32)), .val (.int (1 : Int32)), .val (.ref w0)] []))
    refine own_up (fun tx kx => XS.aloadN X19.here hx rfl (hb hby d7_14) rfl rfl kx) ?_
    show OwnOk p e below _ (T19.setTop (mkF m 15 #[.val (.ref a), .val (.ref bb11), .val (.int (3 : Int32)), .val (.int (1 : Int32)), .val (.ref w0)] [(.ref bb11)]))
    refine own_up (fun tx kx => XS.iloadN X19.here hx rfl (hb hby d7_15) rfl kx) ?_
    show OwnOk p e below _ (T19.setTop (mkF m 16 #[.val (.ref a), .val (.ref bb11), .val (.int (3 : Int32)), .val (.int (1 : Int32)), .val (.ref w0)] [(.int (1 : Int32)), (.ref bb11)]))
    obtain ⟨cl21, Ar21, qc21, Sz21, Nn21, Hs21, Gf21⟩ := id vb11
    have hin21 : ¬ ((1 : Int32) < 0 ∨ cl21.slots.size ≤ ((1 : Int32)).toNatClampNeg) := inb_of Sz21 ⟨by decide, by decide⟩
    have hat21 : cl21.slots[((1 : Int32)).toNatClampNeg]? = some (.ref w1) := Hs21.at hin21 rfl
    refine own_up (fun tx kx => X19.aaload hx (j := (1 : Int32)) (v := (.ref w1)) (own_ar hh19 Ar21.1) (State.isArrayOf_alike hZ.alike Ar21.2.1) rfl Ar21.2.2 hin21 hat21 (g := (mkF m 16 #[.val (.ref a), .val (.ref bb11), .val (.int (3 : Int32)), .val (.int (1 : Int32)), .val (.ref w0)] [(.int (1 : Int32)), (.ref bb11)])) rfl rfl (hb hby d7_16) _ kx) ?_
    show OwnOk p e below _ (T19.setTop (mkF m 17 #[.val (.ref a), .val (.ref bb11), .val (.int (3 : Int32)), .val (.int (1 : Int32)), .val (.ref w0)] [(.ref w1)]))
    refine own_up (fun tx kx => XS.astore X19.here hx rfl (hb hby d7_17) rfl rfl (l' := #[.val (.ref a), .val (.ref bb11), .val (.int (3 : Int32)), .val (.int (1 : Int32)), .val (.ref w1)]) rfl kx) ?_
    show OwnOk p e below _ (T19.setTop (mkF m 19 #[.val (.ref a), .val (.ref bb11), .val (.int (3 : Int32)), .val (.int (1 : Int32)), .val (.ref w1)] []))
    refine own_up (fun tx kx => XS.aload X19.here hx rfl (hb hby d7_19) rfl rfl kx) ?_
    show OwnOk p e below _ (T19.setTop (mkF m 21 #[.val (.ref a), .val (.ref bb11), .val (.int (3 : Int32)), .val (.int (1 : Int32)), .val (.ref w1)] [(.ref w1)]))
    obtain ⟨T22, X22, e22, st22⟩ := getF X19 hx hZ hown (host := "") (Or.inl (wd_62 hw)) Via.refl hh19 (F1.ext OL11.2) (g := (mkF m 21 #[.val (.ref a), .val (.ref bb11), .val (.int (3 : Int32)), .val (.int (1 : Int32)), .val (.ref w1)] [(.ref w1)])) rfl rfl (hb hby d7_21)
    refine own_up st22 ?_
    show OwnOk p e below _ (T22.setTop (mkF m 24 #[.val (.ref a), .val (.ref bb11), .val (.int (3 : Int32)), .val (.int (1 : Int32)), .val (.ref w1)] [(.ref s1)]))
    refine own_up (fun tx kx => XS.aloadN X22.here hx rfl (hb hby d7_24) rfl rfl kx) ?_
    show OwnOk p e below _ (T22.setTop (mkF m 25 #[.val (.ref a), .val (.ref bb11), .val (.int (3 : Int32)), .val (.int (1 : Int32)), .val (.ref w1)] [(.ref a), (.ref s1)]))
    refine own_callV X22 hx hZ (y := (⟨"java/lang/String", "equals", "(Ljava/lang/Object;)Z"⟩ : MethodName)) (z := (⟨"java/lang/String", "equals", "(Ljava/lang/Object;)Z"⟩ : MethodName)) hown (wd_64 hw) (wd_65 hw) (notFace_of_selects (args := #[]) (mvT hZ (wd_67 hw))) (wd_67 hw) (wd_66 hw) (wd_2 hw) (wd_68 hw) (by decide) (j_eq l Z a0 hw s1 u1 k1 5 (fun j => [(97 : Int32), (98 : Int32), (111 : Int32), (114 : Int32), (116 : Int32)].getD j 0) a u ku ln g cz T11.heap n0 OL11 SC hcz (E1.ext OL11.2) (G1.ext OL11.2) (D1.ext OL11.2) (V1.ext OL11.2) E_a_15 F_value_a_16 F_coder_a_17 V_u_18 (by decide) (by omega) (Or.inl rfl)) e22 (argsL := [(.ref a)]) (rest := []) (E1.ext OL11.2) (by rw [hml]; rfl) (lenOf pd_10 rfl) rfl rfl (W := 0) rfl (hb hby d7_25) (by decide) (by decide) (by decide) (by decide) (fun T23 v23 L23 X23 hQ23 => ?_)
    obtain ⟨rfl, Nq23, hh23⟩ := hQ23
    have N23 := Fr.app N19 Nq23
    show OwnOk p e below _ (T23.setTop (mkF m 28 #[.val (.ref a), .val (.ref bb11), .val (.int (3 : Int32)), .val (.int (1 : Int32)), .val (.ref w1)] [(.int (own_eqI 5 (fun j => [(97 : Int32), (98 : Int32), (111 : Int32), (114 : Int32), (116 : Int32)].getD j 0) ln g))]))
    by_cases hz1 : (own_eqI 5 (fun j => [(97 : Int32), (98 : Int32), (111 : Int32), (114 : Int32), (116 : Int32)].getD j 0) ln g) = (0 : Int32)
    · refine own_up (fun tx kx => XS.ifYes X23.here hx rfl (pc0 := 28) (pc' := 34) rfl (hb hby d7_28) rfl ((if0 _ _).trans (teq hz1).1) (by decide) (by decide) kx) ?_
      show OwnOk p e below _ (T23.setTop (mkF m 34 #[.val (.ref a), .val (.ref bb11), .val (.int (3 : Int32)), .val (.int (1 : Int32)), .val (.ref w1)] []))
      have hi34_24 : ((1 : Int32) + (1 : Int32)) = (2 : Int32) := by decide
      refine own_up (fun tx kx => XS.iinc X23.here hx rfl (hb hby d7_34) rfl (l' := #[.val (.ref a), .val (.ref bb11), .val (.int (3 : Int32)), .val (.int ((1 : Int32) + (1 : Int32))), .val (.ref w1)]) rfl kx) ?_
      rw [hi34_24]
      show OwnOk p e below _ (T23.setTop (mkF m 37 #[.val (.ref a), .val (.ref bb11), .val (.int (3 : Int32)), .val (.int (2 : Int32)), .val (.ref w1)] []))
      refine own_up (fun tx kx => XS.goto X23.here hx rfl (pc0 := 37) (pc' := 9) rfl (hb hby d7_37) (by decide) (by decide) kx) ?_
      show OwnOk p e below _ (T23.setTop (mkF m 9 #[.val (.ref a), .val (.ref bb11), .val (.int (3 : Int32)), .val (.int (2 : Int32)), .val (.ref w1)] []))
      refine own_up (fun tx kx => XS.iloadN X23.here hx rfl (hb hby d7_9) rfl kx) ?_
      show OwnOk p e below _ (T23.setTop (mkF m 10 #[.val (.ref a), .val (.ref bb11), .val (.int (3 : Int32)), .val (.int (2 : Int32)), .val (.ref w1)] [(.int (2 : Int32))]))
      refine own_up (fun tx kx => XS.iloadN X23.here hx rfl (hb hby d7_10) rfl kx) ?_
      show OwnOk p e below _ (T23.setTop (mkF m 11 #[.val (.ref a), .val (.ref bb11), .val (.int (3 : Int32)), .val (.int (2 : Int32)), .val (.ref w1)] [(.int (3 : Int32)), (.int (2 : Int32))]))
      refine own_up (fun tx kx => XS.icmpNo X23.here hx rfl (hb hby d7_11) rfl (tlt (by decide)).2.1 kx) ?_
      show OwnOk p e below _ (T23.setTop (mkF m 14 #[.val (.ref a), .val (.ref bb11), .val (.int (3 : Int32)), .val (.int (2 : Int32)), .val (.ref w1)] []))
      refine own_up (fun tx kx => XS.aloadN X23.here hx rfl (hb hby d7_14) rfl rfl kx) ?_
      show OwnOk p e below _ (T23.setTop (mkF m 15 #[.val (.ref a), .val (.ref bb11), .val (.int (3 : Int32)), .val (.int (2 : Int32)), .val (.ref w1)] [(.ref bb11)]))
      refine own_up (fun tx kx => XS.iloadN X23.here hx rfl (hb hby d7_15) rfl kx) ?_
      show OwnOk p e below _ (T23.setTop (mkF m 16 #[.val (.ref a), .val (.ref bb11), .val (.int (3 : Int32)), .val (.int (2 : Int32)), .val (.ref w1)] [(.int (2 : Int32)), (.ref bb11)]))
      obtain ⟨cl25, Ar25, qc25, Sz25, Nn25, Hs25, Gf25⟩ := id vb11
      have hin25 : ¬ ((2 : Int32) < 0 ∨ cl25.slots.size ≤ ((2 : Int32)).toNatClampNeg) := inb_of Sz25 ⟨by decide, by decide⟩
      have hat25 : cl25.slots[((2 : Int32)).toNatClampNeg]? = some (.ref w2) := Hs25.at hin25 rfl
      refine own_up (fun tx kx => X23.aaload hx (j := (2 : Int32)) (v := (.ref w2)) (own_ar hh23 Ar25.1) (State.isArrayOf_alike hZ.alike Ar25.2.1) rfl Ar25.2.2 hin25 hat25 (g := (mkF m 16 #[.val (.ref a), .val (.ref bb11), .val (.int (3 : Int32)), .val (.int (2 : Int32)), .val (.ref w1)] [(.int (2 : Int32)), (.ref bb11)])) rfl rfl (hb hby d7_16) _ kx) ?_
      show OwnOk p e below _ (T23.setTop (mkF m 17 #[.val (.ref a), .val (.ref bb11), .val (.int (3 : Int32)), .val (.int (2 : Int32)), .val (.ref w1)] [(.ref w2)]))
      refine own_up (fun tx kx => XS.astore X23.here hx rfl (hb hby d7_17) rfl rfl (l' := #[.val (.ref a), .val (.ref bb11), .val (.int (3 : Int32)), .val (.int (2 : Int32)), .val (.ref w2)]) rfl kx) ?_
      show OwnOk p e below _ (T23.setTop (mkF m 19 #[.val (.ref a), .val (.ref bb11), .val (.int (3 : Int32)), .val (.int (2 : Int32)), .val (.ref w2)] []))
      refine own_up (fun tx kx => XS.aload X23.here hx rfl (hb hby d7_19) rfl rfl kx) ?_
      show OwnOk p e below _ (T23.setTop (mkF m 21 #[.val (.ref a), .val (.ref bb11), .val (.int (3 : Int32)), .val (.int (2 : Int32)), .val (.ref w2)] [(.ref w2)]))
      obtain ⟨T26, X26, e26, st26⟩ := getF X23 hx hZ hown (host := "") (Or.inl (wd_62 hw)) Via.refl hh23 (F2.ext OL11.2) (g := (mkF m 21 #[.val (.ref a), .val (.ref bb11), .val (.int (3 : Int32)), .val (.int (2 : Int32)), .val (.ref w2)] [(.ref w2)])) rfl rfl (hb hby d7_21)
      refine own_up st26 ?_
      show OwnOk p e below _ (T26.setTop (mkF m 24 #[.val (.ref a), .val (.ref bb11), .val (.int (3 : Int32)), .val (.int (2 : Int32)), .val (.ref w2)] [(.ref s2)]))
      refine own_up (fun tx kx => XS.aloadN X26.here hx rfl (hb hby d7_24) rfl rfl kx) ?_
      show OwnOk p e below _ (T26.setTop (mkF m 25 #[.val (.ref a), .val (.ref bb11), .val (.int (3 : Int32)), .val (.int (2 : Int32)), .val (.ref w2)] [(.ref a), (.ref s2)]))
      refine own_callV X26 hx hZ (y := (⟨"java/lang/String", "equals", "(Ljava/lang/Object;)Z"⟩ : MethodName)) (z := (⟨"java/lang/String", "equals", "(Ljava/lang/Object;)Z"⟩ : MethodName)) hown (wd_64 hw) (wd_65 hw) (notFace_of_selects (args := #[]) (mvT hZ (wd_67 hw))) (wd_67 hw) (wd_66 hw) (wd_2 hw) (wd_68 hw) (by decide) (j_eq l Z a0 hw s2 u2 k2 5 (fun j => [(112 : Int32), (97 : Int32), (117 : Int32), (115 : Int32), (101 : Int32)].getD j 0) a u ku ln g cz T11.heap n0 OL11 SC hcz (E2.ext OL11.2) (G2.ext OL11.2) (D2.ext OL11.2) (V2.ext OL11.2) E_a_15 F_value_a_16 F_coder_a_17 V_u_18 (by decide) (by omega) (Or.inl rfl)) e26 (argsL := [(.ref a)]) (rest := []) (E2.ext OL11.2) (by rw [hml]; rfl) (lenOf pd_10 rfl) rfl rfl (W := 0) rfl (hb hby d7_25) (by decide) (by decide) (by decide) (by decide) (fun T27 v27 L27 X27 hQ27 => ?_)
      obtain ⟨rfl, Nq27, hh27⟩ := hQ27
      have N27 := Fr.app N23 Nq27
      show OwnOk p e below _ (T27.setTop (mkF m 28 #[.val (.ref a), .val (.ref bb11), .val (.int (3 : Int32)), .val (.int (2 : Int32)), .val (.ref w2)] [(.int (own_eqI 5 (fun j => [(112 : Int32), (97 : Int32), (117 : Int32), (115 : Int32), (101 : Int32)].getD j 0) ln g))]))
      by_cases hz2 : (own_eqI 5 (fun j => [(112 : Int32), (97 : Int32), (117 : Int32), (115 : Int32), (101 : Int32)].getD j 0) ln g) = (0 : Int32)
      · refine own_up (fun tx kx => XS.ifYes X27.here hx rfl (pc0 := 28) (pc' := 34) rfl (hb hby d7_28) rfl ((if0 _ _).trans (teq hz2).1) (by decide) (by decide) kx) ?_
        show OwnOk p e below _ (T27.setTop (mkF m 34 #[.val (.ref a), .val (.ref bb11), .val (.int (3 : Int32)), .val (.int (2 : Int32)), .val (.ref w2)] []))
        have hi34_28 : ((2 : Int32) + (1 : Int32)) = (3 : Int32) := by decide
        refine own_up (fun tx kx => XS.iinc X27.here hx rfl (hb hby d7_34) rfl (l' := #[.val (.ref a), .val (.ref bb11), .val (.int (3 : Int32)), .val (.int ((2 : Int32) + (1 : Int32))), .val (.ref w2)]) rfl kx) ?_
        rw [hi34_28]
        show OwnOk p e below _ (T27.setTop (mkF m 37 #[.val (.ref a), .val (.ref bb11), .val (.int (3 : Int32)), .val (.int (3 : Int32)), .val (.ref w2)] []))
        refine own_up (fun tx kx => XS.goto X27.here hx rfl (pc0 := 37) (pc' := 9) rfl (hb hby d7_37) (by decide) (by decide) kx) ?_
        show OwnOk p e below _ (T27.setTop (mkF m 9 #[.val (.ref a), .val (.ref bb11), .val (.int (3 : Int32)), .val (.int (3 : Int32)), .val (.ref w2)] []))
        refine own_up (fun tx kx => XS.iloadN X27.here hx rfl (hb hby d7_9) rfl kx) ?_
        show OwnOk p e below _ (T27.setTop (mkF m 10 #[.val (.ref a), .val (.ref bb11), .val (.int (3 : Int32)), .val (.int (3 : Int32)), .val (.ref w2)] [(.int (3 : Int32))]))
        refine own_up (fun tx kx => XS.iloadN X27.here hx rfl (hb hby d7_10) rfl kx) ?_
        show OwnOk p e below _ (T27.setTop (mkF m 11 #[.val (.ref a), .val (.ref bb11), .val (.int (3 : Int32)), .val (.int (3 : Int32)), .val (.ref w2)] [(.int (3 : Int32)), (.int (3 : Int32))]))
        refine own_up (fun tx kx => XS.icmpYes X27.here hx rfl (pc0 := 11) (pc' := 40) rfl (hb hby d7_11) rfl (flt (by decide)).2.1 (by decide) (by decide) kx) ?_
        show OwnOk p e below _ (T27.setTop (mkF m 40 #[.val (.ref a), .val (.ref bb11), .val (.int (3 : Int32)), .val (.int (3 : Int32)), .val (.ref w2)] []))
        refine own_up (fun tx kx => XS.aconstNull X27.here hx rfl (hb hby d7_40) kx) ?_
        show OwnOk p e below _ (T27.setTop (mkF m 41 #[.val (.ref a), .val (.ref bb11), .val (.int (3 : Int32)), .val (.int (3 : Int32)), .val (.ref w2)] [.null]))
        refine own_retR X27 hx (t := (.object "com/example/gridpost/gridpost/store/OperationKind")) (show meth.sig.returnType = some (.object "com/example/gridpost/gridpost/store/OperationKind") from hret) rfl hlk rfl (hb hby d7_41) hh27 (Nat.le_of_ble_eq_true rfl) (Nat.le_of_ble_eq_true rfl) ?_
        exact ⟨by rw [← hres]; unfold own_kind; rw [if_neg (fun q => q hz0), if_neg (fun q => q hz1), if_neg (fun q => q hz2)], N27, KP11⟩
      · refine own_up (fun tx kx => XS.ifNo X27.here hx rfl (hb hby d7_28) rfl ((if0 _ _).trans (feq hz2).1) kx) ?_
        show OwnOk p e below _ (T27.setTop (mkF m 31 #[.val (.ref a), .val (.ref bb11), .val (.int (3 : Int32)), .val (.int (2 : Int32)), .val (.ref w2)] []))
        refine own_up (fun tx kx => XS.aload X27.here hx rfl (hb hby d7_31) rfl rfl kx) ?_
        show OwnOk p e below _ (T27.setTop (mkF m 33 #[.val (.ref a), .val (.ref bb11), .val (.int (3 : Int32)), .val (.int (2 : Int32)), .val (.ref w2)] [(.ref w2)]))
        refine own_retR X27 hx (t := (.object "com/example/gridpost/gridpost/store/OperationKind")) (show meth.sig.returnType = some (.object "com/example/gridpost/gridpost/store/OperationKind") from hret) rfl hlk rfl (hb hby d7_33) hh27 (Nat.le_of_ble_eq_true rfl) (Nat.le_of_ble_eq_true rfl) ?_
        exact ⟨by rw [← hres]; unfold own_kind; rw [if_neg (fun q => q hz0), if_neg (fun q => q hz1), if_pos hz2], N27, KP11⟩
    · refine own_up (fun tx kx => XS.ifNo X23.here hx rfl (hb hby d7_28) rfl ((if0 _ _).trans (feq hz1).1) kx) ?_
      show OwnOk p e below _ (T23.setTop (mkF m 31 #[.val (.ref a), .val (.ref bb11), .val (.int (3 : Int32)), .val (.int (1 : Int32)), .val (.ref w1)] []))
      refine own_up (fun tx kx => XS.aload X23.here hx rfl (hb hby d7_31) rfl rfl kx) ?_
      show OwnOk p e below _ (T23.setTop (mkF m 33 #[.val (.ref a), .val (.ref bb11), .val (.int (3 : Int32)), .val (.int (1 : Int32)), .val (.ref w1)] [(.ref w1)]))
      refine own_retR X23 hx (t := (.object "com/example/gridpost/gridpost/store/OperationKind")) (show meth.sig.returnType = some (.object "com/example/gridpost/gridpost/store/OperationKind") from hret) rfl hlk rfl (hb hby d7_33) hh23 (Nat.le_of_ble_eq_true rfl) (Nat.le_of_ble_eq_true rfl) ?_
      exact ⟨by rw [← hres]; unfold own_kind; rw [if_neg (fun q => q hz0), if_pos hz1], N23, KP11⟩
  · refine own_up (fun tx kx => XS.ifNo X19.here hx rfl (hb hby d7_28) rfl ((if0 _ _).trans (feq hz0).1) kx) ?_
    show OwnOk p e below _ (T19.setTop (mkF m 31 #[.val (.ref a), .val (.ref bb11), .val (.int (3 : Int32)), .val (.int (0 : Int32)), .val (.ref w0)] []))
    refine own_up (fun tx kx => XS.aload X19.here hx rfl (hb hby d7_31) rfl rfl kx) ?_
    show OwnOk p e below _ (T19.setTop (mkF m 33 #[.val (.ref a), .val (.ref bb11), .val (.int (3 : Int32)), .val (.int (0 : Int32)), .val (.ref w0)] [(.ref w0)]))
    refine own_retR X19 hx (t := (.object "com/example/gridpost/gridpost/store/OperationKind")) (show meth.sig.returnType = some (.object "com/example/gridpost/gridpost/store/OperationKind") from hret) rfl hlk rfl (hb hby d7_33) hh19 (Nat.le_of_ble_eq_true rfl) (Nat.le_of_ble_eq_true rfl) ?_
    exact ⟨by rw [← hres]; unfold own_kind; rw [if_pos hz0], N19, KP11⟩
def Q_m_fromN (h0 : Heap) (n0 : Nat) (v : Option Value) (h : Heap) (L : List Loc) : Prop := v = some .null ∧ Fr n0 L ∧ Keep h0 h []
set_option maxRecDepth 65536 in
set_option maxHeartbeats 40000000 in
theorem m_fromN (l : Launch) (Z : State) (a0 : Array Value) (hw : ∀ d ∈ tables_1, d.before a0 Z = true) (w0 w1 w2 s0 s1 s2 u0 u1 u2 va : Addr) (k0 k1 k2 kva : ClassId) (cz : Int32) (h0 : Heap) (n0 : Nat) (OL : Old Z n0 h0) (SC : Sta Z Z.heap "java/lang/String" "COMPACT_STRINGS" "Z" (.int cz)) (hcz : ¬ cz = 0) (S0 : Sta Z Z.heap "com/example/gridpost/gridpost/store/OperationKind" "START" "Lcom/example/gridpost/gridpost/store/OperationKind;" (.ref w0)) (W0 : Exa Z Z.heap w0 "com/example/gridpost/gridpost/store/OperationKind") (F0 : Fld Z Z.heap w0 "com/example/gridpost/gridpost/store/OperationKind" "wireName" "Ljava/lang/String;" (.ref s0)) (E0 : Exa Z Z.heap s0 "java/lang/String") (G0 : Fld Z Z.heap s0 "java/lang/String" "value" "[B" (.ref u0)) (D0 : Fld Z Z.heap s0 "java/lang/String" "coder" "B" (.int (0 : Int32))) (V0 : Arv Z Z.heap u0 k0 .byte (Int32.ofNat 5) (own_F 5 (fun j => [(115 : Int32), (116 : Int32), (97 : Int32), (114 : Int32), (116 : Int32)].getD j 0)) (.int (0 : Int32))) (S1 : Sta Z Z.heap "com/example/gridpost/gridpost/store/OperationKind" "ABORT" "Lcom/example/gridpost/gridpost/store/OperationKind;" (.ref w1)) (W1 : Exa Z Z.heap w1 "com/example/gridpost/gridpost/store/OperationKind") (F1 : Fld Z Z.heap w1 "com/example/gridpost/gridpost/store/OperationKind" "wireName" "Ljava/lang/String;" (.ref s1)) (E1 : Exa Z Z.heap s1 "java/lang/String") (G1 : Fld Z Z.heap s1 "java/lang/String" "value" "[B" (.ref u1)) (D1 : Fld Z Z.heap s1 "java/lang/String" "coder" "B" (.int (0 : Int32))) (V1 : Arv Z Z.heap u1 k1 .byte (Int32.ofNat 5) (own_F 5 (fun j => [(97 : Int32), (98 : Int32), (111 : Int32), (114 : Int32), (116 : Int32)].getD j 0)) (.int (0 : Int32))) (S2 : Sta Z Z.heap "com/example/gridpost/gridpost/store/OperationKind" "PAUSE" "Lcom/example/gridpost/gridpost/store/OperationKind;" (.ref w2)) (W2 : Exa Z Z.heap w2 "com/example/gridpost/gridpost/store/OperationKind") (F2 : Fld Z Z.heap w2 "com/example/gridpost/gridpost/store/OperationKind" "wireName" "Ljava/lang/String;" (.ref s2)) (E2 : Exa Z Z.heap s2 "java/lang/String") (G2 : Fld Z Z.heap s2 "java/lang/String" "value" "[B" (.ref u2)) (D2 : Fld Z Z.heap s2 "java/lang/String" "coder" "B" (.int (0 : Int32))) (V2 : Arv Z Z.heap u2 k2 .byte (Int32.ofNat 5) (own_F 5 (fun j => [(112 : Int32), (97 : Int32), (117 : Int32), (115 : Int32), (101 : Int32)].getD j 0)) (.int (0 : Int32))) (SV : Sta Z Z.heap "com/example/gridpost/gridpost/store/OperationKind" "$VALUES" "[Lcom/example/gridpost/gridpost/store/OperationKind;" (.ref va)) (EV : Exa Z Z.heap va "[Lcom/example/gridpost/gridpost/store/OperationKind;") (VV : Arv Z Z.heap va kva (.object "com/example/gridpost/gridpost/store/OperationKind") (3 : Int32) [.ref w0, .ref w1, .ref w2] .null) :
    own_Met l Z (⟨"com/example/gridpost/gridpost/store/OperationKind", "fromWireName", "(Ljava/lang/String;)Lcom/example/gridpost/gridpost/store/OperationKind;"⟩ : MethodName) prog_40_method_5_code 5 (some (.object "com/example/gridpost/gridpost/store/OperationKind")) ({ frames := 2, cells := 1, slots := 3, locals := 32 } : Room) #[.null] h0 (Q_m_fromN h0 n0) := by
  refine own_body (L0 := #[.val .null, .unset, .unset, .unset, .unset]) (plainFor_of_name (by first | (simp [plainName, overriddenIn]; done) | decide +kernel)) (fun m => by first | (simp [entryFrame, mkF, argsToLocals, Value.category]; done) | rfl) ?_
  intro p e s m below meth c s₁ hx hby hml hZ hown hnm hret hlk X0 e0
  have N0 := Fr.nil n0
  have Z0 : n0 ≤ h0.size := OL.1 ▸ OL.2.1
  show OwnOk p e below _ (s₁.setTop (mkF m 0 #[.val .null, .unset, .unset, .unset, .unset] []))
  have KP0 : Keep h0 h0 [] := Keep.refl h0 _
  refine own_callS X0 hx hZ (y := (⟨"com/example/gridpost/gridpost/store/OperationKind", "values", "()[Lcom/example/gridpost/gridpost/store/OperationKind;"⟩ : MethodName)) hown (wd_44 hw) (wd_45 hw) (wd_42 hw) (wd_46 hw) (by decide) (m_values l Z a0 hw w0 w1 w2 s0 s1 s2 u0 u1 u2 va k0 k1 k2 kva h0 n0 OL S0 W0 F0 E0 G0 D0 V0 S1 W1 F1 E1 G1 D1 V1 S2 W2 F2 E2 G2 D2 V2 SV EV VV) e0 (argsL := []) (rest := []) (by rw [hml]; rfl) (lenOf pd_9 rfl) rfl rfl (W := 0) rfl (hb hby d7_0) (by decide) (by decide) (by decide) (by decide) (fun T11 v11 L11 X11 hQ11 => ?_)
  obtain ⟨bb11, kb11, rfl, Nq11, Kq11, gb11, vb11⟩ := hQ11
  have N11 := Fr.app N0 Nq11
  have n0_bb11 : n0 ≤ bb11 := Nat.le_trans (own_n0 OL) gb11
  have ws_bb11 : h0.size ≤ bb11 := Nat.le_trans KP0.1 gb11
  have OL11 := OL.keep Kq11 all0
  have KP11 := KP0.trans Kq11 all0
  show OwnOk p e below _ (T11.setTop (mkF m 3 #[.val .null, .unset, .unset, .unset, .unset] [(.ref bb11)]))
  refine own_up (fun tx kx => XS.astoreN X11.here hx rfl (hb hby d7_3) rfl rfl (l' := #[.val .null, .val (.ref bb11), .unset, .unset, .unset]) rfl kx) ?_
  show OwnOk p e below _ (T11.setTop (mkF m 4 #[.val .null, .val (.ref bb11), .unset, .unset, .unset] []))
  refine own_up (fun tx kx => XS.aloadN X11.here hx rfl (hb hby d7_4) rfl rfl kx) ?_
  show OwnOk p e below _ (T11.setTop (mkF m 5 #[.val .null, .val (.ref bb11), .unset, .unset, .unset] [(.ref bb11)]))
  obtain ⟨cl12, Ar12, qc12, Sz12, Nn12, Hs12, Gf12⟩ := id vb11
  have hlen12 : cl12.slots.size.toInt32 = (3 : Int32) := len_of Sz12 Nn12
  refine own_up (fun tx kx => X11.arraylength hx (own_ar rfl Ar12.1) (State.isArrayOf_alike hZ.alike Ar12.2.1) (g := (mkF m 5 #[.val .null, .val (.ref bb11), .unset, .unset, .unset] [(.ref bb11)])) rfl rfl (hb hby d7_5) _ kx) ?_
  rw [hlen12]
  show OwnOk p e below _ (T11.setTop (mkF m 6 #[.val .null, .val (.ref bb11), .unset, .unset, .unset] [(.int (3 : Int32))]))
  refine own_up (fun tx kx => XS.istoreN X11.here hx rfl (hb hby d7_6) rfl (l' := #[.val .null, .val (.ref bb11), .val (.int (3 : Int32)), .unset, .unset]) rfl kx) ?_
  show OwnOk p e below _ (T11.setTop (mkF m 7 #[.val .null, .val (.ref bb11), .val (.int (3 : Int32)), .unset, .unset] []))
  refine own_up (fun tx kx => XS.iconst X11.here hx rfl (hb hby d7_7) kx) ?_
  show OwnOk p e below _ (T11.setTop (mkF m 8 #[.val .null, .val (.ref bb11), .val (.int (3 : Int32)), .unset, .unset] [(.int (0 : Int32))]))
  refine own_up (fun tx kx => XS.istoreN X11.here hx rfl (hb hby d7_8) rfl (l' := #[.val .null, .val (.ref bb11), .val (.int (3 : Int32)), .val (.int (0 : Int32)), .unset]) rfl kx) ?_
  show OwnOk p e below _ (T11.setTop (mkF m 9 #[.val .null, .val (.ref bb11), .val (.int (3 : Int32)), .val (.int (0 : Int32)), .unset] []))
  refine own_up (fun tx kx => XS.iloadN X11.here hx rfl (hb hby d7_9) rfl kx) ?_
  show OwnOk p e below _ (T11.setTop (mkF m 10 #[.val .null, .val (.ref bb11), .val (.int (3 : Int32)), .val (.int (0 : Int32)), .unset] [(.int (0 : Int32))]))
  refine own_up (fun tx kx => XS.iloadN X11.here hx rfl (hb hby d7_10) rfl kx) ?_
  show OwnOk p e below _ (T11.setTop (mkF m 11 #[.val .null, .val (.ref bb11), .val (.int (3 : Int32)), .val (.int (0 : Int32)), .unset] [(.int (3 : Int32)), (.int (0 : Int32))]))
  refine own_up (fun tx kx => XS.icmpNo X11.here hx rfl (hb hby d7_11) rfl (tlt (by decide)).2.1 kx) ?_
  show OwnOk p e below _ (T11.setTop (mkF m 14 #[.val .null, .val (.ref bb11), .val (.int (3 : Int32)), .val (.int (0 : Int32)), .unset] []))
  refine own_up (fun tx kx => XS.aloadN X11.here hx rfl (hb hby d7_14) rfl rfl kx) ?_
  show OwnOk p e below _ (T11.setTop (mkF m 15 #[.val .null, .val (.ref bb11), .val (.int (3 : Int32)), .val (.int (0 : Int32)), .unset] [(.ref bb11)]))
  refine own_up (fun tx kx => XS.iloadN X11.here hx rfl (hb hby d7_15) rfl kx) ?_
  show OwnOk p e below _ (T11.setTop (mkF m 16 #[.val .null, .val (.ref bb11), .val (.int (3 : Int32)), .val (.int (0 : Int32)), .unset] [(.int (0 : Int32)), (.ref bb11)]))
  obtain ⟨cl13, Ar13, qc13, Sz13, Nn13, Hs13, Gf13⟩ := id vb11
  have hin13 : ¬ ((0 : Int32) < 0 ∨ cl13.slots.size ≤ ((0 : Int32)).toNatClampNeg) := inb_of Sz13 ⟨by decide, by decide⟩
  have hat13 : cl13.slots[((0 : Int32)).toNatClampNeg]? = some (.ref w0) := Hs13.at hin13 rfl
  refine own_up (fun tx kx => X11.aaload hx (j := (0 : Int32)) (v := (.ref w0)) (own_ar rfl Ar13.1) (State.isArrayOf_alike hZ.alike Ar13.2.1) rfl Ar13.2.2 hin13 hat13 (g := (mkF m 16 #[.val .null, .val (.ref bb11), .val (.int (3 : Int32)), .val (.int (0 : Int32)), .unset] [(.int (0 : Int32)), (.ref bb11)])) rfl rfl (hb hby d7_16) _ kx) ?_
  show OwnOk p e below _ (T11.setTop (mkF m 17 #[.val .null, .val (.ref bb11), .val (.int (3 : Int32)), .val (.int (0 : Int32)), .unset] [(.ref w0)]))
  refine own_up (fun tx kx => XS.astore X11.here hx rfl (hb hby d7_17) rfl rfl (l' := #[.val .null, .val (.ref bb11), .val (.int (3 : Int32)), .val (.int (0 : Int32)), .val (.ref w0)]) rfl kx) ?_
  show OwnOk p e below _ (T11.setTop (mkF m 19 #[.val .null, .val (.ref bb11), .val (.int (3 : Int32)), .val (.int (0 : Int32)), .val (.ref w0)] []))
  refine own_up (fun tx kx => XS.aload X11.here hx rfl (hb hby d7_19) rfl rfl kx) ?_
  show OwnOk p e below _ (T11.setTop (mkF m 21 #[.val .null, .val (.ref bb11), .val (.int (3 : Int32)), .val (.int (0 : Int32)), .val (.ref w0)] [(.ref w0)]))
  obtain ⟨T14, X14, e14, st14⟩ := getF X11 hx hZ hown (host := "") (Or.inl (wd_62 hw)) Via.refl rfl (F0.ext OL11.2) (g := (mkF m 21 #[.val .null, .val (.ref bb11), .val (.int (3 : Int32)), .val (.int (0 : Int32)), .val (.ref w0)] [(.ref w0)])) rfl rfl (hb hby d7_21)
  refine own_up st14 ?_
  show OwnOk p e below _ (T14.setTop (mkF m 24 #[.val .null, .val (.ref bb11), .val (.int (3 : Int32)), .val (.int (0 : Int32)), .val (.ref w0)] [(.ref s0)]))
  refine own_up (fun tx kx => XS.aloadN X14.here hx rfl (hb hby d7_24) rfl rfl kx) ?_
  show OwnOk p e below _ (T14.setTop (mkF m 25 #[.val .null, .val (.ref bb11), .val (.int (3 : Int32)), .val (.int (0 : Int32)), .val (.ref w0)] [.null, (.ref s0)]))
  refine own_callV X14 hx hZ (y := (⟨"java/lang/String", "equals", "(Ljava/lang/Object;)Z"⟩ : MethodName)) (z := (⟨"java/lang/String", "equals", "(Ljava/lang/Object;)Z"⟩ : MethodName)) hown (wd_64 hw) (wd_65 hw) (notFace_of_selects (args := #[]) (mvT hZ (wd_67 hw))) (wd_67 hw) (wd_66 hw) (wd_2 hw) (wd_68 hw) (by decide) (j_eqN l Z a0 hw s0 T11.heap n0 OL11) e14 (argsL := [.null]) (rest := []) (E0.ext OL11.2) (by rw [hml]; rfl) (lenOf pd_10 rfl) rfl rfl (W := 0) rfl (hb hby d7_25) (by decide) (by decide) (by decide) (by decide) (fun T15 v15 L15 X15 hQ15 => ?_)
  obtain ⟨rfl, Nq15, hh15⟩ := hQ15
  have N15 := Fr.app N11 Nq15
  show OwnOk p e below _ (T15.setTop (mkF m 28 #[.val .null, .val (.ref bb11), .val (.int (3 : Int32)), .val (.int (0 : Int32)), .val (.ref w0)] [(.int (0 : Int32))]))
  refine own_up (fun tx kx => XS.ifYes X15.here hx rfl (pc0 := 28) (pc' := 34) rfl (hb hby d7_28) rfl ((if0 _ _).trans (teq rfl).1) (by decide) (by decide) kx) ?_
  show OwnOk p e below _ (T15.setTop (mkF m 34 #[.val .null, .val (.ref bb11), .val (.int (3 : Int32)), .val (.int (0 : Int32)), .val (.ref w0)] []))
  have hi34_16 : ((0 : Int32) + (1 : Int32)) = (1 : Int32) := by decide
  refine own_up (fun tx kx => XS.iinc X15.here hx rfl (hb hby d7_34) rfl (l' := #[.val .null, .val (.ref bb11), .val (.int (3 : Int32)), .val (.int ((0 : Int32) + (1 : Int32))), .val (.ref w0)]) rfl kx) ?_
  rw [hi34_16]
  show OwnOk p e below _ (T15.setTop (mkF m 37 #[.val .null, .val (.ref bb11), .val (.int (3 : Int32)), .val (.int (1 : Int32)), .val (.ref w0)] []))
  refine own_up (fun tx kx => XS.goto X15.here hx rfl (pc0 := 37) (pc' := 9) rfl (hb hby d7_37) (by decide) (by decide) kx) ?_
  show OwnOk p e below _ (T15.setTop (mkF m 9 #[.val .null, .val (.ref bb11), .val (.int (3 : Int32)), .val (.int (1 : Int32)), .val (.ref w0)] []))
  refine own_up (fun tx kx => XS.iloadN X15.here hx rfl (hb hby d7_9) rfl kx) ?_
  show OwnOk p e below _ (T15.setTop (mkF m 10 #[.val .null, .val (.ref bb11), .val (.int (3 : Int32)), .val (.int (1 : Int32)), .val (.ref w0)] [(.int (1 : Int32))]))
  refine own_up (fun tx kx => XS.iloadN X15.here hx rfl (hb hby d7_10) rfl kx) ?_
  show OwnOk p e below _ (T15.setTop (mkF m 11 #[.val .null, .val (.ref bb11), .val (.int (3 : Int32)), .val (.int (1 : Int32)), .val (.ref w0)] [(.int (3 : Int32)), (.int (1 : Int32))]))
  refine own_up (fun tx kx => XS.icmpNo X15.here hx rfl (hb hby d7_11) rfl (tlt (by decide)).2.1 kx) ?_
  show OwnOk p e below _ (T15.setTop (mkF m 14 #[.val .null, .val (.ref bb11), .val (.int (3 : Int32)), .val (.int (1 : Int32)), .val (.ref w0)] []))
  refine own_up (fun tx kx => XS.aloadN X15.here hx rfl (hb hby d7_14) rfl rfl kx) ?_
  show OwnOk p e below _ (T15.setTop (mkF m 15 #[.val .null, .val (.ref bb11), .val (.int (3 : Int32)), .val (.int (1 : Int32)), .val (.ref w0)] [(.ref bb11)]))
  refine own_up (fun tx kx => XS.iloadN X15.here hx rfl (hb hby d7_15) rfl kx) ?_
  show OwnOk p e below _ (T15.setTop (mkF m 16 #[.val .null, .val (.ref bb11), .val (.int (3 : Int32)), .val (.int (1 : Int32)), .val (.ref w0)] [(.int (1 : Int32)), (.ref bb11)]))
  obtain ⟨cl17, Ar17, qc17, Sz17, Nn17, Hs17, Gf17⟩ := id vb11
  have hin17 : ¬ ((1 : Int32) < 0 ∨ cl17.slots.size ≤ ((1 : Int32)).toNatClampNeg) := inb_of Sz17 ⟨by decide, by decide⟩
  have hat17 : cl17.slots[((1 : Int32)).toNatClampNeg]? = some (.ref w1) := Hs17.at hin17 rfl
  refine own_up (fun tx kx => X15.aaload hx (j := (1 : Int32)) (v := (.ref w1)) (own_ar hh15 Ar17.1) (State.isArrayOf_alike hZ.alike Ar17.2.1) rfl Ar17.2.2 hin17 hat17 (g := (mkF m 16 #[.val .null, .val (.ref bb11), .val (.int (3 : Int32)), .val (.int (1 : Int32)), .val (.ref w0)] [(.int (1 : Int32)), (.ref bb11)])) rfl rfl (hb hby d7_16) _ kx) ?_
  show OwnOk p e below _ (T15.setTop (mkF m 17 #[.val .null, .val (.ref bb11), .val (.int (3 : Int32)), .val (.int (1 : Int32)), .val (.ref w0)] [(.ref w1)]))
  refine own_up (fun tx kx => XS.astore X15.here hx rfl (hb hby d7_17) rfl rfl (l' := #[.val .null, .val (.ref bb11), .val (.int (3 : Int32)), .val (.int (1 : Int32)), .val (.ref w1)]) rfl kx) ?_
  show OwnOk p e below _ (T15.setTop (mkF m 19 #[.val .null, .val (.ref bb11), .val (.int (3 : Int32)), .val (.int (1 : Int32)), .val (.ref w1)] []))
  refine own_up (fun tx kx => XS.aload X15.here hx rfl (hb hby d7_19) rfl rfl kx) ?_
  show OwnOk p e below _ (T15.setTop (mkF m 21 #[.val .null, .val (.ref bb11), .val (.int (3 : Int32)), .val (.int (1 : Int32)), .val (.ref w1)] [(.ref w1)]))
  obtain ⟨T18, X18, e18, st18⟩ := getF X15 hx hZ hown (host := "") (Or.inl (wd_62 hw)) Via.refl hh15 (F1.ext OL11.2) (g := (mkF m 21 #[.val .null, .val (.ref bb11), .val (.int (3 : Int32)), .val (.int (1 : Int32)), .val (.ref w1)] [(.ref w1)])) rfl rfl (hb hby d7_21)
  refine own_up st18 ?_
  show OwnOk p e below _ (T18.setTop (mkF m 24 #[.val .null, .val (.ref bb11), .val (.int (3 : Int32)), .val (.int (1 : Int32)), .val (.ref w1)] [(.ref s1)]))
  refine own_up (fun tx kx => XS.aloadN X18.here hx rfl (hb hby d7_24) rfl rfl kx) ?_
  show OwnOk p e below _ (T18.setTop (mkF m 25 #[.val .null, .val (.ref bb11), .val (.int (3 : Int32)), .val (.int (1 : Int32)), .val (.ref w1)] [.null, (.ref s1)]))
  refine own_callV X18 hx hZ (y := (⟨"java/lang/String", "equals", "(Ljava/lang/Object;)Z"⟩ : MethodName)) (z := (⟨"java/lang/String", "equals", "(Ljava/lang/Object;)Z"⟩ : MethodName)) hown (wd_64 hw) (wd_65 hw) (notFace_of_selects (args := #[]) (mvT hZ (wd_67 hw))) (wd_67 hw) (wd_66 hw) (wd_2 hw) (wd_68 hw) (by decide) (j_eqN l Z a0 hw s1 T11.heap n0 OL11) e18 (argsL := [.null]) (rest := []) (E1.ext OL11.2) (by rw [hml]; rfl) (lenOf pd_10 rfl) rfl rfl (W := 0) rfl (hb hby d7_25) (by decide) (by decide) (by decide) (by decide) (fun T19 v19 L19 X19 hQ19 => ?_)
  obtain ⟨rfl, Nq19, hh19⟩ := hQ19
  have N19 := Fr.app N15 Nq19
  show OwnOk p e below _ (T19.setTop (mkF m 28 #[.val .null, .val (.ref bb11), .val (.int (3 : Int32)), .val (.int (1 : Int32)), .val (.ref w1)] [(.int (0 : Int32))]))
  refine own_up (fun tx kx => XS.ifYes X19.here hx rfl (pc0 := 28) (pc' := 34) rfl (hb hby d7_28) rfl ((if0 _ _).trans (teq rfl).1) (by decide) (by decide) kx) ?_
  show OwnOk p e below _ (T19.setTop (mkF m 34 #[.val .null, .val (.ref bb11), .val (.int (3 : Int32)), .val (.int (1 : Int32)), .val (.ref w1)] []))
  have hi34_20 : ((1 : Int32) + (1 : Int32)) = (2 : Int32) := by decide
  refine own_up (fun tx kx => XS.iinc X19.here hx rfl (hb hby d7_34) rfl (l' := #[.val .null, .val (.ref bb11), .val (.int (3 : Int32)), .val (.int ((1 : Int32) + (1 : Int32))), .val (.ref w1)]) rfl kx) ?_
  rw [hi34_20]
  show OwnOk p e below _ (T19.setTop (mkF m 37 #[.val .null, .val (.ref bb11), .val (.int (3 : Int32)), .val (.int (2 : Int32)), .val (.ref w1)] []))
  refine own_up (fun tx kx => XS.goto X19.here hx rfl (pc0 := 37) (pc' := 9) rfl (hb hby d7_37) (by decide) (by decide) kx) ?_
  show OwnOk p e below _ (T19.setTop (mkF m 9 #[.val .null, .val (.ref bb11), .val (.int (3 : Int32)), .val (.int (2 : Int32)), .val (.ref w1)] []))
  refine own_up (fun tx kx => XS.iloadN X19.here hx rfl (hb hby d7_9) rfl kx) ?_
  show OwnOk p e below _ (T19.setTop (mkF m 10 #[.val .null, .val (.ref bb11), .val (.int (3 : Int32)), .val (.int (2 : Int32)), .val (.ref w1)] [(.int (2 : Int32))]))
  refine own_up (fun tx kx => XS.iloadN X19.here hx rfl (hb hby d7_10) rfl kx) ?_
  show OwnOk p e below _ (T19.setTop (mkF m 11 #[.val .null, .val (.ref bb11), .val (.int (3 : Int32)), .val (.int (2 : Int32)), .val (.ref w1)] [(.int (3 : Int32)), (.int (2 : Int32))]))
  refine own_up (fun tx kx => XS.icmpNo X19.here hx rfl (hb hby d7_11) rfl (tlt (by decide)).2.1 kx) ?_
  show OwnOk p e below _ (T19.setTop (mkF m 14 #[.val .null, .val (.ref bb11), .val (.int (3 : Int32)), .val (.int (2 : Int32)), .val (.ref w1)] []))
  refine own_up (fun tx kx => XS.aloadN X19.here hx rfl (hb hby d7_14) rfl rfl kx) ?_
  show OwnOk p e below _ (T19.setTop (mkF m 15 #[.val .null, .val (.ref bb11), .val (.int (3 : Int32)), .val (.int (2 : Int32)), .val (.ref w1)] [(.ref bb11)]))
  refine own_up (fun tx kx => XS.iloadN X19.here hx rfl (hb hby d7_15) rfl kx) ?_
  show OwnOk p e below _ (T19.setTop (mkF m 16 #[.val .null, .val (.ref bb11), .val (.int (3 : Int32)), .val (.int (2 : Int32)), .val (.ref w1)] [(.int (2 : Int32)), (.ref bb11)]))
  obtain ⟨cl21, Ar21, qc21, Sz21, Nn21, Hs21, Gf21⟩ := id vb11
  have hin21 : ¬ ((2 : Int32) < 0 ∨ cl21.slots.size ≤ ((2 : Int32)).toNatClampNeg) := inb_of Sz21 ⟨by decide, by decide⟩
  have hat21 : cl21.slots[((2 : Int32)).toNatClampNeg]? = some (.ref w2) := Hs21.at hin21 rfl
  refine own_up (fun tx kx => X19.aaload hx (j := (2 : Int32)) (v := (.ref w2)) (own_ar hh19 Ar21.1) (State.isArrayOf_alike hZ.alike Ar21.2.1) rfl Ar21.2.2 hin21 hat21 (g := (mkF m 16 #[.val .null, .val (.ref bb11), .val (.int (3 : Int32)), .val (.int (2 : Int32)), .val (.ref w1)] [(.int (2 : Int32)), (.ref bb11)])) rfl rfl (hb hby d7_16) _ kx) ?_
  show OwnOk p e below _ (T19.setTop (mkF m 17 #[.val .null, .val (.ref bb11), .val (.int (3 : Int32)), .val (.int (2 : Int32)), .val (.ref w1)] [(.ref w2)]))
  refine own_up (fun tx kx => XS.astore X19.here hx rfl (hb hby d7_17) rfl rfl (l' := #[.val .null, .val (.ref bb11), .val (.int (3 : Int32)), .val (.int (2 : Int32)), .val (.ref w2)]) rfl kx) ?_
  show OwnOk p e below _ (T19.setTop (mkF m 19 #[.val .null, .val (.ref bb11), .val (.int (3 : Int32)), .val (.int (2 : Int32)), .val (.ref w2)] []))
  refine own_up (fun tx kx => XS.aload X19.here hx rfl (hb hby d7_19) rfl rfl kx) ?_
  show OwnOk p e below _ (T19.setTop (mkF m 21 #[.val .null, .val (.ref bb11), .val (.int (3 : Int32)), .val (.int (2 : Int32)), .val (.ref w2)] [(.ref w2)]))
  obtain ⟨T22, X22, e22, st22⟩ := getF X19 hx hZ hown (host := "") (Or.inl (wd_62 hw)) Via.refl hh19 (F2.ext OL11.2) (g := (mkF m 21 #[.val .null, .val (.ref bb11), .val (.int (3 : Int32)), .val (.int (2 : Int32)), .val (.ref w2)] [(.ref w2)])) rfl rfl (hb hby d7_21)
  refine own_up st22 ?_
  show OwnOk p e below _ (T22.setTop (mkF m 24 #[.val .null, .val (.ref bb11), .val (.int (3 : Int32)), .val (.int (2 : Int32)), .val (.ref w2)] [(.ref s2)]))
  refine own_up (fun tx kx => XS.aloadN X22.here hx rfl (hb hby d7_24) rfl rfl kx) ?_
  show OwnOk p e below _ (T22.setTop (mkF m 25 #[.val .null, .val (.ref bb11), .val (.int (3 : Int32)), .val (.int (2 : Int32)), .val (.ref w2)] [.null, (.ref s2)]))
  refine own_callV X22 hx hZ (y := (⟨"java/lang/String", "equals", "(Ljava/lang/Object;)Z"⟩ : MethodName)) (z := (⟨"java/lang/String", "equals", "(Ljava/lang/Object;)Z"⟩ : MethodName)) hown (wd_64 hw) (wd_65 hw) (notFace_of_selects (args := #[]) (mvT hZ (wd_67 hw))) (wd_67 hw) (wd_66 hw) (wd_2 hw) (wd_68 hw) (by decide) (j_eqN l Z a0 hw s2 T11.heap n0 OL11) e22 (argsL := [.null]) (rest := []) (E2.ext OL11.2) (by rw [hml]; rfl) (lenOf pd_10 rfl) rfl rfl (W := 0) rfl (hb hby d7_25) (by decide) (by decide) (by decide) (by decide) (fun T23 v23 L23 X23 hQ23 => ?_)
  obtain ⟨rfl, Nq23, hh23⟩ := hQ23
  have N23 := Fr.app N19 Nq23
  show OwnOk p e below _ (T23.setTop (mkF m 28 #[.val .null, .val (.ref bb11), .val (.int (3 : Int32)), .val (.int (2 : Int32)), .val (.ref w2)] [(.int (0 : Int32))]))
  refine own_up (fun tx kx => XS.ifYes X23.here hx rfl (pc0 := 28) (pc' := 34) rfl (hb hby d7_28) rfl ((if0 _ _).trans (teq rfl).1) (by decide) (by decide) kx) ?_
  show OwnOk p e below _ (T23.setTop (mkF m 34 #[.val .null, .val (.ref bb11), .val (.int (3 : Int32)), .val (.int (2 : Int32)), .val (.ref w2)] []))
  have hi34_24 : ((2 : Int32) + (1 : Int32)) = (3 : Int32) := by decide
  refine own_up (fun tx kx => XS.iinc X23.here hx rfl (hb hby d7_34) rfl (l' := #[.val .null, .val (.ref bb11), .val (.int (3 : Int32)), .val (.int ((2 : Int32) + (1 : Int32))), .val (.ref w2)]) rfl kx) ?_
  rw [hi34_24]
  show OwnOk p e below _ (T23.setTop (mkF m 37 #[.val .null, .val (.ref bb11), .val (.int (3 : Int32)), .val (.int (3 : Int32)), .val (.ref w2)] []))
  refine own_up (fun tx kx => XS.goto X23.here hx rfl (pc0 := 37) (pc' := 9) rfl (hb hby d7_37) (by decide) (by decide) kx) ?_
  show OwnOk p e below _ (T23.setTop (mkF m 9 #[.val .null, .val (.ref bb11), .val (.int (3 : Int32)), .val (.int (3 : Int32)), .val (.ref w2)] []))
  refine own_up (fun tx kx => XS.iloadN X23.here hx rfl (hb hby d7_9) rfl kx) ?_
  show OwnOk p e below _ (T23.setTop (mkF m 10 #[.val .null, .val (.ref bb11), .val (.int (3 : Int32)), .val (.int (3 : Int32)), .val (.ref w2)] [(.int (3 : Int32))]))
  refine own_up (fun tx kx => XS.iloadN X23.here hx rfl (hb hby d7_10) rfl kx) ?_
  show OwnOk p e below _ (T23.setTop (mkF m 11 #[.val .null, .val (.ref bb11), .val (.int (3 : Int32)), .val (.int (3 : Int32)), .val (.ref w2)] [(.int (3 : Int32)), (.int (3 : Int32))]))
  refine own_up (fun tx kx => XS.icmpYes X23.here hx rfl (pc0 := 11) (pc' := 40) rfl (hb hby d7_11) rfl (flt (by decide)).2.1 (by decide) (by decide) kx) ?_
  show OwnOk p e below _ (T23.setTop (mkF m 40 #[.val .null, .val (.ref bb11), .val (.int (3 : Int32)), .val (.int (3 : Int32)), .val (.ref w2)] []))
  refine own_up (fun tx kx => XS.aconstNull X23.here hx rfl (hb hby d7_40) kx) ?_
  show OwnOk p e below _ (T23.setTop (mkF m 41 #[.val .null, .val (.ref bb11), .val (.int (3 : Int32)), .val (.int (3 : Int32)), .val (.ref w2)] [.null]))
  refine own_retR X23 hx (t := (.object "com/example/gridpost/gridpost/store/OperationKind")) (show meth.sig.returnType = some (.object "com/example/gridpost/gridpost/store/OperationKind") from hret) rfl hlk rfl (hb hby d7_41) hh23 (Nat.le_of_ble_eq_true rfl) (Nat.le_of_ble_eq_true rfl) ?_
  exact ⟨rfl, N23, KP11⟩
def Q_m_exp (res : Value) (h0 : Heap) (n0 : Nat) (v : Option Value) (h : Heap) (L : List Loc) : Prop := v = some res ∧ Fr n0 L ∧ Keep h0 h []
set_option maxRecDepth 65536 in
set_option maxHeartbeats 40000000 in
theorem m_exp (l : Launch) (Z : State) (a0 : Array Value) (hw : ∀ d ∈ tables_1, d.before a0 Z = true) (w0 w1 w2 s0 s1 s2 u0 u1 u2 va : Addr) (k0 k1 k2 kva : ClassId) (a u : Addr) (ku : ClassId) (ln : Nat) (g : Nat → Int32) (cz : Int32) (res : Value) (h0 : Heap) (n0 : Nat) (OL : Old Z n0 h0) (SC : Sta Z Z.heap "java/lang/String" "COMPACT_STRINGS" "Z" (.int cz)) (hcz : ¬ cz = 0) (S0 : Sta Z Z.heap "com/example/gridpost/gridpost/store/OperationKind" "START" "Lcom/example/gridpost/gridpost/store/OperationKind;" (.ref w0)) (W0 : Exa Z Z.heap w0 "com/example/gridpost/gridpost/store/OperationKind") (F0 : Fld Z Z.heap w0 "com/example/gridpost/gridpost/store/OperationKind" "wireName" "Ljava/lang/String;" (.ref s0)) (E0 : Exa Z Z.heap s0 "java/lang/String") (G0 : Fld Z Z.heap s0 "java/lang/String" "value" "[B" (.ref u0)) (D0 : Fld Z Z.heap s0 "java/lang/String" "coder" "B" (.int (0 : Int32))) (V0 : Arv Z Z.heap u0 k0 .byte (Int32.ofNat 5) (own_F 5 (fun j => [(115 : Int32), (116 : Int32), (97 : Int32), (114 : Int32), (116 : Int32)].getD j 0)) (.int (0 : Int32))) (S1 : Sta Z Z.heap "com/example/gridpost/gridpost/store/OperationKind" "ABORT" "Lcom/example/gridpost/gridpost/store/OperationKind;" (.ref w1)) (W1 : Exa Z Z.heap w1 "com/example/gridpost/gridpost/store/OperationKind") (F1 : Fld Z Z.heap w1 "com/example/gridpost/gridpost/store/OperationKind" "wireName" "Ljava/lang/String;" (.ref s1)) (E1 : Exa Z Z.heap s1 "java/lang/String") (G1 : Fld Z Z.heap s1 "java/lang/String" "value" "[B" (.ref u1)) (D1 : Fld Z Z.heap s1 "java/lang/String" "coder" "B" (.int (0 : Int32))) (V1 : Arv Z Z.heap u1 k1 .byte (Int32.ofNat 5) (own_F 5 (fun j => [(97 : Int32), (98 : Int32), (111 : Int32), (114 : Int32), (116 : Int32)].getD j 0)) (.int (0 : Int32))) (S2 : Sta Z Z.heap "com/example/gridpost/gridpost/store/OperationKind" "PAUSE" "Lcom/example/gridpost/gridpost/store/OperationKind;" (.ref w2)) (W2 : Exa Z Z.heap w2 "com/example/gridpost/gridpost/store/OperationKind") (F2 : Fld Z Z.heap w2 "com/example/gridpost/gridpost/store/OperationKind" "wireName" "Ljava/lang/String;" (.ref s2)) (E2 : Exa Z Z.heap s2 "java/lang/String") (G2 : Fld Z Z.heap s2 "java/lang/String" "value" "[B" (.ref u2)) (D2 : Fld Z Z.heap s2 "java/lang/String" "coder" "B" (.int (0 : Int32))) (V2 : Arv Z Z.heap u2 k2 .byte (Int32.ofNat 5) (own_F 5 (fun j => [(112 : Int32), (97 : Int32), (117 : Int32), (115 : Int32), (101 : Int32)].getD j 0)) (.int (0 : Int32))) (SV : Sta Z Z.heap "com/example/gridpost/gridpost/store/OperationKind" "$VALUES" "[Lcom/example/gridpost/gridpost/store/OperationKind;" (.ref va)) (EV : Exa Z Z.heap va "[Lcom/example/gridpost/gridpost/store/OperationKind;") (VV : Arv Z Z.heap va kva (.object "com/example/gridpost/gridpost/store/OperationKind") (3 : Int32) [.ref w0, .ref w1, .ref w2] .null) (E_a : Exa Z h0 a "java/lang/String") (F_value_a : Fld Z h0 a "java/lang/String" "value" "[B" (.ref u)) (F_coder_a : Fld Z h0 a "java/lang/String" "coder" "B" (.int (0 : Int32))) (V_u : Arv Z h0 u ku .byte (Int32.ofNat ln) (own_F ln g) (.int (0 : Int32))) (hln : ln ≤ 6) (hres : own_kind ln g w0 w1 w2 = res) :
    own_MetH l Z own_EL [] (⟨"com/example/gridpost/gridpost/store/OperationKindFromWireNamePinLaw", "expected", "(Ljava/lang/String;)Lcom/example/gridpost/gridpost/store/OperationKind;"⟩ : MethodName) method_4_code 1 (some (.object "com/example/gridpost/gridpost/store/OperationKind")) ({ frames := 2, cells := 6, slots := 72, locals := 30 } : Room) #[(.ref a)] h0 (Q_m_exp res h0 n0) := by
  refine own_bodyH (L0 := #[.val (.ref a)]) (plainFor_of_name (by first | (simp [plainName, overriddenIn]; done) | decide +kernel)) (fun m => by first | (simp [entryFrame, mkF, argsToLocals, Value.category]; done) | rfl) ?_
  intro p e s m below meth c s₁ hx hby hml hZ hown hnm hret hlk X0 e0 hB hsf
  have N0 := Fr.nil n0
  have Z0 : n0 ≤ h0.size := OL.1 ▸ OL.2.1
  show OwnOk p e below _ (s₁.setTop (mkF m 0 #[.val (.ref a)] []))
  have KP0 : Keep h0 h0 [] := Keep.refl h0 _
  refine own_up (fun tx kx => XS.aloadN X0.here hx rfl (hb hby d11_0) rfl rfl kx) ?_
  show OwnOk p e below _ (s₁.setTop (mkF m 1 #[.val (.ref a)] [(.ref a)]))
  refine own_up (fun tx kx => XS.ifnonnullYes X0.here hx rfl (pc0 := 1) (pc' := 6) rfl (hb hby d11_1) rfl (by decide) (by decide) kx) ?_
  show OwnOk p e below _ (s₁.setTop (mkF m 6 #[.val (.ref a)] []))
  refine own_up (fun tx kx => XS.aloadN X0.here hx rfl (hb hby d11_6) rfl rfl kx) ?_
  show OwnOk p e below _ (s₁.setTop (mkF m 7 #[.val (.ref a)] [(.ref a)]))
  refine own_ldcH X0 hB hx hZ (own_ew hw) hown (by decide) (wd_1 hw) (own_wS hw) e0 (vs := own_F 5 (fun j => [(115 : Int32), (116 : Int32), (97 : Int32), (114 : Int32), (116 : Int32)].getD j 0)) (z := Int32.ofNat 5) ⟨by decide, by decide⟩ (by decide) (by decide) (hb hby d11_7) (n := 20) (by decide) (by decide) (by decide) (by decide) (fun s11 ls11 lv11 kv11 T11 h11 X11 hB11 hZ11 hown11 e11 E11 xa11 fc11 fv11 av11 sf11 => ?_)
  have OL11 := OL.ext E11
  have KP11 := KP0.ext E11
  show OwnOk p e below _ (T11.setTop (mkF m 9 #[.val (.ref a)] [(.ref ls11), (.ref a)]))
  have E_a_12 := (E_a.ext E11)
  have F_value_a_13 := (F_value_a.ext E11)
  have F_coder_a_14 := (F_coder_a.ext E11)
  have V_u_15 := (V_u.ext E11)
  refine own_callV X11 hx hZ11 (y := (⟨"java/lang/String", "equals", "(Ljava/lang/Object;)Z"⟩ : MethodName)) (z := (⟨"java/lang/String", "equals", "(Ljava/lang/Object;)Z"⟩ : MethodName)) hown11 (wd_77 hw) (wd_65 hw) (notFace_of_selects (args := #[]) (mvT hZ11 (wd_67 hw))) (wd_67 hw) (wd_66 hw) (wd_2 hw) (wd_68 hw) (by decide) (j_eq l Z a0 hw a u ku ln g ls11 lv11 kv11 5 (fun j => [(115 : Int32), (116 : Int32), (97 : Int32), (114 : Int32), (116 : Int32)].getD j 0) cz h11 n0 OL11 SC hcz E_a_12 F_value_a_13 F_coder_a_14 V_u_15 xa11 fv11 fc11 av11 (by omega) (by decide) (Or.inr rfl)) e11 (argsL := [(.ref ls11)]) (rest := []) E_a_12 (by rw [hml]; rfl) (lenOf pd_10 rfl) rfl rfl (W := 0) rfl (hb hby d11_9) (by decide) (by decide) (by decide) (by decide) (fun T16 v16 L16 X16 hQ16 => ?_)
  obtain ⟨rfl, Nq16, hh16⟩ := hQ16
  have N16 := Fr.app N0 Nq16
  show OwnOk p e below _ (T16.setTop (mkF m 12 #[.val (.ref a)] [(.int (own_eqI ln g 5 (fun j => [(115 : Int32), (116 : Int32), (97 : Int32), (114 : Int32), (116 : Int32)].getD j 0)))]))
  by_cases hz0 : (own_eqI ln g 5 (fun j => [(115 : Int32), (116 : Int32), (97 : Int32), (114 : Int32), (116 : Int32)].getD j 0)) = (0 : Int32)
  · refine own_up (fun tx kx => XS.ifYes X16.here hx rfl (pc0 := 12) (pc' := 19) rfl (hb hby d11_12) rfl ((if0 _ _).trans (teq hz0).1) (by decide) (by decide) kx) ?_
    show OwnOk p e below _ (T16.setTop (mkF m 19 #[.val (.ref a)] []))
    refine own_up (fun tx kx => XS.aloadN X16.here hx rfl (hb hby d11_19) rfl rfl kx) ?_
    show OwnOk p e below _ (T16.setTop (mkF m 20 #[.val (.ref a)] [(.ref a)]))
    refine own_ldcH X16 hB11 hx hZ11 (own_ew hw) hown11 (by decide) (wd_78 hw) (own_wS hw) hh16 (vs := own_F 5 (fun j => [(97 : Int32), (98 : Int32), (111 : Int32), (114 : Int32), (116 : Int32)].getD j 0)) (z := Int32.ofNat 5) ⟨by decide, by decide⟩ (by decide) (by decide) (hb hby d11_20) (n := 20) (by decide) (by decide) (by decide) (by decide) (fun s17 ls17 lv17 kv17 T17 h17 X17 hB17 hZ17 hown17 e17 E17 xa17 fc17 fv17 av17 sf17 => ?_)
    have OL17 := OL11.ext E17
    have KP17 := KP11.ext E17
    show OwnOk p e below _ (T17.setTop (mkF m 22 #[.val (.ref a)] [(.ref ls17), (.ref a)]))
    have E_a_18 := (E_a_12.ext E17)
    have F_value_a_19 := (F_value_a_13.ext E17)
    have F_coder_a_20 := (F_coder_a_14.ext E17)
    have V_u_21 := (V_u_15.ext E17)
    refine own_callV X17 hx hZ17 (y := (⟨"java/lang/String", "equals", "(Ljava/lang/Object;)Z"⟩ : MethodName)) (z := (⟨"java/lang/String", "equals", "(Ljava/lang/Object;)Z"⟩ : MethodName)) hown17 (wd_77 hw) (wd_65 hw) (notFace_of_selects (args := #[]) (mvT hZ17 (wd_67 hw))) (wd_67 hw) (wd_66 hw) (wd_2 hw) (wd_68 hw) (by decide) (j_eq l Z a0 hw a u ku ln g ls17 lv17 kv17 5 (fun j => [(97 : Int32), (98 : Int32), (111 : Int32), (114 : Int32), (116 : Int32)].getD j 0) cz h17 n0 OL17 SC hcz E_a_18 F_value_a_19 F_coder_a_20 V_u_21 xa17 fv17 fc17 av17 (by omega) (by decide) (Or.inr rfl)) e17 (argsL := [(.ref ls17)]) (rest := []) E_a_18 (by rw [hml]; rfl) (lenOf pd_10 rfl) rfl rfl (W := 0) rfl (hb hby d11_22) (by decide) (by decide) (by decide) (by decide) (fun T22 v22 L22 X22 hQ22 => ?_)
    obtain ⟨rfl, Nq22, hh22⟩ := hQ22
    have N22 := Fr.app N16 Nq22
    show OwnOk p e below _ (T22.setTop (mkF m 25 #[.val (.ref a)] [(.int (own_eqI ln g 5 (fun j => [(97 : Int32), (98 : Int32), (111 : Int32), (114 : Int32), (116 : Int32)].getD j 0)))]))
    by_cases hz1 : (own_eqI ln g 5 (fun j => [(97 : Int32), (98 : Int32), (111 : Int32), (114 : Int32), (116 : Int32)].getD j 0)) = (0 : Int32)
    · refine own_up (fun tx kx => XS.ifYes X22.here hx rfl (pc0 := 25) (pc' := 32) rfl (hb hby d11_25) rfl ((if0 _ _).trans (teq hz1).1) (by decide) (by decide) kx) ?_
      show OwnOk p e below _ (T22.setTop (mkF m 32 #[.val (.ref a)] []))
      refine own_up (fun tx kx => XS.aloadN X22.here hx rfl (hb hby d11_32) rfl rfl kx) ?_
      show OwnOk p e below _ (T22.setTop (mkF m 33 #[.val (.ref a)] [(.ref a)]))
      have E_ls11_24 := (xa11.ext E17)
      have V_lv11_25 := (av11.ext E17)
      refine own_ldcH X22 hB17 hx hZ17 (own_ew hw) hown17 (by decide) (wd_79 hw) (own_wS hw) hh22 (vs := own_F 5 (fun j => [(112 : Int32), (97 : Int32), (117 : Int32), (115 : Int32), (101 : Int32)].getD j 0)) (z := Int32.ofNat 5) ⟨by decide, by decide⟩ (by decide) (by decide) (hb hby d11_33) (n := 20) (by decide) (by decide) (by decide) (by decide) (fun s23 ls23 lv23 kv23 T23 h23 X23 hB23 hZ23 hown23 e23 E23 xa23 fc23 fv23 av23 sf23 => ?_)
      have OL23 := OL17.ext E23
      have KP23 := KP17.ext E23
      show OwnOk p e below _ (T23.setTop (mkF m 35 #[.val (.ref a)] [(.ref ls23), (.ref a)]))
      have E_a_26 := (E_a_18.ext E23)
      have F_value_a_27 := (F_value_a_19.ext E23)
      have F_coder_a_28 := (F_coder_a_20.ext E23)
      have V_u_29 := (V_u_21.ext E23)
      refine own_callV X23 hx hZ23 (y := (⟨"java/lang/String", "equals", "(Ljava/lang/Object;)Z"⟩ : MethodName)) (z := (⟨"java/lang/String", "equals", "(Ljava/lang/Object;)Z"⟩ : MethodName)) hown23 (wd_77 hw) (wd_65 hw) (notFace_of_selects (args := #[]) (mvT hZ23 (wd_67 hw))) (wd_67 hw) (wd_66 hw) (wd_2 hw) (wd_68 hw) (by decide) (j_eq l Z a0 hw a u ku ln g ls23 lv23 kv23 5 (fun j => [(112 : Int32), (97 : Int32), (117 : Int32), (115 : Int32), (101 : Int32)].getD j 0) cz h23 n0 OL23 SC hcz E_a_26 F_value_a_27 F_coder_a_28 V_u_29 xa23 fv23 fc23 av23 (by omega) (by decide) (Or.inr rfl)) e23 (argsL := [(.ref ls23)]) (rest := []) E_a_26 (by rw [hml]; rfl) (lenOf pd_10 rfl) rfl rfl (W := 0) rfl (hb hby d11_35) (by decide) (by decide) (by decide) (by decide) (fun T30 v30 L30 X30 hQ30 => ?_)
      obtain ⟨rfl, Nq30, hh30⟩ := hQ30
      have N30 := Fr.app N22 Nq30
      show OwnOk p e below _ (T30.setTop (mkF m 38 #[.val (.ref a)] [(.int (own_eqI ln g 5 (fun j => [(112 : Int32), (97 : Int32), (117 : Int32), (115 : Int32), (101 : Int32)].getD j 0)))]))
      by_cases hz2 : (own_eqI ln g 5 (fun j => [(112 : Int32), (97 : Int32), (117 : Int32), (115 : Int32), (101 : Int32)].getD j 0)) = (0 : Int32)
      · refine own_up (fun tx kx => XS.ifYes X30.here hx rfl (pc0 := 38) (pc' := 45) rfl (hb hby d11_38) rfl ((if0 _ _).trans (teq hz2).1) (by decide) (by decide) kx) ?_
        show OwnOk p e below _ (T30.setTop (mkF m 45 #[.val (.ref a)] []))
        refine own_up (fun tx kx => XS.aconstNull X30.here hx rfl (hb hby d11_45) kx) ?_
        show OwnOk p e below _ (T30.setTop (mkF m 46 #[.val (.ref a)] [.null]))
        refine own_retRH X30 hB23 hZ23 (own_ew hw) hx (t := (.object "com/example/gridpost/gridpost/store/OperationKind")) (show meth.sig.returnType = some (.object "com/example/gridpost/gridpost/store/OperationKind") from hret) rfl hlk rfl (hb hby d11_46) hh30 (Nat.le_of_ble_eq_true rfl) (Nat.le_of_ble_eq_true rfl) ?_
        exact ⟨by rw [← hres]; unfold own_kind; rw [if_neg (fun q => q (own_eqI_symm _ _ _ _ ▸ hz0)), if_neg (fun q => q (own_eqI_symm _ _ _ _ ▸ hz1)), if_neg (fun q => q (own_eqI_symm _ _ _ _ ▸ hz2))], N30, KP23⟩
      · refine own_up (fun tx kx => XS.ifNo X30.here hx rfl (hb hby d11_38) rfl ((if0 _ _).trans (feq hz2).1) kx) ?_
        show OwnOk p e below _ (T30.setTop (mkF m 41 #[.val (.ref a)] []))
        obtain ⟨T31, X31, e31, st31⟩ := getS2 X30 hx hZ23 hown23 (host := "") (Or.inl (wd_100 hw)) Via.refl hh30 (S2.ext OL23.2) (g := (mkF m 41 #[.val (.ref a)] [])) rfl (hb hby d11_41)
        refine own_up st31 ?_
        show OwnOk p e below _ (T31.setTop (mkF m 44 #[.val (.ref a)] [(.ref w2)]))
        refine own_retRH X31 hB23 hZ23 (own_ew hw) hx (t := (.object "com/example/gridpost/gridpost/store/OperationKind")) (show meth.sig.returnType = some (.object "com/example/gridpost/gridpost/store/OperationKind") from hret) rfl hlk rfl (hb hby d11_44) e31 (Nat.le_of_ble_eq_true rfl) (Nat.le_of_ble_eq_true rfl) ?_
        exact ⟨by rw [← hres]; unfold own_kind; rw [if_neg (fun q => q (own_eqI_symm _ _ _ _ ▸ hz0)), if_neg (fun q => q (own_eqI_symm _ _ _ _ ▸ hz1)), if_pos (own_eqI_symm _ _ _ _ ▸ hz2)], N30, KP23⟩
    · refine own_up (fun tx kx => XS.ifNo X22.here hx rfl (hb hby d11_25) rfl ((if0 _ _).trans (feq hz1).1) kx) ?_
      show OwnOk p e below _ (T22.setTop (mkF m 28 #[.val (.ref a)] []))
      obtain ⟨T32, X32, e32, st32⟩ := getS2 X22 hx hZ17 hown17 (host := "") (Or.inl (wd_101 hw)) Via.refl hh22 (S1.ext OL17.2) (g := (mkF m 28 #[.val (.ref a)] [])) rfl (hb hby d11_28)
      refine own_up st32 ?_
      show OwnOk p e below _ (T32.setTop (mkF m 31 #[.val (.ref a)] [(.ref w1)]))
      refine own_retRH X32 hB17 hZ17 (own_ew hw) hx (t := (.object "com/example/gridpost/gridpost/store/OperationKind")) (show meth.sig.returnType = some (.object "com/example/gridpost/gridpost/store/OperationKind") from hret) rfl hlk rfl (hb hby d11_31) e32 (Nat.le_of_ble_eq_true rfl) (Nat.le_of_ble_eq_true rfl) ?_
      exact ⟨by rw [← hres]; unfold own_kind; rw [if_neg (fun q => q (own_eqI_symm _ _ _ _ ▸ hz0)), if_pos (own_eqI_symm _ _ _ _ ▸ hz1)], N22, KP17⟩
  · refine own_up (fun tx kx => XS.ifNo X16.here hx rfl (hb hby d11_12) rfl ((if0 _ _).trans (feq hz0).1) kx) ?_
    show OwnOk p e below _ (T16.setTop (mkF m 15 #[.val (.ref a)] []))
    obtain ⟨T33, X33, e33, st33⟩ := getS2 X16 hx hZ11 hown11 (host := "") (Or.inl (wd_102 hw)) Via.refl hh16 (S0.ext OL11.2) (g := (mkF m 15 #[.val (.ref a)] [])) rfl (hb hby d11_15)
    refine own_up st33 ?_
    show OwnOk p e below _ (T33.setTop (mkF m 18 #[.val (.ref a)] [(.ref w0)]))
    refine own_retRH X33 hB11 hZ11 (own_ew hw) hx (t := (.object "com/example/gridpost/gridpost/store/OperationKind")) (show meth.sig.returnType = some (.object "com/example/gridpost/gridpost/store/OperationKind") from hret) rfl hlk rfl (hb hby d11_18) e33 (Nat.le_of_ble_eq_true rfl) (Nat.le_of_ble_eq_true rfl) ?_
    exact ⟨by rw [← hres]; unfold own_kind; rw [if_pos (own_eqI_symm _ _ _ _ ▸ hz0)], N16, KP11⟩
def Q_m_expN (h0 : Heap) (n0 : Nat) (v : Option Value) (h : Heap) (L : List Loc) : Prop := v = some .null ∧ Fr n0 L ∧ Keep h0 h []
set_option maxRecDepth 65536 in
set_option maxHeartbeats 40000000 in
theorem m_expN (l : Launch) (Z : State) (a0 : Array Value) (hw : ∀ d ∈ tables_1, d.before a0 Z = true)  (h0 : Heap) (n0 : Nat) (OL : Old Z n0 h0)  :
    own_MetH l Z own_EL [] (⟨"com/example/gridpost/gridpost/store/OperationKindFromWireNamePinLaw", "expected", "(Ljava/lang/String;)Lcom/example/gridpost/gridpost/store/OperationKind;"⟩ : MethodName) method_4_code 1 (some (.object "com/example/gridpost/gridpost/store/OperationKind")) ({ frames := 2, cells := 6, slots := 72, locals := 30 } : Room) #[.null] h0 (Q_m_expN h0 n0) := by
  refine own_bodyH (L0 := #[.val .null]) (plainFor_of_name (by first | (simp [plainName, overriddenIn]; done) | decide +kernel)) (fun m => by first | (simp [entryFrame, mkF, argsToLocals, Value.category]; done) | rfl) ?_
  intro p e s m below meth c s₁ hx hby hml hZ hown hnm hret hlk X0 e0 hB hsf
  have N0 := Fr.nil n0
  have Z0 : n0 ≤ h0.size := OL.1 ▸ OL.2.1
  show OwnOk p e below _ (s₁.setTop (mkF m 0 #[.val .null] []))
  have KP0 : Keep h0 h0 [] := Keep.refl h0 _
  refine own_up (fun tx kx => XS.aloadN X0.here hx rfl (hb hby d11_0) rfl rfl kx) ?_
  show OwnOk p e below _ (s₁.setTop (mkF m 1 #[.val .null] [.null]))
  refine own_up (fun tx kx => XS.ifnonnullNo X0.here hx rfl (hb hby d11_1) rfl kx) ?_
  show OwnOk p e below _ (s₁.setTop (mkF m 4 #[.val .null] []))
  refine own_up (fun tx kx => XS.aconstNull X0.here hx rfl (hb hby d11_4) kx) ?_
  show OwnOk p e below _ (s₁.setTop (mkF m 5 #[.val .null] [.null]))
  refine own_retRH X0 hB hZ (own_ew hw) hx (t := (.object "com/example/gridpost/gridpost/store/OperationKind")) (show meth.sig.returnType = some (.object "com/example/gridpost/gridpost/store/OperationKind") from hret) rfl hlk rfl (hb hby d11_5) e0 (Nat.le_of_ble_eq_true rfl) (Nat.le_of_ble_eq_true rfl) ?_
  exact ⟨rfl, N0, KP0⟩
theorem own_chk : ∀ k, k < 256 → ¬ nar .char ((Int32.ofNat k).toUInt32.toUInt16.toUInt32.toInt32) < 0 ∧ ¬ (255 : Int32) < nar .char ((Int32.ofNat k).toUInt32.toUInt16.toUInt32.toInt32) := by decide +kernel
theorem own_chy (y : Int32) : ¬ nar .char (((y &&& (255 : Int32)).toUInt32.toUInt16.toUInt32.toInt32)) < 0 ∧ ¬ (255 : Int32) < nar .char (((y &&& (255 : Int32)).toUInt32.toUInt16.toUInt32.toInt32)) := by
  obtain ⟨k, hk, e⟩ := own_andN y 255 8 rfl (by decide)
  rw [e]; exact own_chk k hk
theorem own_ncl {x : Int32} (c : ¬ x < 0 ∧ ¬ (255 : Int32) < x) : ¬ nar .char x < 0 ∧ ¬ (255 : Int32) < nar .char x := by
  obtain ⟨k, hk, rfl⟩ : ∃ k, k < 256 ∧ x = Int32.ofNat k := by
    have h1 := c.1
    have h2 := c.2
    rw [Int32.lt_iff_toInt_lt, own_z32] at h1
    rw [Int32.lt_iff_toInt_lt, show (255 : Int32).toInt = 255 from rfl] at h2
    refine ⟨x.toInt.toNat, by omega, ?_⟩
    apply Int32.toInt_inj.mp
    rw [own_n32 (by omega)]; omega
  revert k
  decide +kernel
def Q_m_pickN (h0 : Heap) (n0 : Nat) (v : Option Value) (h : Heap) (L : List Loc) : Prop := ∃ c : Int32, v = some (.int c) ∧ (¬ c < 0 ∧ ¬ (255 : Int32) < c) ∧ Fr n0 L ∧ h = h0
set_option maxRecDepth 65536 in
set_option maxHeartbeats 40000000 in
theorem m_pickN (l : Launch) (Z : State) (a0 : Array Value) (hw : ∀ d ∈ tables_1, d.before a0 Z = true) (j y : Int32) (h0 : Heap) (n0 : Nat) (OL : Old Z n0 h0)  :
    own_Met l Z (⟨"com/example/gridpost/gridpost/store/OperationKindFromWireNamePinLaw", "pick", "(Ljava/lang/String;II)C"⟩ : MethodName) method_3_code 3 (some .char) ({ frames := 4, cells := 0, slots := 0, locals := 60 } : Room) #[.null, (.int j), (.int y)] h0 (Q_m_pickN h0 n0) := by
  refine own_body (L0 := #[.val .null, .val (.int j), .val (.int y)]) (plainFor_of_name (by first | (simp [plainName, overriddenIn]; done) | decide +kernel)) (fun m => by first | (simp [entryFrame, mkF, argsToLocals, Value.category]; done) | rfl) ?_
  intro p e s m below meth c s₁ hx hby hml hZ hown hnm hret hlk X0 e0
  have N0 := Fr.nil n0
  have Z0 : n0 ≤ h0.size := OL.1 ▸ OL.2.1
  show OwnOk p e below _ (s₁.setTop (mkF m 0 #[.val .null, .val (.int j), .val (.int y)] []))
  refine own_up (fun tx kx => XS.aloadN X0.here hx rfl (hb hby d1_0) rfl rfl kx) ?_
  show OwnOk p e below _ (s₁.setTop (mkF m 1 #[.val .null, .val (.int j), .val (.int y)] [.null]))
  refine own_up (fun tx kx => XS.ifnonnullNo X0.here hx rfl (hb hby d1_1) rfl kx) ?_
  show OwnOk p e below _ (s₁.setTop (mkF m 4 #[.val .null, .val (.int j), .val (.int y)] []))
  refine own_up (fun tx kx => XS.iloadN X0.here hx rfl (hb hby d1_4) rfl kx) ?_
  show OwnOk p e below _ (s₁.setTop (mkF m 5 #[.val .null, .val (.int j), .val (.int y)] [(.int y)]))
  refine own_up (fun tx kx => XS.sipush X0.here hx rfl (hb hby d1_5) kx) ?_
  show OwnOk p e below _ (s₁.setTop (mkF m 8 #[.val .null, .val (.int j), .val (.int y)] [(.int (255 : Int32)), (.int y)]))
  refine own_up (fun tx kx => XS.iand X0.here hx rfl (hb hby d1_8) rfl kx) ?_
  show OwnOk p e below _ (s₁.setTop (mkF m 9 #[.val .null, .val (.int j), .val (.int y)] [(.int (y &&& (255 : Int32)))]))
  refine own_up (fun tx kx => XS.i2c X0.here hx rfl (hb hby d1_9) rfl kx) ?_
  show OwnOk p e below _ (s₁.setTop (mkF m 10 #[.val .null, .val (.int j), .val (.int y)] [(.int ((y &&& (255 : Int32)).toUInt32.toUInt16.toUInt32.toInt32))]))
  refine own_retN X0 hx (t := .char) (show meth.sig.returnType = some .char from hret) (by simp) hlk (hb hby d1_10) (z' := nar .char (((y &&& (255 : Int32)).toUInt32.toUInt16.toUInt32.toInt32))) rfl e0 (Nat.le_of_ble_eq_true rfl) (Nat.le_of_ble_eq_true rfl) ?_
  exact ⟨_, rfl, own_chy y, N0, rfl⟩
def Q_m_pick (h0 : Heap) (n0 : Nat) (v : Option Value) (h : Heap) (L : List Loc) : Prop := ∃ c : Int32, v = some (.int c) ∧ (¬ c < 0 ∧ ¬ (255 : Int32) < c) ∧ Fr n0 L ∧ h = h0
set_option maxRecDepth 65536 in
set_option maxHeartbeats 40000000 in
theorem m_pick (l : Launch) (Z : State) (a0 : Array Value) (hw : ∀ d ∈ tables_1, d.before a0 Z = true) (a u : Addr) (ku : ClassId) (ln : Nat) (g : Nat → Int32) (cz : Int32) (j : Nat) (y : Int32) (fm : Value) (hfm : fm.isRef = true) (h0 : Heap) (n0 : Nat) (OL : Old Z n0 h0) (SC : Sta Z Z.heap "java/lang/String" "COMPACT_STRINGS" "Z" (.int cz)) (hcz : ¬ cz = 0) (SF : Sta Z Z.heap "jdk/internal/util/Preconditions" "SIOOBE_FORMATTER" "Ljava/util/function/BiFunction;" fm) (E_a : Exa Z h0 a "java/lang/String") (F_value_a : Fld Z h0 a "java/lang/String" "value" "[B" (.ref u)) (F_coder_a : Fld Z h0 a "java/lang/String" "coder" "B" (.int (0 : Int32))) (V_u : Arv Z h0 u ku .byte (Int32.ofNat ln) (own_F ln g) (.int (0 : Int32))) (hj : j < ln) (hn : ln ≤ 100) :
    own_Met l Z (⟨"com/example/gridpost/gridpost/store/OperationKindFromWireNamePinLaw", "pick", "(Ljava/lang/String;II)C"⟩ : MethodName) method_3_code 3 (some .char) ({ frames := 4, cells := 0, slots := 0, locals := 60 } : Room) #[(.ref a), (.int (Int32.ofNat j)), (.int y)] h0 (Q_m_pick h0 n0) := by
  refine own_body (L0 := #[.val (.ref a), .val (.int (Int32.ofNat j)), .val (.int y)]) (plainFor_of_name (by first | (simp [plainName, overriddenIn]; done) | decide +kernel)) (fun m => by first | (simp [entryFrame, mkF, argsToLocals, Value.category]; done) | rfl) ?_
  intro p e s m below meth c s₁ hx hby hml hZ hown hnm hret hlk X0 e0
  have N0 := Fr.nil n0
  have Z0 : n0 ≤ h0.size := OL.1 ▸ OL.2.1
  show OwnOk p e below _ (s₁.setTop (mkF m 0 #[.val (.ref a), .val (.int (Int32.ofNat j)), .val (.int y)] []))
  refine own_up (fun tx kx => XS.aloadN X0.here hx rfl (hb hby d1_0) rfl rfl kx) ?_
  show OwnOk p e below _ (s₁.setTop (mkF m 1 #[.val (.ref a), .val (.int (Int32.ofNat j)), .val (.int y)] [(.ref a)]))
  refine own_up (fun tx kx => XS.ifnonnullYes X0.here hx rfl (pc0 := 1) (pc' := 11) rfl (hb hby d1_1) rfl (by decide) (by decide) kx) ?_
  show OwnOk p e below _ (s₁.setTop (mkF m 11 #[.val (.ref a), .val (.int (Int32.ofNat j)), .val (.int y)] []))
  refine own_up (fun tx kx => XS.aloadN X0.here hx rfl (hb hby d1_11) rfl rfl kx) ?_
  show OwnOk p e below _ (s₁.setTop (mkF m 12 #[.val (.ref a), .val (.int (Int32.ofNat j)), .val (.int y)] [(.ref a)]))
  refine own_up (fun tx kx => XS.iloadN X0.here hx rfl (hb hby d1_12) rfl kx) ?_
  show OwnOk p e below _ (s₁.setTop (mkF m 13 #[.val (.ref a), .val (.int (Int32.ofNat j)), .val (.int y)] [(.int (Int32.ofNat j)), (.ref a)]))
  refine own_callV X0 hx hZ (y := (⟨"java/lang/String", "charAt", "(I)C"⟩ : MethodName)) (z := (⟨"java/lang/String", "charAt", "(I)C"⟩ : MethodName)) hown (wd_14 hw) (wd_15 hw) (notFace_of_selects (args := #[]) (mvT hZ (wd_17 hw))) (wd_17 hw) (wd_16 hw) (wd_2 hw) (wd_18 hw) (by decide) (j_charAt l Z a0 hw a u ku ln g cz j fm hfm h0 n0 OL SC hcz SF E_a F_value_a F_coder_a V_u hj (by omega)) e0 (argsL := [(.int (Int32.ofNat j))]) (rest := []) E_a (by rw [hml]; rfl) (lenOf pd_11 rfl) rfl rfl (W := 0) rfl (hb hby d1_13) (by decide) (by decide) (by decide) (by decide) (fun T11 v11 L11 X11 hQ11 => ?_)
  obtain ⟨rfl, Nq11, hh11⟩ := hQ11
  have N11 := Fr.app N0 Nq11
  show OwnOk p e below _ (T11.setTop (mkF m 16 #[.val (.ref a), .val (.int (Int32.ofNat j)), .val (.int y)] [(.int (own_c8 (g j)))]))
  refine own_retN X11 hx (t := .char) (show meth.sig.returnType = some .char from hret) (by simp) hlk (hb hby d1_16) (z' := own_c8 (g j)) (own_c8_idem _) hh11 (Nat.le_of_ble_eq_true rfl) (Nat.le_of_ble_eq_true rfl) ?_
  exact ⟨_, rfl, own_chy (g j), N11, rfl⟩
def Q_rm0 (n0 : Nat) (v : Option Value) (h : Heap) (L : List Loc) : Prop := v = some (.int (1 : Int32)) ∧ Fr n0 L
set_option maxRecDepth 65536 in
set_option maxHeartbeats 40000000 in
theorem law_323n (l : Launch) (Z : State) (a0 : Array Value) (hw : ∀ d ∈ tables_1, d.before a0 Z = true) (sel shape pos ch ch2 : Int32) (bI mI sI : Int32) (bs : Value) (fa xa : Addr) (cz : Int32) (w0 w1 w2 s0 s1 s2 u0 u1 u2 va : Addr) (k0 k1 k2 kva : ClassId) {p : Program} {e : Env} {s s' : State} {m : MethodId} {below : List Frame} {meth : Method} {c : Code} {T : State} (hx : p.tables.exec = Jvm.exec) (hby : c.code = code) (hml : c.maxLocals = 12) (hret : meth.sig.returnType = ret) (hlk : meth.locks = false) {locs : List Loc} (X0 : Stand p l e room_1 s' m #[(.int sel), (.int shape), (.int pos), (.int ch), (.int ch2)] below meth c T locs 20 1200) {h0 : Heap} (e0 : T.heap = h0) (hZ : Z.Warmed39 s'.vm) (hown : s'.vm.findClass "com/example/gridpost/gridpost/store/OperationKindFromWireNamePinLaw" = some m.cls) (n0 : Nat) (OL : Old Z n0 h0) (N0 : Fr n0 locs) (hB : own_FrH Z own_EL s s' h0) (SC : Sta Z Z.heap "java/lang/String" "COMPACT_STRINGS" "Z" (.int cz)) (hcz : ¬ cz = 0) (S0 : Sta Z Z.heap "com/example/gridpost/gridpost/store/OperationKind" "START" "Lcom/example/gridpost/gridpost/store/OperationKind;" (.ref w0)) (W0 : Exa Z Z.heap w0 "com/example/gridpost/gridpost/store/OperationKind") (F0 : Fld Z Z.heap w0 "com/example/gridpost/gridpost/store/OperationKind" "wireName" "Ljava/lang/String;" (.ref s0)) (E0 : Exa Z Z.heap s0 "java/lang/String") (G0 : Fld Z Z.heap s0 "java/lang/String" "value" "[B" (.ref u0)) (D0 : Fld Z Z.heap s0 "java/lang/String" "coder" "B" (.int (0 : Int32))) (V0 : Arv Z Z.heap u0 k0 .byte (Int32.ofNat 5) (own_F 5 (fun j => [(115 : Int32), (116 : Int32), (97 : Int32), (114 : Int32), (116 : Int32)].getD j 0)) (.int (0 : Int32))) (S1 : Sta Z Z.heap "com/example/gridpost/gridpost/store/OperationKind" "ABORT" "Lcom/example/gridpost/gridpost/store/OperationKind;" (.ref w1)) (W1 : Exa Z Z.heap w1 "com/example/gridpost/gridpost/store/OperationKind") (F1 : Fld Z Z.heap w1 "com/example/gridpost/gridpost/store/OperationKind" "wireName" "Ljava/lang/String;" (.ref s1)) (E1 : Exa Z Z.heap s1 "java/lang/String") (G1 : Fld Z Z.heap s1 "java/lang/String" "value" "[B" (.ref u1)) (D1 : Fld Z Z.heap s1 "java/lang/String" "coder" "B" (.int (0 : Int32))) (V1 : Arv Z Z.heap u1 k1 .byte (Int32.ofNat 5) (own_F 5 (fun j => [(97 : Int32), (98 : Int32), (111 : Int32), (114 : Int32), (116 : Int32)].getD j 0)) (.int (0 : Int32))) (S2 : Sta Z Z.heap "com/example/gridpost/gridpost/store/OperationKind" "PAUSE" "Lcom/example/gridpost/gridpost/store/OperationKind;" (.ref w2)) (W2 : Exa Z Z.heap w2 "com/example/gridpost/gridpost/store/OperationKind") (F2 : Fld Z Z.heap w2 "com/example/gridpost/gridpost/store/OperationKind" "wireName" "Ljava/lang/String;" (.ref s2)) (E2 : Exa Z Z.heap s2 "java/lang/String") (G2 : Fld Z Z.heap s2 "java/lang/String" "value" "[B" (.ref u2)) (D2 : Fld Z Z.heap s2 "java/lang/String" "coder" "B" (.int (0 : Int32))) (V2 : Arv Z Z.heap u2 k2 .byte (Int32.ofNat 5) (own_F 5 (fun j => [(112 : Int32), (97 : Int32), (117 : Int32), (115 : Int32), (101 : Int32)].getD j 0)) (.int (0 : Int32))) (SV : Sta Z Z.heap "com/example/gridpost/gridpost/store/OperationKind" "$VALUES" "[Lcom/example/gridpost/gridpost/store/OperationKind;" (.ref va)) (EV : Exa Z Z.heap va "[Lcom/example/gridpost/gridpost/store/OperationKind;") (VV : Arv Z Z.heap va kva (.object "com/example/gridpost/gridpost/store/OperationKind") (3 : Int32) [.ref w0, .ref w1, .ref w2] .null) :
    OwnOk p e below (own_KH Z own_EL s (Q_rm0 n0) room_1.cells room_1.slots) (T.setTop (mkF m 323 #[.val (.int sel), .val (.int shape), .val (.int pos), .val (.int ch), .val (.int ch2), .val (.int bI), .val bs, .val (.ref fa), .val (.int mI), .val (.int sI), .val .null, .unset] [])) := by
  have Z0 : n0 ≤ h0.size := OL.1 ▸ OL.2.1
  show OwnOk p e below _ (T.setTop (mkF m 323 #[.val (.int sel), .val (.int shape), .val (.int pos), .val (.int ch), .val (.int ch2), .val (.int bI), .val bs, .val (.ref fa), .val (.int mI), .val (.int sI), .val .null, .unset] []))
  have KP0 : Keep h0 h0 [] := Keep.refl h0 _
  refine own_up (fun tx kx => XS.aload X0.here hx rfl (hb hby at_323) rfl rfl kx) ?_
  show OwnOk p e below _ (T.setTop (mkF m 325 #[.val (.int sel), .val (.int shape), .val (.int pos), .val (.int ch), .val (.int ch2), .val (.int bI), .val bs, .val (.ref fa), .val (.int mI), .val (.int sI), .val .null, .unset] [.null]))
  refine own_callS X0 hx hZ (y := (⟨"com/example/gridpost/gridpost/store/OperationKind", "fromWireName", "(Ljava/lang/String;)Lcom/example/gridpost/gridpost/store/OperationKind;"⟩ : MethodName)) hown (wd_40 hw) (wd_41 hw) (wd_42 hw) (wd_43 hw) (by decide) (m_fromN l Z a0 hw w0 w1 w2 s0 s1 s2 u0 u1 u2 va k0 k1 k2 kva cz h0 n0 OL SC hcz S0 W0 F0 E0 G0 D0 V0 S1 W1 F1 E1 G1 D1 V1 S2 W2 F2 E2 G2 D2 V2 SV EV VV) e0 (argsL := [.null]) (rest := []) (by rw [hml]; rfl) (lenOf pd_12 rfl) rfl rfl (W := 0) rfl (hb hby at_325) (by decide) (by decide) (by decide) (by decide) (fun T11 v11 L11 X11 hQ11 => ?_)
  obtain ⟨rfl, Nq11, Kq11⟩ := hQ11
  have N11 := Fr.app N0 Nq11
  have hB11 := hB.keep Kq11 own_saf0
  have OL11 := OL.keep Kq11 all0
  have KP11 := KP0.trans Kq11 all0
  show OwnOk p e below _ (T11.setTop (mkF m 328 #[.val (.int sel), .val (.int shape), .val (.int pos), .val (.int ch), .val (.int ch2), .val (.int bI), .val bs, .val (.ref fa), .val (.int mI), .val (.int sI), .val .null, .unset] [.null]))
  refine own_up (fun tx kx => XS.astore X11.here hx rfl (hb hby at_328) rfl rfl (l' := #[.val (.int sel), .val (.int shape), .val (.int pos), .val (.int ch), .val (.int ch2), .val (.int bI), .val bs, .val (.ref fa), .val (.int mI), .val (.int sI), .val .null, .val .null]) rfl kx) ?_
  show OwnOk p e below _ (T11.setTop (mkF m 330 #[.val (.int sel), .val (.int shape), .val (.int pos), .val (.int ch), .val (.int ch2), .val (.int bI), .val bs, .val (.ref fa), .val (.int mI), .val (.int sI), .val .null, .val .null] []))
  refine own_up (fun tx kx => XS.aload X11.here hx rfl (hb hby at_330) rfl rfl kx) ?_
  show OwnOk p e below _ (T11.setTop (mkF m 332 #[.val (.int sel), .val (.int shape), .val (.int pos), .val (.int ch), .val (.int ch2), .val (.int bI), .val bs, .val (.ref fa), .val (.int mI), .val (.int sI), .val .null, .val .null] [.null]))
  refine own_up (fun tx kx => XS.aload X11.here hx rfl (hb hby at_332) rfl rfl kx) ?_
  show OwnOk p e below _ (T11.setTop (mkF m 334 #[.val (.int sel), .val (.int shape), .val (.int pos), .val (.int ch), .val (.int ch2), .val (.int bI), .val bs, .val (.ref fa), .val (.int mI), .val (.int sI), .val .null, .val .null] [.null, .null]))
  refine own_callSH X11 hB11 (own_ew hw) (sf := []) own_saf0 own_lt0 hx hZ (y := (⟨"com/example/gridpost/gridpost/store/OperationKindFromWireNamePinLaw", "expected", "(Ljava/lang/String;)Lcom/example/gridpost/gridpost/store/OperationKind;"⟩ : MethodName)) hown (wd_74 hw) (wd_75 hw) (wd_12 hw) (wd_76 hw) (by decide) (m_expN l Z a0 hw T11.heap n0 OL11) rfl (argsL := [.null]) (rest := [.null]) (by rw [hml]; rfl) (lenOf pd_12 rfl) rfl rfl (W := 1) rfl (hb hby at_334) (by decide) (by decide) (by decide) (by decide) (fun s12 T12 v12 L12 X12 hB12 hZ12 hown12 hQ12 sf12 => ?_)
  obtain ⟨rfl, Nq12, Kq12⟩ := hQ12
  have N12 := Fr.app N11 Nq12
  have OL12 := OL11.keep Kq12 all0
  have KP12 := KP11.trans Kq12 all0
  show OwnOk p e below _ (T12.setTop (mkF m 337 #[.val (.int sel), .val (.int shape), .val (.int pos), .val (.int ch), .val (.int ch2), .val (.int bI), .val bs, .val (.ref fa), .val (.int mI), .val (.int sI), .val .null, .val .null] [.null, .null]))
  refine own_up (fun tx kx => Jvm.RoadKit.acmp (g := (mkF m 337 #[.val (.int sel), .val (.int shape), .val (.int pos), .val (.int ch), .val (.int ch2), .val (.int bI), .val bs, .val (.ref fa), .val (.int mI), .val (.int sI), .val .null, .val .null] [.null, .null])) X12 hx rfl rfl rfl (pc0 := 337) (pc' := 340) (same := true) rfl (hb hby at_337) rfl (decide_eq_true (rfl)) (by decide) (by decide) kx) ?_
  show OwnOk p e below _ (T12.setTop (mkF m 340 #[.val (.int sel), .val (.int shape), .val (.int pos), .val (.int ch), .val (.int ch2), .val (.int bI), .val bs, .val (.ref fa), .val (.int mI), .val (.int sI), .val .null, .val .null] []))
  refine own_up (fun tx kx => XS.iconst X12.here hx rfl (hb hby at_340) kx) ?_
  show OwnOk p e below _ (T12.setTop (mkF m 341 #[.val (.int sel), .val (.int shape), .val (.int pos), .val (.int ch), .val (.int ch2), .val (.int bI), .val bs, .val (.ref fa), .val (.int mI), .val (.int sI), .val .null, .val .null] [(.int (1 : Int32))]))
  refine own_up (fun tx kx => XS.goto X12.here hx rfl (pc0 := 341) (pc' := 345) rfl (hb hby at_341) (by decide) (by decide) kx) ?_
  show OwnOk p e below _ (T12.setTop (mkF m 345 #[.val (.int sel), .val (.int shape), .val (.int pos), .val (.int ch), .val (.int ch2), .val (.int bI), .val bs, .val (.ref fa), .val (.int mI), .val (.int sI), .val .null, .val .null] [(.int (1 : Int32))]))
  refine own_retNH X12 hB12 hZ12 (own_ew hw) hx (t := .boolean) (show meth.sig.returnType = some .boolean from hret) (by simp) hlk (hb hby at_345) (z' := (1 : Int32)) rfl rfl (Nat.le_of_ble_eq_true rfl) (Nat.le_of_ble_eq_true rfl) ?_
  exact ⟨rfl, N12⟩
set_option maxRecDepth 65536 in
set_option maxHeartbeats 40000000 in
theorem law_323 (l : Launch) (Z : State) (a0 : Array Value) (hw : ∀ d ∈ tables_1, d.before a0 Z = true) (sel shape pos ch ch2 : Int32) (bI mI sI : Int32) (bs : Value) (fa xa : Addr) (cz : Int32) (w0 w1 w2 s0 s1 s2 u0 u1 u2 va : Addr) (k0 k1 k2 kva : ClassId) (a u : Addr) (ku : ClassId) (ln : Nat) (g : Nat → Int32) {p : Program} {e : Env} {s s' : State} {m : MethodId} {below : List Frame} {meth : Method} {c : Code} {T : State} (hx : p.tables.exec = Jvm.exec) (hby : c.code = code) (hml : c.maxLocals = 12) (hret : meth.sig.returnType = ret) (hlk : meth.locks = false) {locs : List Loc} (X0 : Stand p l e room_1 s' m #[(.int sel), (.int shape), (.int pos), (.int ch), (.int ch2)] below meth c T locs 20 1200) {h0 : Heap} (e0 : T.heap = h0) (hZ : Z.Warmed39 s'.vm) (hown : s'.vm.findClass "com/example/gridpost/gridpost/store/OperationKindFromWireNamePinLaw" = some m.cls) (n0 : Nat) (OL : Old Z n0 h0) (N0 : Fr n0 locs) (hB : own_FrH Z own_EL s s' h0) (SC : Sta Z Z.heap "java/lang/String" "COMPACT_STRINGS" "Z" (.int cz)) (hcz : ¬ cz = 0) (S0 : Sta Z Z.heap "com/example/gridpost/gridpost/store/OperationKind" "START" "Lcom/example/gridpost/gridpost/store/OperationKind;" (.ref w0)) (W0 : Exa Z Z.heap w0 "com/example/gridpost/gridpost/store/OperationKind") (F0 : Fld Z Z.heap w0 "com/example/gridpost/gridpost/store/OperationKind" "wireName" "Ljava/lang/String;" (.ref s0)) (E0 : Exa Z Z.heap s0 "java/lang/String") (G0 : Fld Z Z.heap s0 "java/lang/String" "value" "[B" (.ref u0)) (D0 : Fld Z Z.heap s0 "java/lang/String" "coder" "B" (.int (0 : Int32))) (V0 : Arv Z Z.heap u0 k0 .byte (Int32.ofNat 5) (own_F 5 (fun j => [(115 : Int32), (116 : Int32), (97 : Int32), (114 : Int32), (116 : Int32)].getD j 0)) (.int (0 : Int32))) (S1 : Sta Z Z.heap "com/example/gridpost/gridpost/store/OperationKind" "ABORT" "Lcom/example/gridpost/gridpost/store/OperationKind;" (.ref w1)) (W1 : Exa Z Z.heap w1 "com/example/gridpost/gridpost/store/OperationKind") (F1 : Fld Z Z.heap w1 "com/example/gridpost/gridpost/store/OperationKind" "wireName" "Ljava/lang/String;" (.ref s1)) (E1 : Exa Z Z.heap s1 "java/lang/String") (G1 : Fld Z Z.heap s1 "java/lang/String" "value" "[B" (.ref u1)) (D1 : Fld Z Z.heap s1 "java/lang/String" "coder" "B" (.int (0 : Int32))) (V1 : Arv Z Z.heap u1 k1 .byte (Int32.ofNat 5) (own_F 5 (fun j => [(97 : Int32), (98 : Int32), (111 : Int32), (114 : Int32), (116 : Int32)].getD j 0)) (.int (0 : Int32))) (S2 : Sta Z Z.heap "com/example/gridpost/gridpost/store/OperationKind" "PAUSE" "Lcom/example/gridpost/gridpost/store/OperationKind;" (.ref w2)) (W2 : Exa Z Z.heap w2 "com/example/gridpost/gridpost/store/OperationKind") (F2 : Fld Z Z.heap w2 "com/example/gridpost/gridpost/store/OperationKind" "wireName" "Ljava/lang/String;" (.ref s2)) (E2 : Exa Z Z.heap s2 "java/lang/String") (G2 : Fld Z Z.heap s2 "java/lang/String" "value" "[B" (.ref u2)) (D2 : Fld Z Z.heap s2 "java/lang/String" "coder" "B" (.int (0 : Int32))) (V2 : Arv Z Z.heap u2 k2 .byte (Int32.ofNat 5) (own_F 5 (fun j => [(112 : Int32), (97 : Int32), (117 : Int32), (115 : Int32), (101 : Int32)].getD j 0)) (.int (0 : Int32))) (SV : Sta Z Z.heap "com/example/gridpost/gridpost/store/OperationKind" "$VALUES" "[Lcom/example/gridpost/gridpost/store/OperationKind;" (.ref va)) (EV : Exa Z Z.heap va "[Lcom/example/gridpost/gridpost/store/OperationKind;") (VV : Arv Z Z.heap va kva (.object "com/example/gridpost/gridpost/store/OperationKind") (3 : Int32) [.ref w0, .ref w1, .ref w2] .null) (E_a : Exa Z h0 a "java/lang/String") (F_value_a : Fld Z h0 a "java/lang/String" "value" "[B" (.ref u)) (F_coder_a : Fld Z h0 a "java/lang/String" "coder" "B" (.int (0 : Int32))) (V_u : Arv Z h0 u ku .byte (Int32.ofNat ln) (own_F ln g) (.int (0 : Int32))) (hln : ln ≤ 6) :
    OwnOk p e below (own_KH Z own_EL s (Q_rm0 n0) room_1.cells room_1.slots) (T.setTop (mkF m 323 #[.val (.int sel), .val (.int shape), .val (.int pos), .val (.int ch), .val (.int ch2), .val (.int bI), .val bs, .val (.ref fa), .val (.int mI), .val (.int sI), .val (.ref a), .unset] [])) := by
  have Z0 : n0 ≤ h0.size := OL.1 ▸ OL.2.1
  show OwnOk p e below _ (T.setTop (mkF m 323 #[.val (.int sel), .val (.int shape), .val (.int pos), .val (.int ch), .val (.int ch2), .val (.int bI), .val bs, .val (.ref fa), .val (.int mI), .val (.int sI), .val (.ref a), .unset] []))
  have KP0 : Keep h0 h0 [] := Keep.refl h0 _
  by_cases hz0 : own_eqI 5 (fun j => [(115 : Int32), (116 : Int32), (97 : Int32), (114 : Int32), (116 : Int32)].getD j 0) ln g = 0
  · by_cases hz1 : own_eqI 5 (fun j => [(97 : Int32), (98 : Int32), (111 : Int32), (114 : Int32), (116 : Int32)].getD j 0) ln g = 0
    · by_cases hz2 : own_eqI 5 (fun j => [(112 : Int32), (97 : Int32), (117 : Int32), (115 : Int32), (101 : Int32)].getD j 0) ln g = 0
      · show OwnOk p e below _ (T.setTop (mkF m 323 #[.val (.int sel), .val (.int shape), .val (.int pos), .val (.int ch), .val (.int ch2), .val (.int bI), .val bs, .val (.ref fa), .val (.int mI), .val (.int sI), .val (.ref a), .unset] []))
        have hres : own_kind ln g w0 w1 w2 = .null := by unfold own_kind; rw [if_neg (fun q => q hz0), if_neg (fun q => q hz1), if_neg (fun q => q hz2)]
        refine own_up (fun tx kx => XS.aload X0.here hx rfl (hb hby at_323) rfl rfl kx) ?_
        show OwnOk p e below _ (T.setTop (mkF m 325 #[.val (.int sel), .val (.int shape), .val (.int pos), .val (.int ch), .val (.int ch2), .val (.int bI), .val bs, .val (.ref fa), .val (.int mI), .val (.int sI), .val (.ref a), .unset] [(.ref a)]))
        refine own_callS X0 hx hZ (y := (⟨"com/example/gridpost/gridpost/store/OperationKind", "fromWireName", "(Ljava/lang/String;)Lcom/example/gridpost/gridpost/store/OperationKind;"⟩ : MethodName)) hown (wd_40 hw) (wd_41 hw) (wd_42 hw) (wd_43 hw) (by decide) (m_from l Z a0 hw w0 w1 w2 s0 s1 s2 u0 u1 u2 va k0 k1 k2 kva a u ku ln g cz .null h0 n0 OL SC hcz S0 W0 F0 E0 G0 D0 V0 S1 W1 F1 E1 G1 D1 V1 S2 W2 F2 E2 G2 D2 V2 SV EV VV E_a F_value_a F_coder_a V_u hln hres) e0 (argsL := [(.ref a)]) (rest := []) (by rw [hml]; rfl) (lenOf pd_12 rfl) rfl rfl (W := 0) rfl (hb hby at_325) (by decide) (by decide) (by decide) (by decide) (fun T11 v11 L11 X11 hQ11 => ?_)
        obtain ⟨rfl, Nq11, Kq11⟩ := hQ11
        have N11 := Fr.app N0 Nq11
        have hB11 := hB.keep Kq11 own_saf0
        have OL11 := OL.keep Kq11 all0
        have KP11 := KP0.trans Kq11 all0
        show OwnOk p e below _ (T11.setTop (mkF m 328 #[.val (.int sel), .val (.int shape), .val (.int pos), .val (.int ch), .val (.int ch2), .val (.int bI), .val bs, .val (.ref fa), .val (.int mI), .val (.int sI), .val (.ref a), .unset] [.null]))
        refine own_up (fun tx kx => XS.astore X11.here hx rfl (hb hby at_328) rfl rfl (l' := #[.val (.int sel), .val (.int shape), .val (.int pos), .val (.int ch), .val (.int ch2), .val (.int bI), .val bs, .val (.ref fa), .val (.int mI), .val (.int sI), .val (.ref a), .val .null]) rfl kx) ?_
        show OwnOk p e below _ (T11.setTop (mkF m 330 #[.val (.int sel), .val (.int shape), .val (.int pos), .val (.int ch), .val (.int ch2), .val (.int bI), .val bs, .val (.ref fa), .val (.int mI), .val (.int sI), .val (.ref a), .val .null] []))
        refine own_up (fun tx kx => XS.aload X11.here hx rfl (hb hby at_330) rfl rfl kx) ?_
        show OwnOk p e below _ (T11.setTop (mkF m 332 #[.val (.int sel), .val (.int shape), .val (.int pos), .val (.int ch), .val (.int ch2), .val (.int bI), .val bs, .val (.ref fa), .val (.int mI), .val (.int sI), .val (.ref a), .val .null] [.null]))
        refine own_up (fun tx kx => XS.aload X11.here hx rfl (hb hby at_332) rfl rfl kx) ?_
        show OwnOk p e below _ (T11.setTop (mkF m 334 #[.val (.int sel), .val (.int shape), .val (.int pos), .val (.int ch), .val (.int ch2), .val (.int bI), .val bs, .val (.ref fa), .val (.int mI), .val (.int sI), .val (.ref a), .val .null] [(.ref a), .null]))
        have E_a_12 := (E_a.keep Kq11)
        have F_value_a_13 := (F_value_a.keep Kq11 nin0)
        have F_coder_a_14 := (F_coder_a.keep Kq11 nin0)
        have V_u_15 := (V_u.keep Kq11 nin0)
        refine own_callSH X11 hB11 (own_ew hw) (sf := []) own_saf0 own_lt0 hx hZ (y := (⟨"com/example/gridpost/gridpost/store/OperationKindFromWireNamePinLaw", "expected", "(Ljava/lang/String;)Lcom/example/gridpost/gridpost/store/OperationKind;"⟩ : MethodName)) hown (wd_74 hw) (wd_75 hw) (wd_12 hw) (wd_76 hw) (by decide) (m_exp l Z a0 hw w0 w1 w2 s0 s1 s2 u0 u1 u2 va k0 k1 k2 kva a u ku ln g cz .null T11.heap n0 OL11 SC hcz S0 W0 F0 E0 G0 D0 V0 S1 W1 F1 E1 G1 D1 V1 S2 W2 F2 E2 G2 D2 V2 SV EV VV E_a_12 F_value_a_13 F_coder_a_14 V_u_15 hln hres) rfl (argsL := [(.ref a)]) (rest := [.null]) (by rw [hml]; rfl) (lenOf pd_12 rfl) rfl rfl (W := 1) rfl (hb hby at_334) (by decide) (by decide) (by decide) (by decide) (fun s16 T16 v16 L16 X16 hB16 hZ16 hown16 hQ16 sf16 => ?_)
        obtain ⟨rfl, Nq16, Kq16⟩ := hQ16
        have N16 := Fr.app N11 Nq16
        have OL16 := OL11.keep Kq16 all0
        have KP16 := KP11.trans Kq16 all0
        show OwnOk p e below _ (T16.setTop (mkF m 337 #[.val (.int sel), .val (.int shape), .val (.int pos), .val (.int ch), .val (.int ch2), .val (.int bI), .val bs, .val (.ref fa), .val (.int mI), .val (.int sI), .val (.ref a), .val .null] [.null, .null]))
        refine own_up (fun tx kx => Jvm.RoadKit.acmp (g := (mkF m 337 #[.val (.int sel), .val (.int shape), .val (.int pos), .val (.int ch), .val (.int ch2), .val (.int bI), .val bs, .val (.ref fa), .val (.int mI), .val (.int sI), .val (.ref a), .val .null] [.null, .null])) X16 hx rfl rfl rfl (pc0 := 337) (pc' := 340) (same := true) rfl (hb hby at_337) rfl (decide_eq_true (rfl)) (by decide) (by decide) kx) ?_
        show OwnOk p e below _ (T16.setTop (mkF m 340 #[.val (.int sel), .val (.int shape), .val (.int pos), .val (.int ch), .val (.int ch2), .val (.int bI), .val bs, .val (.ref fa), .val (.int mI), .val (.int sI), .val (.ref a), .val .null] []))
        refine own_up (fun tx kx => XS.iconst X16.here hx rfl (hb hby at_340) kx) ?_
        show OwnOk p e below _ (T16.setTop (mkF m 341 #[.val (.int sel), .val (.int shape), .val (.int pos), .val (.int ch), .val (.int ch2), .val (.int bI), .val bs, .val (.ref fa), .val (.int mI), .val (.int sI), .val (.ref a), .val .null] [(.int (1 : Int32))]))
        refine own_up (fun tx kx => XS.goto X16.here hx rfl (pc0 := 341) (pc' := 345) rfl (hb hby at_341) (by decide) (by decide) kx) ?_
        show OwnOk p e below _ (T16.setTop (mkF m 345 #[.val (.int sel), .val (.int shape), .val (.int pos), .val (.int ch), .val (.int ch2), .val (.int bI), .val bs, .val (.ref fa), .val (.int mI), .val (.int sI), .val (.ref a), .val .null] [(.int (1 : Int32))]))
        refine own_retNH X16 hB16 hZ16 (own_ew hw) hx (t := .boolean) (show meth.sig.returnType = some .boolean from hret) (by simp) hlk (hb hby at_345) (z' := (1 : Int32)) rfl rfl (Nat.le_of_ble_eq_true rfl) (Nat.le_of_ble_eq_true rfl) ?_
        exact ⟨rfl, N16⟩
      · show OwnOk p e below _ (T.setTop (mkF m 323 #[.val (.int sel), .val (.int shape), .val (.int pos), .val (.int ch), .val (.int ch2), .val (.int bI), .val bs, .val (.ref fa), .val (.int mI), .val (.int sI), .val (.ref a), .unset] []))
        have hres : own_kind ln g w0 w1 w2 = (.ref w2) := by unfold own_kind; rw [if_neg (fun q => q hz0), if_neg (fun q => q hz1), if_pos hz2]
        refine own_up (fun tx kx => XS.aload X0.here hx rfl (hb hby at_323) rfl rfl kx) ?_
        show OwnOk p e below _ (T.setTop (mkF m 325 #[.val (.int sel), .val (.int shape), .val (.int pos), .val (.int ch), .val (.int ch2), .val (.int bI), .val bs, .val (.ref fa), .val (.int mI), .val (.int sI), .val (.ref a), .unset] [(.ref a)]))
        refine own_callS X0 hx hZ (y := (⟨"com/example/gridpost/gridpost/store/OperationKind", "fromWireName", "(Ljava/lang/String;)Lcom/example/gridpost/gridpost/store/OperationKind;"⟩ : MethodName)) hown (wd_40 hw) (wd_41 hw) (wd_42 hw) (wd_43 hw) (by decide) (m_from l Z a0 hw w0 w1 w2 s0 s1 s2 u0 u1 u2 va k0 k1 k2 kva a u ku ln g cz (.ref w2) h0 n0 OL SC hcz S0 W0 F0 E0 G0 D0 V0 S1 W1 F1 E1 G1 D1 V1 S2 W2 F2 E2 G2 D2 V2 SV EV VV E_a F_value_a F_coder_a V_u hln hres) e0 (argsL := [(.ref a)]) (rest := []) (by rw [hml]; rfl) (lenOf pd_12 rfl) rfl rfl (W := 0) rfl (hb hby at_325) (by decide) (by decide) (by decide) (by decide) (fun T17 v17 L17 X17 hQ17 => ?_)
        obtain ⟨rfl, Nq17, Kq17⟩ := hQ17
        have N17 := Fr.app N0 Nq17
        have hB17 := hB.keep Kq17 own_saf0
        have OL17 := OL.keep Kq17 all0
        have KP17 := KP0.trans Kq17 all0
        show OwnOk p e below _ (T17.setTop (mkF m 328 #[.val (.int sel), .val (.int shape), .val (.int pos), .val (.int ch), .val (.int ch2), .val (.int bI), .val bs, .val (.ref fa), .val (.int mI), .val (.int sI), .val (.ref a), .unset] [(.ref w2)]))
        refine own_up (fun tx kx => XS.astore X17.here hx rfl (hb hby at_328) rfl rfl (l' := #[.val (.int sel), .val (.int shape), .val (.int pos), .val (.int ch), .val (.int ch2), .val (.int bI), .val bs, .val (.ref fa), .val (.int mI), .val (.int sI), .val (.ref a), .val (.ref w2)]) rfl kx) ?_
        show OwnOk p e below _ (T17.setTop (mkF m 330 #[.val (.int sel), .val (.int shape), .val (.int pos), .val (.int ch), .val (.int ch2), .val (.int bI), .val bs, .val (.ref fa), .val (.int mI), .val (.int sI), .val (.ref a), .val (.ref w2)] []))
        refine own_up (fun tx kx => XS.aload X17.here hx rfl (hb hby at_330) rfl rfl kx) ?_
        show OwnOk p e below _ (T17.setTop (mkF m 332 #[.val (.int sel), .val (.int shape), .val (.int pos), .val (.int ch), .val (.int ch2), .val (.int bI), .val bs, .val (.ref fa), .val (.int mI), .val (.int sI), .val (.ref a), .val (.ref w2)] [(.ref w2)]))
        refine own_up (fun tx kx => XS.aload X17.here hx rfl (hb hby at_332) rfl rfl kx) ?_
        show OwnOk p e below _ (T17.setTop (mkF m 334 #[.val (.int sel), .val (.int shape), .val (.int pos), .val (.int ch), .val (.int ch2), .val (.int bI), .val bs, .val (.ref fa), .val (.int mI), .val (.int sI), .val (.ref a), .val (.ref w2)] [(.ref a), (.ref w2)]))
        have E_a_18 := (E_a.keep Kq17)
        have F_value_a_19 := (F_value_a.keep Kq17 nin0)
        have F_coder_a_20 := (F_coder_a.keep Kq17 nin0)
        have V_u_21 := (V_u.keep Kq17 nin0)
        refine own_callSH X17 hB17 (own_ew hw) (sf := []) own_saf0 own_lt0 hx hZ (y := (⟨"com/example/gridpost/gridpost/store/OperationKindFromWireNamePinLaw", "expected", "(Ljava/lang/String;)Lcom/example/gridpost/gridpost/store/OperationKind;"⟩ : MethodName)) hown (wd_74 hw) (wd_75 hw) (wd_12 hw) (wd_76 hw) (by decide) (m_exp l Z a0 hw w0 w1 w2 s0 s1 s2 u0 u1 u2 va k0 k1 k2 kva a u ku ln g cz (.ref w2) T17.heap n0 OL17 SC hcz S0 W0 F0 E0 G0 D0 V0 S1 W1 F1 E1 G1 D1 V1 S2 W2 F2 E2 G2 D2 V2 SV EV VV E_a_18 F_value_a_19 F_coder_a_20 V_u_21 hln hres) rfl (argsL := [(.ref a)]) (rest := [(.ref w2)]) (by rw [hml]; rfl) (lenOf pd_12 rfl) rfl rfl (W := 1) rfl (hb hby at_334) (by decide) (by decide) (by decide) (by decide) (fun s22 T22 v22 L22 X22 hB22 hZ22 hown22 hQ22 sf22 => ?_)
        obtain ⟨rfl, Nq22, Kq22⟩ := hQ22
        have N22 := Fr.app N17 Nq22
        have OL22 := OL17.keep Kq22 all0
        have KP22 := KP17.trans Kq22 all0
        show OwnOk p e below _ (T22.setTop (mkF m 337 #[.val (.int sel), .val (.int shape), .val (.int pos), .val (.int ch), .val (.int ch2), .val (.int bI), .val bs, .val (.ref fa), .val (.int mI), .val (.int sI), .val (.ref a), .val (.ref w2)] [(.ref w2), (.ref w2)]))
        refine own_up (fun tx kx => Jvm.RoadKit.acmp (g := (mkF m 337 #[.val (.int sel), .val (.int shape), .val (.int pos), .val (.int ch), .val (.int ch2), .val (.int bI), .val bs, .val (.ref fa), .val (.int mI), .val (.int sI), .val (.ref a), .val (.ref w2)] [(.ref w2), (.ref w2)])) X22 hx rfl rfl rfl (pc0 := 337) (pc' := 340) (same := true) rfl (hb hby at_337) rfl (decide_eq_true (own_ref_eq rfl)) (by decide) (by decide) kx) ?_
        show OwnOk p e below _ (T22.setTop (mkF m 340 #[.val (.int sel), .val (.int shape), .val (.int pos), .val (.int ch), .val (.int ch2), .val (.int bI), .val bs, .val (.ref fa), .val (.int mI), .val (.int sI), .val (.ref a), .val (.ref w2)] []))
        refine own_up (fun tx kx => XS.iconst X22.here hx rfl (hb hby at_340) kx) ?_
        show OwnOk p e below _ (T22.setTop (mkF m 341 #[.val (.int sel), .val (.int shape), .val (.int pos), .val (.int ch), .val (.int ch2), .val (.int bI), .val bs, .val (.ref fa), .val (.int mI), .val (.int sI), .val (.ref a), .val (.ref w2)] [(.int (1 : Int32))]))
        refine own_up (fun tx kx => XS.goto X22.here hx rfl (pc0 := 341) (pc' := 345) rfl (hb hby at_341) (by decide) (by decide) kx) ?_
        show OwnOk p e below _ (T22.setTop (mkF m 345 #[.val (.int sel), .val (.int shape), .val (.int pos), .val (.int ch), .val (.int ch2), .val (.int bI), .val bs, .val (.ref fa), .val (.int mI), .val (.int sI), .val (.ref a), .val (.ref w2)] [(.int (1 : Int32))]))
        refine own_retNH X22 hB22 hZ22 (own_ew hw) hx (t := .boolean) (show meth.sig.returnType = some .boolean from hret) (by simp) hlk (hb hby at_345) (z' := (1 : Int32)) rfl rfl (Nat.le_of_ble_eq_true rfl) (Nat.le_of_ble_eq_true rfl) ?_
        exact ⟨rfl, N22⟩
    · show OwnOk p e below _ (T.setTop (mkF m 323 #[.val (.int sel), .val (.int shape), .val (.int pos), .val (.int ch), .val (.int ch2), .val (.int bI), .val bs, .val (.ref fa), .val (.int mI), .val (.int sI), .val (.ref a), .unset] []))
      have hres : own_kind ln g w0 w1 w2 = (.ref w1) := by unfold own_kind; rw [if_neg (fun q => q hz0), if_pos hz1]
      refine own_up (fun tx kx => XS.aload X0.here hx rfl (hb hby at_323) rfl rfl kx) ?_
      show OwnOk p e below _ (T.setTop (mkF m 325 #[.val (.int sel), .val (.int shape), .val (.int pos), .val (.int ch), .val (.int ch2), .val (.int bI), .val bs, .val (.ref fa), .val (.int mI), .val (.int sI), .val (.ref a), .unset] [(.ref a)]))
      refine own_callS X0 hx hZ (y := (⟨"com/example/gridpost/gridpost/store/OperationKind", "fromWireName", "(Ljava/lang/String;)Lcom/example/gridpost/gridpost/store/OperationKind;"⟩ : MethodName)) hown (wd_40 hw) (wd_41 hw) (wd_42 hw) (wd_43 hw) (by decide) (m_from l Z a0 hw w0 w1 w2 s0 s1 s2 u0 u1 u2 va k0 k1 k2 kva a u ku ln g cz (.ref w1) h0 n0 OL SC hcz S0 W0 F0 E0 G0 D0 V0 S1 W1 F1 E1 G1 D1 V1 S2 W2 F2 E2 G2 D2 V2 SV EV VV E_a F_value_a F_coder_a V_u hln hres) e0 (argsL := [(.ref a)]) (rest := []) (by rw [hml]; rfl) (lenOf pd_12 rfl) rfl rfl (W := 0) rfl (hb hby at_325) (by decide) (by decide) (by decide) (by decide) (fun T23 v23 L23 X23 hQ23 => ?_)
      obtain ⟨rfl, Nq23, Kq23⟩ := hQ23
      have N23 := Fr.app N0 Nq23
      have hB23 := hB.keep Kq23 own_saf0
      have OL23 := OL.keep Kq23 all0
      have KP23 := KP0.trans Kq23 all0
      show OwnOk p e below _ (T23.setTop (mkF m 328 #[.val (.int sel), .val (.int shape), .val (.int pos), .val (.int ch), .val (.int ch2), .val (.int bI), .val bs, .val (.ref fa), .val (.int mI), .val (.int sI), .val (.ref a), .unset] [(.ref w1)]))
      refine own_up (fun tx kx => XS.astore X23.here hx rfl (hb hby at_328) rfl rfl (l' := #[.val (.int sel), .val (.int shape), .val (.int pos), .val (.int ch), .val (.int ch2), .val (.int bI), .val bs, .val (.ref fa), .val (.int mI), .val (.int sI), .val (.ref a), .val (.ref w1)]) rfl kx) ?_
      show OwnOk p e below _ (T23.setTop (mkF m 330 #[.val (.int sel), .val (.int shape), .val (.int pos), .val (.int ch), .val (.int ch2), .val (.int bI), .val bs, .val (.ref fa), .val (.int mI), .val (.int sI), .val (.ref a), .val (.ref w1)] []))
      refine own_up (fun tx kx => XS.aload X23.here hx rfl (hb hby at_330) rfl rfl kx) ?_
      show OwnOk p e below _ (T23.setTop (mkF m 332 #[.val (.int sel), .val (.int shape), .val (.int pos), .val (.int ch), .val (.int ch2), .val (.int bI), .val bs, .val (.ref fa), .val (.int mI), .val (.int sI), .val (.ref a), .val (.ref w1)] [(.ref w1)]))
      refine own_up (fun tx kx => XS.aload X23.here hx rfl (hb hby at_332) rfl rfl kx) ?_
      show OwnOk p e below _ (T23.setTop (mkF m 334 #[.val (.int sel), .val (.int shape), .val (.int pos), .val (.int ch), .val (.int ch2), .val (.int bI), .val bs, .val (.ref fa), .val (.int mI), .val (.int sI), .val (.ref a), .val (.ref w1)] [(.ref a), (.ref w1)]))
      have E_a_24 := (E_a.keep Kq23)
      have F_value_a_25 := (F_value_a.keep Kq23 nin0)
      have F_coder_a_26 := (F_coder_a.keep Kq23 nin0)
      have V_u_27 := (V_u.keep Kq23 nin0)
      refine own_callSH X23 hB23 (own_ew hw) (sf := []) own_saf0 own_lt0 hx hZ (y := (⟨"com/example/gridpost/gridpost/store/OperationKindFromWireNamePinLaw", "expected", "(Ljava/lang/String;)Lcom/example/gridpost/gridpost/store/OperationKind;"⟩ : MethodName)) hown (wd_74 hw) (wd_75 hw) (wd_12 hw) (wd_76 hw) (by decide) (m_exp l Z a0 hw w0 w1 w2 s0 s1 s2 u0 u1 u2 va k0 k1 k2 kva a u ku ln g cz (.ref w1) T23.heap n0 OL23 SC hcz S0 W0 F0 E0 G0 D0 V0 S1 W1 F1 E1 G1 D1 V1 S2 W2 F2 E2 G2 D2 V2 SV EV VV E_a_24 F_value_a_25 F_coder_a_26 V_u_27 hln hres) rfl (argsL := [(.ref a)]) (rest := [(.ref w1)]) (by rw [hml]; rfl) (lenOf pd_12 rfl) rfl rfl (W := 1) rfl (hb hby at_334) (by decide) (by decide) (by decide) (by decide) (fun s28 T28 v28 L28 X28 hB28 hZ28 hown28 hQ28 sf28 => ?_)
      obtain ⟨rfl, Nq28, Kq28⟩ := hQ28
      have N28 := Fr.app N23 Nq28
      have OL28 := OL23.keep Kq28 all0
      have KP28 := KP23.trans Kq28 all0
      show OwnOk p e below _ (T28.setTop (mkF m 337 #[.val (.int sel), .val (.int shape), .val (.int pos), .val (.int ch), .val (.int ch2), .val (.int bI), .val bs, .val (.ref fa), .val (.int mI), .val (.int sI), .val (.ref a), .val (.ref w1)] [(.ref w1), (.ref w1)]))
      refine own_up (fun tx kx => Jvm.RoadKit.acmp (g := (mkF m 337 #[.val (.int sel), .val (.int shape), .val (.int pos), .val (.int ch), .val (.int ch2), .val (.int bI), .val bs, .val (.ref fa), .val (.int mI), .val (.int sI), .val (.ref a), .val (.ref w1)] [(.ref w1), (.ref w1)])) X28 hx rfl rfl rfl (pc0 := 337) (pc' := 340) (same := true) rfl (hb hby at_337) rfl (decide_eq_true (own_ref_eq rfl)) (by decide) (by decide) kx) ?_
      show OwnOk p e below _ (T28.setTop (mkF m 340 #[.val (.int sel), .val (.int shape), .val (.int pos), .val (.int ch), .val (.int ch2), .val (.int bI), .val bs, .val (.ref fa), .val (.int mI), .val (.int sI), .val (.ref a), .val (.ref w1)] []))
      refine own_up (fun tx kx => XS.iconst X28.here hx rfl (hb hby at_340) kx) ?_
      show OwnOk p e below _ (T28.setTop (mkF m 341 #[.val (.int sel), .val (.int shape), .val (.int pos), .val (.int ch), .val (.int ch2), .val (.int bI), .val bs, .val (.ref fa), .val (.int mI), .val (.int sI), .val (.ref a), .val (.ref w1)] [(.int (1 : Int32))]))
      refine own_up (fun tx kx => XS.goto X28.here hx rfl (pc0 := 341) (pc' := 345) rfl (hb hby at_341) (by decide) (by decide) kx) ?_
      show OwnOk p e below _ (T28.setTop (mkF m 345 #[.val (.int sel), .val (.int shape), .val (.int pos), .val (.int ch), .val (.int ch2), .val (.int bI), .val bs, .val (.ref fa), .val (.int mI), .val (.int sI), .val (.ref a), .val (.ref w1)] [(.int (1 : Int32))]))
      refine own_retNH X28 hB28 hZ28 (own_ew hw) hx (t := .boolean) (show meth.sig.returnType = some .boolean from hret) (by simp) hlk (hb hby at_345) (z' := (1 : Int32)) rfl rfl (Nat.le_of_ble_eq_true rfl) (Nat.le_of_ble_eq_true rfl) ?_
      exact ⟨rfl, N28⟩
  · show OwnOk p e below _ (T.setTop (mkF m 323 #[.val (.int sel), .val (.int shape), .val (.int pos), .val (.int ch), .val (.int ch2), .val (.int bI), .val bs, .val (.ref fa), .val (.int mI), .val (.int sI), .val (.ref a), .unset] []))
    have hres : own_kind ln g w0 w1 w2 = (.ref w0) := by unfold own_kind; rw [if_pos hz0]
    refine own_up (fun tx kx => XS.aload X0.here hx rfl (hb hby at_323) rfl rfl kx) ?_
    show OwnOk p e below _ (T.setTop (mkF m 325 #[.val (.int sel), .val (.int shape), .val (.int pos), .val (.int ch), .val (.int ch2), .val (.int bI), .val bs, .val (.ref fa), .val (.int mI), .val (.int sI), .val (.ref a), .unset] [(.ref a)]))
    refine own_callS X0 hx hZ (y := (⟨"com/example/gridpost/gridpost/store/OperationKind", "fromWireName", "(Ljava/lang/String;)Lcom/example/gridpost/gridpost/store/OperationKind;"⟩ : MethodName)) hown (wd_40 hw) (wd_41 hw) (wd_42 hw) (wd_43 hw) (by decide) (m_from l Z a0 hw w0 w1 w2 s0 s1 s2 u0 u1 u2 va k0 k1 k2 kva a u ku ln g cz (.ref w0) h0 n0 OL SC hcz S0 W0 F0 E0 G0 D0 V0 S1 W1 F1 E1 G1 D1 V1 S2 W2 F2 E2 G2 D2 V2 SV EV VV E_a F_value_a F_coder_a V_u hln hres) e0 (argsL := [(.ref a)]) (rest := []) (by rw [hml]; rfl) (lenOf pd_12 rfl) rfl rfl (W := 0) rfl (hb hby at_325) (by decide) (by decide) (by decide) (by decide) (fun T29 v29 L29 X29 hQ29 => ?_)
    obtain ⟨rfl, Nq29, Kq29⟩ := hQ29
    have N29 := Fr.app N0 Nq29
    have hB29 := hB.keep Kq29 own_saf0
    have OL29 := OL.keep Kq29 all0
    have KP29 := KP0.trans Kq29 all0
    show OwnOk p e below _ (T29.setTop (mkF m 328 #[.val (.int sel), .val (.int shape), .val (.int pos), .val (.int ch), .val (.int ch2), .val (.int bI), .val bs, .val (.ref fa), .val (.int mI), .val (.int sI), .val (.ref a), .unset] [(.ref w0)]))
    refine own_up (fun tx kx => XS.astore X29.here hx rfl (hb hby at_328) rfl rfl (l' := #[.val (.int sel), .val (.int shape), .val (.int pos), .val (.int ch), .val (.int ch2), .val (.int bI), .val bs, .val (.ref fa), .val (.int mI), .val (.int sI), .val (.ref a), .val (.ref w0)]) rfl kx) ?_
    show OwnOk p e below _ (T29.setTop (mkF m 330 #[.val (.int sel), .val (.int shape), .val (.int pos), .val (.int ch), .val (.int ch2), .val (.int bI), .val bs, .val (.ref fa), .val (.int mI), .val (.int sI), .val (.ref a), .val (.ref w0)] []))
    refine own_up (fun tx kx => XS.aload X29.here hx rfl (hb hby at_330) rfl rfl kx) ?_
    show OwnOk p e below _ (T29.setTop (mkF m 332 #[.val (.int sel), .val (.int shape), .val (.int pos), .val (.int ch), .val (.int ch2), .val (.int bI), .val bs, .val (.ref fa), .val (.int mI), .val (.int sI), .val (.ref a), .val (.ref w0)] [(.ref w0)]))
    refine own_up (fun tx kx => XS.aload X29.here hx rfl (hb hby at_332) rfl rfl kx) ?_
    show OwnOk p e below _ (T29.setTop (mkF m 334 #[.val (.int sel), .val (.int shape), .val (.int pos), .val (.int ch), .val (.int ch2), .val (.int bI), .val bs, .val (.ref fa), .val (.int mI), .val (.int sI), .val (.ref a), .val (.ref w0)] [(.ref a), (.ref w0)]))
    have E_a_30 := (E_a.keep Kq29)
    have F_value_a_31 := (F_value_a.keep Kq29 nin0)
    have F_coder_a_32 := (F_coder_a.keep Kq29 nin0)
    have V_u_33 := (V_u.keep Kq29 nin0)
    refine own_callSH X29 hB29 (own_ew hw) (sf := []) own_saf0 own_lt0 hx hZ (y := (⟨"com/example/gridpost/gridpost/store/OperationKindFromWireNamePinLaw", "expected", "(Ljava/lang/String;)Lcom/example/gridpost/gridpost/store/OperationKind;"⟩ : MethodName)) hown (wd_74 hw) (wd_75 hw) (wd_12 hw) (wd_76 hw) (by decide) (m_exp l Z a0 hw w0 w1 w2 s0 s1 s2 u0 u1 u2 va k0 k1 k2 kva a u ku ln g cz (.ref w0) T29.heap n0 OL29 SC hcz S0 W0 F0 E0 G0 D0 V0 S1 W1 F1 E1 G1 D1 V1 S2 W2 F2 E2 G2 D2 V2 SV EV VV E_a_30 F_value_a_31 F_coder_a_32 V_u_33 hln hres) rfl (argsL := [(.ref a)]) (rest := [(.ref w0)]) (by rw [hml]; rfl) (lenOf pd_12 rfl) rfl rfl (W := 1) rfl (hb hby at_334) (by decide) (by decide) (by decide) (by decide) (fun s34 T34 v34 L34 X34 hB34 hZ34 hown34 hQ34 sf34 => ?_)
    obtain ⟨rfl, Nq34, Kq34⟩ := hQ34
    have N34 := Fr.app N29 Nq34
    have OL34 := OL29.keep Kq34 all0
    have KP34 := KP29.trans Kq34 all0
    show OwnOk p e below _ (T34.setTop (mkF m 337 #[.val (.int sel), .val (.int shape), .val (.int pos), .val (.int ch), .val (.int ch2), .val (.int bI), .val bs, .val (.ref fa), .val (.int mI), .val (.int sI), .val (.ref a), .val (.ref w0)] [(.ref w0), (.ref w0)]))
    refine own_up (fun tx kx => Jvm.RoadKit.acmp (g := (mkF m 337 #[.val (.int sel), .val (.int shape), .val (.int pos), .val (.int ch), .val (.int ch2), .val (.int bI), .val bs, .val (.ref fa), .val (.int mI), .val (.int sI), .val (.ref a), .val (.ref w0)] [(.ref w0), (.ref w0)])) X34 hx rfl rfl rfl (pc0 := 337) (pc' := 340) (same := true) rfl (hb hby at_337) rfl (decide_eq_true (own_ref_eq rfl)) (by decide) (by decide) kx) ?_
    show OwnOk p e below _ (T34.setTop (mkF m 340 #[.val (.int sel), .val (.int shape), .val (.int pos), .val (.int ch), .val (.int ch2), .val (.int bI), .val bs, .val (.ref fa), .val (.int mI), .val (.int sI), .val (.ref a), .val (.ref w0)] []))
    refine own_up (fun tx kx => XS.iconst X34.here hx rfl (hb hby at_340) kx) ?_
    show OwnOk p e below _ (T34.setTop (mkF m 341 #[.val (.int sel), .val (.int shape), .val (.int pos), .val (.int ch), .val (.int ch2), .val (.int bI), .val bs, .val (.ref fa), .val (.int mI), .val (.int sI), .val (.ref a), .val (.ref w0)] [(.int (1 : Int32))]))
    refine own_up (fun tx kx => XS.goto X34.here hx rfl (pc0 := 341) (pc' := 345) rfl (hb hby at_341) (by decide) (by decide) kx) ?_
    show OwnOk p e below _ (T34.setTop (mkF m 345 #[.val (.int sel), .val (.int shape), .val (.int pos), .val (.int ch), .val (.int ch2), .val (.int bI), .val bs, .val (.ref fa), .val (.int mI), .val (.int sI), .val (.ref a), .val (.ref w0)] [(.int (1 : Int32))]))
    refine own_retNH X34 hB34 hZ34 (own_ew hw) hx (t := .boolean) (show meth.sig.returnType = some .boolean from hret) (by simp) hlk (hb hby at_345) (z' := (1 : Int32)) rfl rfl (Nat.le_of_ble_eq_true rfl) (Nat.le_of_ble_eq_true rfl) ?_
    exact ⟨rfl, N34⟩
set_option maxRecDepth 65536 in
set_option maxHeartbeats 40000000 in
theorem law_323r (l : Launch) (Z : State) (a0 : Array Value) (hw : ∀ d ∈ tables_1, d.before a0 Z = true) (sel shape pos ch ch2 : Int32) (bI mI sI : Int32) (bs : Value) (fa xa : Addr) (cz : Int32) (w0 w1 w2 s0 s1 s2 u0 u1 u2 va : Addr) (k0 k1 k2 kva : ClassId) (a u : Addr) (ku : ClassId) (ln : Nat) (g : Nat → Int32) {p : Program} {e : Env} {s s' : State} {m : MethodId} {below : List Frame} {meth : Method} {c : Code} {T : State} (hx : p.tables.exec = Jvm.exec) (hby : c.code = code) (hml : c.maxLocals = 12) (hret : meth.sig.returnType = ret) (hlk : meth.locks = false) {locs : List Loc} (X0 : Stand p l e room_1 s' m #[(.int sel), (.int shape), (.int pos), (.int ch), (.int ch2)] below meth c T locs 20 1200) {h0 : Heap} (e0 : T.heap = h0) (hZ : Z.Warmed39 s'.vm) (hown : s'.vm.findClass "com/example/gridpost/gridpost/store/OperationKindFromWireNamePinLaw" = some m.cls) (n0 : Nat) (OL : Old Z n0 h0) (N0 : Fr n0 locs) (hB : own_FrH Z own_EL s s' h0) (SC : Sta Z Z.heap "java/lang/String" "COMPACT_STRINGS" "Z" (.int cz)) (hcz : ¬ cz = 0) (S0 : Sta Z Z.heap "com/example/gridpost/gridpost/store/OperationKind" "START" "Lcom/example/gridpost/gridpost/store/OperationKind;" (.ref w0)) (W0 : Exa Z Z.heap w0 "com/example/gridpost/gridpost/store/OperationKind") (F0 : Fld Z Z.heap w0 "com/example/gridpost/gridpost/store/OperationKind" "wireName" "Ljava/lang/String;" (.ref s0)) (E0 : Exa Z Z.heap s0 "java/lang/String") (G0 : Fld Z Z.heap s0 "java/lang/String" "value" "[B" (.ref u0)) (D0 : Fld Z Z.heap s0 "java/lang/String" "coder" "B" (.int (0 : Int32))) (V0 : Arv Z Z.heap u0 k0 .byte (Int32.ofNat 5) (own_F 5 (fun j => [(115 : Int32), (116 : Int32), (97 : Int32), (114 : Int32), (116 : Int32)].getD j 0)) (.int (0 : Int32))) (S1 : Sta Z Z.heap "com/example/gridpost/gridpost/store/OperationKind" "ABORT" "Lcom/example/gridpost/gridpost/store/OperationKind;" (.ref w1)) (W1 : Exa Z Z.heap w1 "com/example/gridpost/gridpost/store/OperationKind") (F1 : Fld Z Z.heap w1 "com/example/gridpost/gridpost/store/OperationKind" "wireName" "Ljava/lang/String;" (.ref s1)) (E1 : Exa Z Z.heap s1 "java/lang/String") (G1 : Fld Z Z.heap s1 "java/lang/String" "value" "[B" (.ref u1)) (D1 : Fld Z Z.heap s1 "java/lang/String" "coder" "B" (.int (0 : Int32))) (V1 : Arv Z Z.heap u1 k1 .byte (Int32.ofNat 5) (own_F 5 (fun j => [(97 : Int32), (98 : Int32), (111 : Int32), (114 : Int32), (116 : Int32)].getD j 0)) (.int (0 : Int32))) (S2 : Sta Z Z.heap "com/example/gridpost/gridpost/store/OperationKind" "PAUSE" "Lcom/example/gridpost/gridpost/store/OperationKind;" (.ref w2)) (W2 : Exa Z Z.heap w2 "com/example/gridpost/gridpost/store/OperationKind") (F2 : Fld Z Z.heap w2 "com/example/gridpost/gridpost/store/OperationKind" "wireName" "Ljava/lang/String;" (.ref s2)) (E2 : Exa Z Z.heap s2 "java/lang/String") (G2 : Fld Z Z.heap s2 "java/lang/String" "value" "[B" (.ref u2)) (D2 : Fld Z Z.heap s2 "java/lang/String" "coder" "B" (.int (0 : Int32))) (V2 : Arv Z Z.heap u2 k2 .byte (Int32.ofNat 5) (own_F 5 (fun j => [(112 : Int32), (97 : Int32), (117 : Int32), (115 : Int32), (101 : Int32)].getD j 0)) (.int (0 : Int32))) (SV : Sta Z Z.heap "com/example/gridpost/gridpost/store/OperationKind" "$VALUES" "[Lcom/example/gridpost/gridpost/store/OperationKind;" (.ref va)) (EV : Exa Z Z.heap va "[Lcom/example/gridpost/gridpost/store/OperationKind;") (VV : Arv Z Z.heap va kva (.object "com/example/gridpost/gridpost/store/OperationKind") (3 : Int32) [.ref w0, .ref w1, .ref w2] .null) (E_a : Exa Z h0 a "java/lang/String") (F_value_a : Fld Z h0 a "java/lang/String" "value" "[B" (.ref u)) (F_coder_a : Fld Z h0 a "java/lang/String" "coder" "B" (.int (0 : Int32))) (V_u : Arv Z h0 u ku .byte (Int32.ofNat ln) (own_F ln g) (.int (0 : Int32))) (hln : ln ≤ 6) :
    OwnOk p e below (own_KH Z own_EL s (Q_rm0 n0) room_1.cells room_1.slots) (T.setTop (mkF m 323 #[.val (.int sel), .val (.int shape), .val (.int pos), .val (.int ch), .val (.int ch2), .val (.int bI), .val bs, .val (.ref fa), .val (.int mI), .val (.int sI), .val (.ref a), .val (.ref xa)] [])) := by
  have Z0 : n0 ≤ h0.size := OL.1 ▸ OL.2.1
  show OwnOk p e below _ (T.setTop (mkF m 323 #[.val (.int sel), .val (.int shape), .val (.int pos), .val (.int ch), .val (.int ch2), .val (.int bI), .val bs, .val (.ref fa), .val (.int mI), .val (.int sI), .val (.ref a), .val (.ref xa)] []))
  have KP0 : Keep h0 h0 [] := Keep.refl h0 _
  by_cases hz0 : own_eqI 5 (fun j => [(115 : Int32), (116 : Int32), (97 : Int32), (114 : Int32), (116 : Int32)].getD j 0) ln g = 0
  · by_cases hz1 : own_eqI 5 (fun j => [(97 : Int32), (98 : Int32), (111 : Int32), (114 : Int32), (116 : Int32)].getD j 0) ln g = 0
    · by_cases hz2 : own_eqI 5 (fun j => [(112 : Int32), (97 : Int32), (117 : Int32), (115 : Int32), (101 : Int32)].getD j 0) ln g = 0
      · show OwnOk p e below _ (T.setTop (mkF m 323 #[.val (.int sel), .val (.int shape), .val (.int pos), .val (.int ch), .val (.int ch2), .val (.int bI), .val bs, .val (.ref fa), .val (.int mI), .val (.int sI), .val (.ref a), .val (.ref xa)] []))
        have hres : own_kind ln g w0 w1 w2 = .null := by unfold own_kind; rw [if_neg (fun q => q hz0), if_neg (fun q => q hz1), if_neg (fun q => q hz2)]
        refine own_up (fun tx kx => XS.aload X0.here hx rfl (hb hby at_323) rfl rfl kx) ?_
        show OwnOk p e below _ (T.setTop (mkF m 325 #[.val (.int sel), .val (.int shape), .val (.int pos), .val (.int ch), .val (.int ch2), .val (.int bI), .val bs, .val (.ref fa), .val (.int mI), .val (.int sI), .val (.ref a), .val (.ref xa)] [(.ref a)]))
        refine own_callS X0 hx hZ (y := (⟨"com/example/gridpost/gridpost/store/OperationKind", "fromWireName", "(Ljava/lang/String;)Lcom/example/gridpost/gridpost/store/OperationKind;"⟩ : MethodName)) hown (wd_40 hw) (wd_41 hw) (wd_42 hw) (wd_43 hw) (by decide) (m_from l Z a0 hw w0 w1 w2 s0 s1 s2 u0 u1 u2 va k0 k1 k2 kva a u ku ln g cz .null h0 n0 OL SC hcz S0 W0 F0 E0 G0 D0 V0 S1 W1 F1 E1 G1 D1 V1 S2 W2 F2 E2 G2 D2 V2 SV EV VV E_a F_value_a F_coder_a V_u hln hres) e0 (argsL := [(.ref a)]) (rest := []) (by rw [hml]; rfl) (lenOf pd_12 rfl) rfl rfl (W := 0) rfl (hb hby at_325) (by decide) (by decide) (by decide) (by decide) (fun T11 v11 L11 X11 hQ11 => ?_)
        obtain ⟨rfl, Nq11, Kq11⟩ := hQ11
        have N11 := Fr.app N0 Nq11
        have hB11 := hB.keep Kq11 own_saf0
        have OL11 := OL.keep Kq11 all0
        have KP11 := KP0.trans Kq11 all0
        show OwnOk p e below _ (T11.setTop (mkF m 328 #[.val (.int sel), .val (.int shape), .val (.int pos), .val (.int ch), .val (.int ch2), .val (.int bI), .val bs, .val (.ref fa), .val (.int mI), .val (.int sI), .val (.ref a), .val (.ref xa)] [.null]))
        refine own_up (fun tx kx => XS.astore X11.here hx rfl (hb hby at_328) rfl rfl (l' := #[.val (.int sel), .val (.int shape), .val (.int pos), .val (.int ch), .val (.int ch2), .val (.int bI), .val bs, .val (.ref fa), .val (.int mI), .val (.int sI), .val (.ref a), .val .null]) rfl kx) ?_
        show OwnOk p e below _ (T11.setTop (mkF m 330 #[.val (.int sel), .val (.int shape), .val (.int pos), .val (.int ch), .val (.int ch2), .val (.int bI), .val bs, .val (.ref fa), .val (.int mI), .val (.int sI), .val (.ref a), .val .null] []))
        refine own_up (fun tx kx => XS.aload X11.here hx rfl (hb hby at_330) rfl rfl kx) ?_
        show OwnOk p e below _ (T11.setTop (mkF m 332 #[.val (.int sel), .val (.int shape), .val (.int pos), .val (.int ch), .val (.int ch2), .val (.int bI), .val bs, .val (.ref fa), .val (.int mI), .val (.int sI), .val (.ref a), .val .null] [.null]))
        refine own_up (fun tx kx => XS.aload X11.here hx rfl (hb hby at_332) rfl rfl kx) ?_
        show OwnOk p e below _ (T11.setTop (mkF m 334 #[.val (.int sel), .val (.int shape), .val (.int pos), .val (.int ch), .val (.int ch2), .val (.int bI), .val bs, .val (.ref fa), .val (.int mI), .val (.int sI), .val (.ref a), .val .null] [(.ref a), .null]))
        have E_a_12 := (E_a.keep Kq11)
        have F_value_a_13 := (F_value_a.keep Kq11 nin0)
        have F_coder_a_14 := (F_coder_a.keep Kq11 nin0)
        have V_u_15 := (V_u.keep Kq11 nin0)
        refine own_callSH X11 hB11 (own_ew hw) (sf := []) own_saf0 own_lt0 hx hZ (y := (⟨"com/example/gridpost/gridpost/store/OperationKindFromWireNamePinLaw", "expected", "(Ljava/lang/String;)Lcom/example/gridpost/gridpost/store/OperationKind;"⟩ : MethodName)) hown (wd_74 hw) (wd_75 hw) (wd_12 hw) (wd_76 hw) (by decide) (m_exp l Z a0 hw w0 w1 w2 s0 s1 s2 u0 u1 u2 va k0 k1 k2 kva a u ku ln g cz .null T11.heap n0 OL11 SC hcz S0 W0 F0 E0 G0 D0 V0 S1 W1 F1 E1 G1 D1 V1 S2 W2 F2 E2 G2 D2 V2 SV EV VV E_a_12 F_value_a_13 F_coder_a_14 V_u_15 hln hres) rfl (argsL := [(.ref a)]) (rest := [.null]) (by rw [hml]; rfl) (lenOf pd_12 rfl) rfl rfl (W := 1) rfl (hb hby at_334) (by decide) (by decide) (by decide) (by decide) (fun s16 T16 v16 L16 X16 hB16 hZ16 hown16 hQ16 sf16 => ?_)
        obtain ⟨rfl, Nq16, Kq16⟩ := hQ16
        have N16 := Fr.app N11 Nq16
        have OL16 := OL11.keep Kq16 all0
        have KP16 := KP11.trans Kq16 all0
        show OwnOk p e below _ (T16.setTop (mkF m 337 #[.val (.int sel), .val (.int shape), .val (.int pos), .val (.int ch), .val (.int ch2), .val (.int bI), .val bs, .val (.ref fa), .val (.int mI), .val (.int sI), .val (.ref a), .val .null] [.null, .null]))
        refine own_up (fun tx kx => Jvm.RoadKit.acmp (g := (mkF m 337 #[.val (.int sel), .val (.int shape), .val (.int pos), .val (.int ch), .val (.int ch2), .val (.int bI), .val bs, .val (.ref fa), .val (.int mI), .val (.int sI), .val (.ref a), .val .null] [.null, .null])) X16 hx rfl rfl rfl (pc0 := 337) (pc' := 340) (same := true) rfl (hb hby at_337) rfl (decide_eq_true (rfl)) (by decide) (by decide) kx) ?_
        show OwnOk p e below _ (T16.setTop (mkF m 340 #[.val (.int sel), .val (.int shape), .val (.int pos), .val (.int ch), .val (.int ch2), .val (.int bI), .val bs, .val (.ref fa), .val (.int mI), .val (.int sI), .val (.ref a), .val .null] []))
        refine own_up (fun tx kx => XS.iconst X16.here hx rfl (hb hby at_340) kx) ?_
        show OwnOk p e below _ (T16.setTop (mkF m 341 #[.val (.int sel), .val (.int shape), .val (.int pos), .val (.int ch), .val (.int ch2), .val (.int bI), .val bs, .val (.ref fa), .val (.int mI), .val (.int sI), .val (.ref a), .val .null] [(.int (1 : Int32))]))
        refine own_up (fun tx kx => XS.goto X16.here hx rfl (pc0 := 341) (pc' := 345) rfl (hb hby at_341) (by decide) (by decide) kx) ?_
        show OwnOk p e below _ (T16.setTop (mkF m 345 #[.val (.int sel), .val (.int shape), .val (.int pos), .val (.int ch), .val (.int ch2), .val (.int bI), .val bs, .val (.ref fa), .val (.int mI), .val (.int sI), .val (.ref a), .val .null] [(.int (1 : Int32))]))
        refine own_retNH X16 hB16 hZ16 (own_ew hw) hx (t := .boolean) (show meth.sig.returnType = some .boolean from hret) (by simp) hlk (hb hby at_345) (z' := (1 : Int32)) rfl rfl (Nat.le_of_ble_eq_true rfl) (Nat.le_of_ble_eq_true rfl) ?_
        exact ⟨rfl, N16⟩
      · show OwnOk p e below _ (T.setTop (mkF m 323 #[.val (.int sel), .val (.int shape), .val (.int pos), .val (.int ch), .val (.int ch2), .val (.int bI), .val bs, .val (.ref fa), .val (.int mI), .val (.int sI), .val (.ref a), .val (.ref xa)] []))
        have hres : own_kind ln g w0 w1 w2 = (.ref w2) := by unfold own_kind; rw [if_neg (fun q => q hz0), if_neg (fun q => q hz1), if_pos hz2]
        refine own_up (fun tx kx => XS.aload X0.here hx rfl (hb hby at_323) rfl rfl kx) ?_
        show OwnOk p e below _ (T.setTop (mkF m 325 #[.val (.int sel), .val (.int shape), .val (.int pos), .val (.int ch), .val (.int ch2), .val (.int bI), .val bs, .val (.ref fa), .val (.int mI), .val (.int sI), .val (.ref a), .val (.ref xa)] [(.ref a)]))
        refine own_callS X0 hx hZ (y := (⟨"com/example/gridpost/gridpost/store/OperationKind", "fromWireName", "(Ljava/lang/String;)Lcom/example/gridpost/gridpost/store/OperationKind;"⟩ : MethodName)) hown (wd_40 hw) (wd_41 hw) (wd_42 hw) (wd_43 hw) (by decide) (m_from l Z a0 hw w0 w1 w2 s0 s1 s2 u0 u1 u2 va k0 k1 k2 kva a u ku ln g cz (.ref w2) h0 n0 OL SC hcz S0 W0 F0 E0 G0 D0 V0 S1 W1 F1 E1 G1 D1 V1 S2 W2 F2 E2 G2 D2 V2 SV EV VV E_a F_value_a F_coder_a V_u hln hres) e0 (argsL := [(.ref a)]) (rest := []) (by rw [hml]; rfl) (lenOf pd_12 rfl) rfl rfl (W := 0) rfl (hb hby at_325) (by decide) (by decide) (by decide) (by decide) (fun T17 v17 L17 X17 hQ17 => ?_)
        obtain ⟨rfl, Nq17, Kq17⟩ := hQ17
        have N17 := Fr.app N0 Nq17
        have hB17 := hB.keep Kq17 own_saf0
        have OL17 := OL.keep Kq17 all0
        have KP17 := KP0.trans Kq17 all0
        show OwnOk p e below _ (T17.setTop (mkF m 328 #[.val (.int sel), .val (.int shape), .val (.int pos), .val (.int ch), .val (.int ch2), .val (.int bI), .val bs, .val (.ref fa), .val (.int mI), .val (.int sI), .val (.ref a), .val (.ref xa)] [(.ref w2)]))
        refine own_up (fun tx kx => XS.astore X17.here hx rfl (hb hby at_328) rfl rfl (l' := #[.val (.int sel), .val (.int shape), .val (.int pos), .val (.int ch), .val (.int ch2), .val (.int bI), .val bs, .val (.ref fa), .val (.int mI), .val (.int sI), .val (.ref a), .val (.ref w2)]) rfl kx) ?_
        show OwnOk p e below _ (T17.setTop (mkF m 330 #[.val (.int sel), .val (.int shape), .val (.int pos), .val (.int ch), .val (.int ch2), .val (.int bI), .val bs, .val (.ref fa), .val (.int mI), .val (.int sI), .val (.ref a), .val (.ref w2)] []))
        refine own_up (fun tx kx => XS.aload X17.here hx rfl (hb hby at_330) rfl rfl kx) ?_
        show OwnOk p e below _ (T17.setTop (mkF m 332 #[.val (.int sel), .val (.int shape), .val (.int pos), .val (.int ch), .val (.int ch2), .val (.int bI), .val bs, .val (.ref fa), .val (.int mI), .val (.int sI), .val (.ref a), .val (.ref w2)] [(.ref w2)]))
        refine own_up (fun tx kx => XS.aload X17.here hx rfl (hb hby at_332) rfl rfl kx) ?_
        show OwnOk p e below _ (T17.setTop (mkF m 334 #[.val (.int sel), .val (.int shape), .val (.int pos), .val (.int ch), .val (.int ch2), .val (.int bI), .val bs, .val (.ref fa), .val (.int mI), .val (.int sI), .val (.ref a), .val (.ref w2)] [(.ref a), (.ref w2)]))
        have E_a_18 := (E_a.keep Kq17)
        have F_value_a_19 := (F_value_a.keep Kq17 nin0)
        have F_coder_a_20 := (F_coder_a.keep Kq17 nin0)
        have V_u_21 := (V_u.keep Kq17 nin0)
        refine own_callSH X17 hB17 (own_ew hw) (sf := []) own_saf0 own_lt0 hx hZ (y := (⟨"com/example/gridpost/gridpost/store/OperationKindFromWireNamePinLaw", "expected", "(Ljava/lang/String;)Lcom/example/gridpost/gridpost/store/OperationKind;"⟩ : MethodName)) hown (wd_74 hw) (wd_75 hw) (wd_12 hw) (wd_76 hw) (by decide) (m_exp l Z a0 hw w0 w1 w2 s0 s1 s2 u0 u1 u2 va k0 k1 k2 kva a u ku ln g cz (.ref w2) T17.heap n0 OL17 SC hcz S0 W0 F0 E0 G0 D0 V0 S1 W1 F1 E1 G1 D1 V1 S2 W2 F2 E2 G2 D2 V2 SV EV VV E_a_18 F_value_a_19 F_coder_a_20 V_u_21 hln hres) rfl (argsL := [(.ref a)]) (rest := [(.ref w2)]) (by rw [hml]; rfl) (lenOf pd_12 rfl) rfl rfl (W := 1) rfl (hb hby at_334) (by decide) (by decide) (by decide) (by decide) (fun s22 T22 v22 L22 X22 hB22 hZ22 hown22 hQ22 sf22 => ?_)
        obtain ⟨rfl, Nq22, Kq22⟩ := hQ22
        have N22 := Fr.app N17 Nq22
        have OL22 := OL17.keep Kq22 all0
        have KP22 := KP17.trans Kq22 all0
        show OwnOk p e below _ (T22.setTop (mkF m 337 #[.val (.int sel), .val (.int shape), .val (.int pos), .val (.int ch), .val (.int ch2), .val (.int bI), .val bs, .val (.ref fa), .val (.int mI), .val (.int sI), .val (.ref a), .val (.ref w2)] [(.ref w2), (.ref w2)]))
        refine own_up (fun tx kx => Jvm.RoadKit.acmp (g := (mkF m 337 #[.val (.int sel), .val (.int shape), .val (.int pos), .val (.int ch), .val (.int ch2), .val (.int bI), .val bs, .val (.ref fa), .val (.int mI), .val (.int sI), .val (.ref a), .val (.ref w2)] [(.ref w2), (.ref w2)])) X22 hx rfl rfl rfl (pc0 := 337) (pc' := 340) (same := true) rfl (hb hby at_337) rfl (decide_eq_true (own_ref_eq rfl)) (by decide) (by decide) kx) ?_
        show OwnOk p e below _ (T22.setTop (mkF m 340 #[.val (.int sel), .val (.int shape), .val (.int pos), .val (.int ch), .val (.int ch2), .val (.int bI), .val bs, .val (.ref fa), .val (.int mI), .val (.int sI), .val (.ref a), .val (.ref w2)] []))
        refine own_up (fun tx kx => XS.iconst X22.here hx rfl (hb hby at_340) kx) ?_
        show OwnOk p e below _ (T22.setTop (mkF m 341 #[.val (.int sel), .val (.int shape), .val (.int pos), .val (.int ch), .val (.int ch2), .val (.int bI), .val bs, .val (.ref fa), .val (.int mI), .val (.int sI), .val (.ref a), .val (.ref w2)] [(.int (1 : Int32))]))
        refine own_up (fun tx kx => XS.goto X22.here hx rfl (pc0 := 341) (pc' := 345) rfl (hb hby at_341) (by decide) (by decide) kx) ?_
        show OwnOk p e below _ (T22.setTop (mkF m 345 #[.val (.int sel), .val (.int shape), .val (.int pos), .val (.int ch), .val (.int ch2), .val (.int bI), .val bs, .val (.ref fa), .val (.int mI), .val (.int sI), .val (.ref a), .val (.ref w2)] [(.int (1 : Int32))]))
        refine own_retNH X22 hB22 hZ22 (own_ew hw) hx (t := .boolean) (show meth.sig.returnType = some .boolean from hret) (by simp) hlk (hb hby at_345) (z' := (1 : Int32)) rfl rfl (Nat.le_of_ble_eq_true rfl) (Nat.le_of_ble_eq_true rfl) ?_
        exact ⟨rfl, N22⟩
    · show OwnOk p e below _ (T.setTop (mkF m 323 #[.val (.int sel), .val (.int shape), .val (.int pos), .val (.int ch), .val (.int ch2), .val (.int bI), .val bs, .val (.ref fa), .val (.int mI), .val (.int sI), .val (.ref a), .val (.ref xa)] []))
      have hres : own_kind ln g w0 w1 w2 = (.ref w1) := by unfold own_kind; rw [if_neg (fun q => q hz0), if_pos hz1]
      refine own_up (fun tx kx => XS.aload X0.here hx rfl (hb hby at_323) rfl rfl kx) ?_
      show OwnOk p e below _ (T.setTop (mkF m 325 #[.val (.int sel), .val (.int shape), .val (.int pos), .val (.int ch), .val (.int ch2), .val (.int bI), .val bs, .val (.ref fa), .val (.int mI), .val (.int sI), .val (.ref a), .val (.ref xa)] [(.ref a)]))
      refine own_callS X0 hx hZ (y := (⟨"com/example/gridpost/gridpost/store/OperationKind", "fromWireName", "(Ljava/lang/String;)Lcom/example/gridpost/gridpost/store/OperationKind;"⟩ : MethodName)) hown (wd_40 hw) (wd_41 hw) (wd_42 hw) (wd_43 hw) (by decide) (m_from l Z a0 hw w0 w1 w2 s0 s1 s2 u0 u1 u2 va k0 k1 k2 kva a u ku ln g cz (.ref w1) h0 n0 OL SC hcz S0 W0 F0 E0 G0 D0 V0 S1 W1 F1 E1 G1 D1 V1 S2 W2 F2 E2 G2 D2 V2 SV EV VV E_a F_value_a F_coder_a V_u hln hres) e0 (argsL := [(.ref a)]) (rest := []) (by rw [hml]; rfl) (lenOf pd_12 rfl) rfl rfl (W := 0) rfl (hb hby at_325) (by decide) (by decide) (by decide) (by decide) (fun T23 v23 L23 X23 hQ23 => ?_)
      obtain ⟨rfl, Nq23, Kq23⟩ := hQ23
      have N23 := Fr.app N0 Nq23
      have hB23 := hB.keep Kq23 own_saf0
      have OL23 := OL.keep Kq23 all0
      have KP23 := KP0.trans Kq23 all0
      show OwnOk p e below _ (T23.setTop (mkF m 328 #[.val (.int sel), .val (.int shape), .val (.int pos), .val (.int ch), .val (.int ch2), .val (.int bI), .val bs, .val (.ref fa), .val (.int mI), .val (.int sI), .val (.ref a), .val (.ref xa)] [(.ref w1)]))
      refine own_up (fun tx kx => XS.astore X23.here hx rfl (hb hby at_328) rfl rfl (l' := #[.val (.int sel), .val (.int shape), .val (.int pos), .val (.int ch), .val (.int ch2), .val (.int bI), .val bs, .val (.ref fa), .val (.int mI), .val (.int sI), .val (.ref a), .val (.ref w1)]) rfl kx) ?_
      show OwnOk p e below _ (T23.setTop (mkF m 330 #[.val (.int sel), .val (.int shape), .val (.int pos), .val (.int ch), .val (.int ch2), .val (.int bI), .val bs, .val (.ref fa), .val (.int mI), .val (.int sI), .val (.ref a), .val (.ref w1)] []))
      refine own_up (fun tx kx => XS.aload X23.here hx rfl (hb hby at_330) rfl rfl kx) ?_
      show OwnOk p e below _ (T23.setTop (mkF m 332 #[.val (.int sel), .val (.int shape), .val (.int pos), .val (.int ch), .val (.int ch2), .val (.int bI), .val bs, .val (.ref fa), .val (.int mI), .val (.int sI), .val (.ref a), .val (.ref w1)] [(.ref w1)]))
      refine own_up (fun tx kx => XS.aload X23.here hx rfl (hb hby at_332) rfl rfl kx) ?_
      show OwnOk p e below _ (T23.setTop (mkF m 334 #[.val (.int sel), .val (.int shape), .val (.int pos), .val (.int ch), .val (.int ch2), .val (.int bI), .val bs, .val (.ref fa), .val (.int mI), .val (.int sI), .val (.ref a), .val (.ref w1)] [(.ref a), (.ref w1)]))
      have E_a_24 := (E_a.keep Kq23)
      have F_value_a_25 := (F_value_a.keep Kq23 nin0)
      have F_coder_a_26 := (F_coder_a.keep Kq23 nin0)
      have V_u_27 := (V_u.keep Kq23 nin0)
      refine own_callSH X23 hB23 (own_ew hw) (sf := []) own_saf0 own_lt0 hx hZ (y := (⟨"com/example/gridpost/gridpost/store/OperationKindFromWireNamePinLaw", "expected", "(Ljava/lang/String;)Lcom/example/gridpost/gridpost/store/OperationKind;"⟩ : MethodName)) hown (wd_74 hw) (wd_75 hw) (wd_12 hw) (wd_76 hw) (by decide) (m_exp l Z a0 hw w0 w1 w2 s0 s1 s2 u0 u1 u2 va k0 k1 k2 kva a u ku ln g cz (.ref w1) T23.heap n0 OL23 SC hcz S0 W0 F0 E0 G0 D0 V0 S1 W1 F1 E1 G1 D1 V1 S2 W2 F2 E2 G2 D2 V2 SV EV VV E_a_24 F_value_a_25 F_coder_a_26 V_u_27 hln hres) rfl (argsL := [(.ref a)]) (rest := [(.ref w1)]) (by rw [hml]; rfl) (lenOf pd_12 rfl) rfl rfl (W := 1) rfl (hb hby at_334) (by decide) (by decide) (by decide) (by decide) (fun s28 T28 v28 L28 X28 hB28 hZ28 hown28 hQ28 sf28 => ?_)
      obtain ⟨rfl, Nq28, Kq28⟩ := hQ28
      have N28 := Fr.app N23 Nq28
      have OL28 := OL23.keep Kq28 all0
      have KP28 := KP23.trans Kq28 all0
      show OwnOk p e below _ (T28.setTop (mkF m 337 #[.val (.int sel), .val (.int shape), .val (.int pos), .val (.int ch), .val (.int ch2), .val (.int bI), .val bs, .val (.ref fa), .val (.int mI), .val (.int sI), .val (.ref a), .val (.ref w1)] [(.ref w1), (.ref w1)]))
      refine own_up (fun tx kx => Jvm.RoadKit.acmp (g := (mkF m 337 #[.val (.int sel), .val (.int shape), .val (.int pos), .val (.int ch), .val (.int ch2), .val (.int bI), .val bs, .val (.ref fa), .val (.int mI), .val (.int sI), .val (.ref a), .val (.ref w1)] [(.ref w1), (.ref w1)])) X28 hx rfl rfl rfl (pc0 := 337) (pc' := 340) (same := true) rfl (hb hby at_337) rfl (decide_eq_true (own_ref_eq rfl)) (by decide) (by decide) kx) ?_
      show OwnOk p e below _ (T28.setTop (mkF m 340 #[.val (.int sel), .val (.int shape), .val (.int pos), .val (.int ch), .val (.int ch2), .val (.int bI), .val bs, .val (.ref fa), .val (.int mI), .val (.int sI), .val (.ref a), .val (.ref w1)] []))
      refine own_up (fun tx kx => XS.iconst X28.here hx rfl (hb hby at_340) kx) ?_
      show OwnOk p e below _ (T28.setTop (mkF m 341 #[.val (.int sel), .val (.int shape), .val (.int pos), .val (.int ch), .val (.int ch2), .val (.int bI), .val bs, .val (.ref fa), .val (.int mI), .val (.int sI), .val (.ref a), .val (.ref w1)] [(.int (1 : Int32))]))
      refine own_up (fun tx kx => XS.goto X28.here hx rfl (pc0 := 341) (pc' := 345) rfl (hb hby at_341) (by decide) (by decide) kx) ?_
      show OwnOk p e below _ (T28.setTop (mkF m 345 #[.val (.int sel), .val (.int shape), .val (.int pos), .val (.int ch), .val (.int ch2), .val (.int bI), .val bs, .val (.ref fa), .val (.int mI), .val (.int sI), .val (.ref a), .val (.ref w1)] [(.int (1 : Int32))]))
      refine own_retNH X28 hB28 hZ28 (own_ew hw) hx (t := .boolean) (show meth.sig.returnType = some .boolean from hret) (by simp) hlk (hb hby at_345) (z' := (1 : Int32)) rfl rfl (Nat.le_of_ble_eq_true rfl) (Nat.le_of_ble_eq_true rfl) ?_
      exact ⟨rfl, N28⟩
  · show OwnOk p e below _ (T.setTop (mkF m 323 #[.val (.int sel), .val (.int shape), .val (.int pos), .val (.int ch), .val (.int ch2), .val (.int bI), .val bs, .val (.ref fa), .val (.int mI), .val (.int sI), .val (.ref a), .val (.ref xa)] []))
    have hres : own_kind ln g w0 w1 w2 = (.ref w0) := by unfold own_kind; rw [if_pos hz0]
    refine own_up (fun tx kx => XS.aload X0.here hx rfl (hb hby at_323) rfl rfl kx) ?_
    show OwnOk p e below _ (T.setTop (mkF m 325 #[.val (.int sel), .val (.int shape), .val (.int pos), .val (.int ch), .val (.int ch2), .val (.int bI), .val bs, .val (.ref fa), .val (.int mI), .val (.int sI), .val (.ref a), .val (.ref xa)] [(.ref a)]))
    refine own_callS X0 hx hZ (y := (⟨"com/example/gridpost/gridpost/store/OperationKind", "fromWireName", "(Ljava/lang/String;)Lcom/example/gridpost/gridpost/store/OperationKind;"⟩ : MethodName)) hown (wd_40 hw) (wd_41 hw) (wd_42 hw) (wd_43 hw) (by decide) (m_from l Z a0 hw w0 w1 w2 s0 s1 s2 u0 u1 u2 va k0 k1 k2 kva a u ku ln g cz (.ref w0) h0 n0 OL SC hcz S0 W0 F0 E0 G0 D0 V0 S1 W1 F1 E1 G1 D1 V1 S2 W2 F2 E2 G2 D2 V2 SV EV VV E_a F_value_a F_coder_a V_u hln hres) e0 (argsL := [(.ref a)]) (rest := []) (by rw [hml]; rfl) (lenOf pd_12 rfl) rfl rfl (W := 0) rfl (hb hby at_325) (by decide) (by decide) (by decide) (by decide) (fun T29 v29 L29 X29 hQ29 => ?_)
    obtain ⟨rfl, Nq29, Kq29⟩ := hQ29
    have N29 := Fr.app N0 Nq29
    have hB29 := hB.keep Kq29 own_saf0
    have OL29 := OL.keep Kq29 all0
    have KP29 := KP0.trans Kq29 all0
    show OwnOk p e below _ (T29.setTop (mkF m 328 #[.val (.int sel), .val (.int shape), .val (.int pos), .val (.int ch), .val (.int ch2), .val (.int bI), .val bs, .val (.ref fa), .val (.int mI), .val (.int sI), .val (.ref a), .val (.ref xa)] [(.ref w0)]))
    refine own_up (fun tx kx => XS.astore X29.here hx rfl (hb hby at_328) rfl rfl (l' := #[.val (.int sel), .val (.int shape), .val (.int pos), .val (.int ch), .val (.int ch2), .val (.int bI), .val bs, .val (.ref fa), .val (.int mI), .val (.int sI), .val (.ref a), .val (.ref w0)]) rfl kx) ?_
    show OwnOk p e below _ (T29.setTop (mkF m 330 #[.val (.int sel), .val (.int shape), .val (.int pos), .val (.int ch), .val (.int ch2), .val (.int bI), .val bs, .val (.ref fa), .val (.int mI), .val (.int sI), .val (.ref a), .val (.ref w0)] []))
    refine own_up (fun tx kx => XS.aload X29.here hx rfl (hb hby at_330) rfl rfl kx) ?_
    show OwnOk p e below _ (T29.setTop (mkF m 332 #[.val (.int sel), .val (.int shape), .val (.int pos), .val (.int ch), .val (.int ch2), .val (.int bI), .val bs, .val (.ref fa), .val (.int mI), .val (.int sI), .val (.ref a), .val (.ref w0)] [(.ref w0)]))
    refine own_up (fun tx kx => XS.aload X29.here hx rfl (hb hby at_332) rfl rfl kx) ?_
    show OwnOk p e below _ (T29.setTop (mkF m 334 #[.val (.int sel), .val (.int shape), .val (.int pos), .val (.int ch), .val (.int ch2), .val (.int bI), .val bs, .val (.ref fa), .val (.int mI), .val (.int sI), .val (.ref a), .val (.ref w0)] [(.ref a), (.ref w0)]))
    have E_a_30 := (E_a.keep Kq29)
    have F_value_a_31 := (F_value_a.keep Kq29 nin0)
    have F_coder_a_32 := (F_coder_a.keep Kq29 nin0)
    have V_u_33 := (V_u.keep Kq29 nin0)
    refine own_callSH X29 hB29 (own_ew hw) (sf := []) own_saf0 own_lt0 hx hZ (y := (⟨"com/example/gridpost/gridpost/store/OperationKindFromWireNamePinLaw", "expected", "(Ljava/lang/String;)Lcom/example/gridpost/gridpost/store/OperationKind;"⟩ : MethodName)) hown (wd_74 hw) (wd_75 hw) (wd_12 hw) (wd_76 hw) (by decide) (m_exp l Z a0 hw w0 w1 w2 s0 s1 s2 u0 u1 u2 va k0 k1 k2 kva a u ku ln g cz (.ref w0) T29.heap n0 OL29 SC hcz S0 W0 F0 E0 G0 D0 V0 S1 W1 F1 E1 G1 D1 V1 S2 W2 F2 E2 G2 D2 V2 SV EV VV E_a_30 F_value_a_31 F_coder_a_32 V_u_33 hln hres) rfl (argsL := [(.ref a)]) (rest := [(.ref w0)]) (by rw [hml]; rfl) (lenOf pd_12 rfl) rfl rfl (W := 1) rfl (hb hby at_334) (by decide) (by decide) (by decide) (by decide) (fun s34 T34 v34 L34 X34 hB34 hZ34 hown34 hQ34 sf34 => ?_)
    obtain ⟨rfl, Nq34, Kq34⟩ := hQ34
    have N34 := Fr.app N29 Nq34
    have OL34 := OL29.keep Kq34 all0
    have KP34 := KP29.trans Kq34 all0
    show OwnOk p e below _ (T34.setTop (mkF m 337 #[.val (.int sel), .val (.int shape), .val (.int pos), .val (.int ch), .val (.int ch2), .val (.int bI), .val bs, .val (.ref fa), .val (.int mI), .val (.int sI), .val (.ref a), .val (.ref w0)] [(.ref w0), (.ref w0)]))
    refine own_up (fun tx kx => Jvm.RoadKit.acmp (g := (mkF m 337 #[.val (.int sel), .val (.int shape), .val (.int pos), .val (.int ch), .val (.int ch2), .val (.int bI), .val bs, .val (.ref fa), .val (.int mI), .val (.int sI), .val (.ref a), .val (.ref w0)] [(.ref w0), (.ref w0)])) X34 hx rfl rfl rfl (pc0 := 337) (pc' := 340) (same := true) rfl (hb hby at_337) rfl (decide_eq_true (own_ref_eq rfl)) (by decide) (by decide) kx) ?_
    show OwnOk p e below _ (T34.setTop (mkF m 340 #[.val (.int sel), .val (.int shape), .val (.int pos), .val (.int ch), .val (.int ch2), .val (.int bI), .val bs, .val (.ref fa), .val (.int mI), .val (.int sI), .val (.ref a), .val (.ref w0)] []))
    refine own_up (fun tx kx => XS.iconst X34.here hx rfl (hb hby at_340) kx) ?_
    show OwnOk p e below _ (T34.setTop (mkF m 341 #[.val (.int sel), .val (.int shape), .val (.int pos), .val (.int ch), .val (.int ch2), .val (.int bI), .val bs, .val (.ref fa), .val (.int mI), .val (.int sI), .val (.ref a), .val (.ref w0)] [(.int (1 : Int32))]))
    refine own_up (fun tx kx => XS.goto X34.here hx rfl (pc0 := 341) (pc' := 345) rfl (hb hby at_341) (by decide) (by decide) kx) ?_
    show OwnOk p e below _ (T34.setTop (mkF m 345 #[.val (.int sel), .val (.int shape), .val (.int pos), .val (.int ch), .val (.int ch2), .val (.int bI), .val bs, .val (.ref fa), .val (.int mI), .val (.int sI), .val (.ref a), .val (.ref w0)] [(.int (1 : Int32))]))
    refine own_retNH X34 hB34 hZ34 (own_ew hw) hx (t := .boolean) (show meth.sig.returnType = some .boolean from hret) (by simp) hlk (hb hby at_345) (z' := (1 : Int32)) rfl rfl (Nat.le_of_ble_eq_true rfl) (Nat.le_of_ble_eq_true rfl) ?_
    exact ⟨rfl, N34⟩
set_option maxRecDepth 65536 in
set_option maxHeartbeats 40000000 in
theorem law_143 (l : Launch) (Z : State) (a0 : Array Value) (hw : ∀ d ∈ tables_1, d.before a0 Z = true) (sel shape pos ch ch2 : Int32) (bI mI : Int32) (bs : Value) (fa : Addr) (kf : ClassId) (cz : Int32) (w0 w1 w2 s0 s1 s2 u0 u1 u2 va : Addr) (k0 k1 k2 kva : ClassId) (x0 x1 x2 x3 x4 : Int32) {p : Program} {e : Env} {s s' : State} {m : MethodId} {below : List Frame} {meth : Method} {c : Code} {T : State} (hx : p.tables.exec = Jvm.exec) (hby : c.code = code) (hml : c.maxLocals = 12) (hret : meth.sig.returnType = ret) (hlk : meth.locks = false) {locs : List Loc} (X0 : Stand p l e room_1 s' m #[(.int sel), (.int shape), (.int pos), (.int ch), (.int ch2)] below meth c T locs 6 400) {h0 : Heap} (e0 : T.heap = h0) (hZ : Z.Warmed39 s'.vm) (hown : s'.vm.findClass "com/example/gridpost/gridpost/store/OperationKindFromWireNamePinLaw" = some m.cls) (n0 : Nat) (OL : Old Z n0 h0) (N0 : Fr n0 locs) (hB : own_FrH Z own_EL s s' h0) (SC : Sta Z Z.heap "java/lang/String" "COMPACT_STRINGS" "Z" (.int cz)) (hcz : ¬ cz = 0) (S0 : Sta Z Z.heap "com/example/gridpost/gridpost/store/OperationKind" "START" "Lcom/example/gridpost/gridpost/store/OperationKind;" (.ref w0)) (W0 : Exa Z Z.heap w0 "com/example/gridpost/gridpost/store/OperationKind") (F0 : Fld Z Z.heap w0 "com/example/gridpost/gridpost/store/OperationKind" "wireName" "Ljava/lang/String;" (.ref s0)) (E0 : Exa Z Z.heap s0 "java/lang/String") (G0 : Fld Z Z.heap s0 "java/lang/String" "value" "[B" (.ref u0)) (D0 : Fld Z Z.heap s0 "java/lang/String" "coder" "B" (.int (0 : Int32))) (V0 : Arv Z Z.heap u0 k0 .byte (Int32.ofNat 5) (own_F 5 (fun j => [(115 : Int32), (116 : Int32), (97 : Int32), (114 : Int32), (116 : Int32)].getD j 0)) (.int (0 : Int32))) (S1 : Sta Z Z.heap "com/example/gridpost/gridpost/store/OperationKind" "ABORT" "Lcom/example/gridpost/gridpost/store/OperationKind;" (.ref w1)) (W1 : Exa Z Z.heap w1 "com/example/gridpost/gridpost/store/OperationKind") (F1 : Fld Z Z.heap w1 "com/example/gridpost/gridpost/store/OperationKind" "wireName" "Ljava/lang/String;" (.ref s1)) (E1 : Exa Z Z.heap s1 "java/lang/String") (G1 : Fld Z Z.heap s1 "java/lang/String" "value" "[B" (.ref u1)) (D1 : Fld Z Z.heap s1 "java/lang/String" "coder" "B" (.int (0 : Int32))) (V1 : Arv Z Z.heap u1 k1 .byte (Int32.ofNat 5) (own_F 5 (fun j => [(97 : Int32), (98 : Int32), (111 : Int32), (114 : Int32), (116 : Int32)].getD j 0)) (.int (0 : Int32))) (S2 : Sta Z Z.heap "com/example/gridpost/gridpost/store/OperationKind" "PAUSE" "Lcom/example/gridpost/gridpost/store/OperationKind;" (.ref w2)) (W2 : Exa Z Z.heap w2 "com/example/gridpost/gridpost/store/OperationKind") (F2 : Fld Z Z.heap w2 "com/example/gridpost/gridpost/store/OperationKind" "wireName" "Ljava/lang/String;" (.ref s2)) (E2 : Exa Z Z.heap s2 "java/lang/String") (G2 : Fld Z Z.heap s2 "java/lang/String" "value" "[B" (.ref u2)) (D2 : Fld Z Z.heap s2 "java/lang/String" "coder" "B" (.int (0 : Int32))) (V2 : Arv Z Z.heap u2 k2 .byte (Int32.ofNat 5) (own_F 5 (fun j => [(112 : Int32), (97 : Int32), (117 : Int32), (115 : Int32), (101 : Int32)].getD j 0)) (.int (0 : Int32))) (SV : Sta Z Z.heap "com/example/gridpost/gridpost/store/OperationKind" "$VALUES" "[Lcom/example/gridpost/gridpost/store/OperationKind;" (.ref va)) (EV : Exa Z Z.heap va "[Lcom/example/gridpost/gridpost/store/OperationKind;") (VV : Arv Z Z.heap va kva (.object "com/example/gridpost/gridpost/store/OperationKind") (3 : Int32) [.ref w0, .ref w1, .ref w2] .null) (V_fa : Arv Z h0 fa kf .char (5 : Int32) [(.int x0), (.int x1), (.int x2), (.int x3), (.int x4)] (.int (0 : Int32))) (c0 : ¬ x0 < 0 ∧ ¬ (255 : Int32) < x0) (c1 : ¬ x1 < 0 ∧ ¬ (255 : Int32) < x1) (c2 : ¬ x2 < 0 ∧ ¬ (255 : Int32) < x2) (c3 : ¬ x3 < 0 ∧ ¬ (255 : Int32) < x3) (c4 : ¬ x4 < 0 ∧ ¬ (255 : Int32) < x4) :
    OwnOk p e below (own_KH Z own_EL s (Q_rm0 n0) room_1.cells room_1.slots) (T.setTop (mkF m 143 #[.val (.int sel), .val (.int shape), .val (.int pos), .val (.int ch), .val (.int ch2), .val (.int bI), .val bs, .val (.ref fa), .val (.int mI), .unset, .unset, .unset] [])) := by
  have Z0 : n0 ≤ h0.size := OL.1 ▸ OL.2.1
  show OwnOk p e below _ (T.setTop (mkF m 143 #[.val (.int sel), .val (.int shape), .val (.int pos), .val (.int ch), .val (.int ch2), .val (.int bI), .val bs, .val (.ref fa), .val (.int mI), .unset, .unset, .unset] []))
  refine own_up (fun tx kx => XS.iloadN X0.here hx rfl (hb hby at_143) rfl kx) ?_
  show OwnOk p e below _ (T.setTop (mkF m 144 #[.val (.int sel), .val (.int shape), .val (.int pos), .val (.int ch), .val (.int ch2), .val (.int bI), .val bs, .val (.ref fa), .val (.int mI), .unset, .unset, .unset] [(.int shape)]))
  refine own_up (fun tx kx => X0.ldcInt hx hown (mvT hZ (wd_0 hw)) (g := (mkF m 144 #[.val (.int sel), .val (.int shape), .val (.int pos), .val (.int ch), .val (.int ch2), .val (.int bI), .val bs, .val (.ref fa), .val (.int mI), .unset, .unset, .unset] [(.int shape)])) rfl (hb hby at_144) _ kx) ?_
  show OwnOk p e below _ (T.setTop (mkF m 146 #[.val (.int sel), .val (.int shape), .val (.int pos), .val (.int ch), .val (.int ch2), .val (.int bI), .val bs, .val (.ref fa), .val (.int mI), .unset, .unset, .unset] [(.int (2147483647 : Int32)), (.int shape)]))
  refine own_up (fun tx kx => XS.iand X0.here hx rfl (hb hby at_146) rfl kx) ?_
  show OwnOk p e below _ (T.setTop (mkF m 147 #[.val (.int sel), .val (.int shape), .val (.int pos), .val (.int ch), .val (.int ch2), .val (.int bI), .val bs, .val (.ref fa), .val (.int mI), .unset, .unset, .unset] [(.int (shape &&& (2147483647 : Int32)))]))
  refine own_up (fun tx kx => XS.iconst X0.here hx rfl (hb hby at_147) kx) ?_
  show OwnOk p e below _ (T.setTop (mkF m 148 #[.val (.int sel), .val (.int shape), .val (.int pos), .val (.int ch), .val (.int ch2), .val (.int bI), .val bs, .val (.ref fa), .val (.int mI), .unset, .unset, .unset] [(.int (5 : Int32)), (.int (shape &&& (2147483647 : Int32)))]))
  refine own_up (fun tx kx => Jvm.RoadKit.iremM (g := (mkF m 148 #[.val (.int sel), .val (.int shape), .val (.int pos), .val (.int ch), .val (.int ch2), .val (.int bI), .val bs, .val (.ref fa), .val (.int mI), .unset, .unset, .unset] [(.int (5 : Int32)), (.int (shape &&& (2147483647 : Int32)))])) X0 hx rfl (hb hby at_148) rfl (by decide) kx) ?_
  show OwnOk p e below _ (T.setTop (mkF m 149 #[.val (.int sel), .val (.int shape), .val (.int pos), .val (.int ch), .val (.int ch2), .val (.int bI), .val bs, .val (.ref fa), .val (.int mI), .unset, .unset, .unset] [(.int ((shape &&& (2147483647 : Int32)) % (5 : Int32)))]))
  obtain ⟨si, hsi, esi⟩ := own_idx shape 5 (by decide) (by decide)
  have esi : (shape &&& (2147483647 : Int32)) % (5 : Int32) = Int32.ofNat si := esi
  rw [esi]
  show OwnOk p e below _ (T.setTop (mkF m 149 #[.val (.int sel), .val (.int shape), .val (.int pos), .val (.int ch), .val (.int ch2), .val (.int bI), .val bs, .val (.ref fa), .val (.int mI), .unset, .unset, .unset] [(.int (Int32.ofNat si))]))
  refine own_up (fun tx kx => XS.istore X0.here hx rfl (hb hby at_149) rfl (l' := #[.val (.int sel), .val (.int shape), .val (.int pos), .val (.int ch), .val (.int ch2), .val (.int bI), .val bs, .val (.ref fa), .val (.int mI), .val (.int (Int32.ofNat si)), .unset, .unset]) rfl kx) ?_
  show OwnOk p e below _ (T.setTop (mkF m 151 #[.val (.int sel), .val (.int shape), .val (.int pos), .val (.int ch), .val (.int ch2), .val (.int bI), .val bs, .val (.ref fa), .val (.int mI), .val (.int (Int32.ofNat si)), .unset, .unset] []))
  refine own_up (fun tx kx => XS.iload X0.here hx rfl (hb hby at_151) rfl kx) ?_
  show OwnOk p e below _ (T.setTop (mkF m 153 #[.val (.int sel), .val (.int shape), .val (.int pos), .val (.int ch), .val (.int ch2), .val (.int bI), .val bs, .val (.ref fa), .val (.int mI), .val (.int (Int32.ofNat si)), .unset, .unset] [(.int (Int32.ofNat si))]))
  by_cases e0_ : (Int32.ofNat si) = (0 : Int32)
  · refine own_up (fun tx kx => XS.ifNo X0.here hx rfl (hb hby at_153) rfl ((if0 _ _).trans (teq e0_).2) kx) ?_
    show OwnOk p e below _ (T.setTop (mkF m 156 #[.val (.int sel), .val (.int shape), .val (.int pos), .val (.int ch), .val (.int ch2), .val (.int bI), .val bs, .val (.ref fa), .val (.int mI), .val (.int (Int32.ofNat si)), .unset, .unset] []))
    obtain ⟨T11, h11, X11, e11, E11, A11, D11, -, st11⟩ := newO X0 hx hZ hown (wd_80 hw) (wd_3 hw) (wd_2 hw) e0 (g := (mkF m 156 #[.val (.int sel), .val (.int shape), .val (.int pos), .val (.int ch), .val (.int ch2), .val (.int bI), .val bs, .val (.ref fa), .val (.int mI), .val (.int (Int32.ofNat si)), .unset, .unset] [])) rfl (hb hby at_156) (by decide) (by decide)
    obtain ⟨b11, g11⟩ : ∃ z, z = h0.size := ⟨_, rfl⟩
    rw [← g11] at A11 D11 st11
    have sz_b11 : h0.size ≤ b11 := Nat.le_of_eq g11.symm
    have lt_fa_b11 : fa < b11 := Nat.lt_of_lt_of_le V_fa.lt sz_b11
    have n0_b11 : n0 ≤ b11 := Nat.le_trans (own_n0 OL) sz_b11
    have F_value_b11 : Fld Z h11 b11 "java/lang/String" "value" "[B" .null := D11 (Or.inr (wd_5 hw)) (ty := (.array .byte)) (by decide)
    have F_coder_b11 : Fld Z h11 b11 "java/lang/String" "coder" "B" (.int (0 : Int32)) := D11 (Or.inr (wd_6 hw)) (ty := .byte) (by decide)
    have OL13 := OL.ext E11
    have hB13 := hB.ext E11
    have sf_b11_14 := hB.sNew E11 sz_b11
    refine own_up st11 ?_
    show OwnOk p e below _ (T11.setTop (mkF m 159 #[.val (.int sel), .val (.int shape), .val (.int pos), .val (.int ch), .val (.int ch2), .val (.int bI), .val bs, .val (.ref fa), .val (.int mI), .val (.int (Int32.ofNat si)), .unset, .unset] [(.ref b11)]))
    refine own_up (fun tx kx => XS.dup X11.here hx rfl (hb hby at_159) rfl rfl kx) ?_
    show OwnOk p e below _ (T11.setTop (mkF m 160 #[.val (.int sel), .val (.int shape), .val (.int pos), .val (.int ch), .val (.int ch2), .val (.int bI), .val bs, .val (.ref fa), .val (.int mI), .val (.int (Int32.ofNat si)), .unset, .unset] [(.ref b11), (.ref b11)]))
    refine own_up (fun tx kx => XS.aload X11.here hx rfl (hb hby at_160) rfl rfl kx) ?_
    show OwnOk p e below _ (T11.setTop (mkF m 162 #[.val (.int sel), .val (.int shape), .val (.int pos), .val (.int ch), .val (.int ch2), .val (.int bI), .val bs, .val (.ref fa), .val (.int mI), .val (.int (Int32.ofNat si)), .unset, .unset] [(.ref fa), (.ref b11), (.ref b11)]))
    have V_fa_15 := (V_fa.ext E11)
    refine own_callC X11 hx hZ (y := (⟨"java/lang/String", "<init>", "([C)V"⟩ : MethodName)) rfl hown (wd_81 hw) (wd_82 hw) (wd_2 hw) (wd_83 hw) (by decide) (c_init1_5 l Z a0 hw b11 fa kf x0 x1 x2 x3 x4 cz h11 n0 OL13 SC hcz A11 F_value_b11 F_coder_b11 n0_b11 V_fa_15 (Nat.ne_of_gt lt_fa_b11) c0.2 c1.2 c2.2 c3.2 c4.2) e11 (argsL := [(.ref fa)]) (rest := [(.ref b11)]) (a := b11) (by rw [hml]; rfl) (lenOf pd_13 rfl) rfl rfl (W := 1) rfl (hb hby at_162) (by decide) (by decide) (by decide) (by decide) (fun T16 v16 L16 X16 hQ16 => ?_)
    obtain ⟨rfl, Nq16, Kq16, uu16, ku16, gu16, ea16, fv16, fc16, vu16⟩ := hQ16
    have N16 := Fr.app N0 Nq16
    have hB16 := hB13.keep Kq16 (own_safS sf_b11_14 own_saf0)
    have sf_b11_17 := hB13.sKeep Kq16 (own_safS sf_b11_14 own_saf0) sf_b11_14
    have OL16 := OL13.keep Kq16 (allS n0_b11 all0)
    show OwnOk p e below _ (T16.setTop (mkF m 165 #[.val (.int sel), .val (.int shape), .val (.int pos), .val (.int ch), .val (.int ch2), .val (.int bI), .val bs, .val (.ref fa), .val (.int mI), .val (.int (Int32.ofNat si)), .unset, .unset] [(.ref b11)]))
    refine own_up (fun tx kx => XS.astore X16.here hx rfl (hb hby at_165) rfl rfl (l' := #[.val (.int sel), .val (.int shape), .val (.int pos), .val (.int ch), .val (.int ch2), .val (.int bI), .val bs, .val (.ref fa), .val (.int mI), .val (.int (Int32.ofNat si)), .val (.ref b11), .unset]) rfl kx) ?_
    show OwnOk p e below _ (T16.setTop (mkF m 167 #[.val (.int sel), .val (.int shape), .val (.int pos), .val (.int ch), .val (.int ch2), .val (.int bI), .val bs, .val (.ref fa), .val (.int mI), .val (.int (Int32.ofNat si)), .val (.ref b11), .unset] []))
    refine own_up (fun tx kx => XS.goto X16.here hx rfl (pc0 := 167) (pc' := 323) rfl (hb hby at_167) (by decide) (by decide) kx) ?_
    show OwnOk p e below _ (T16.setTop (mkF m 323 #[.val (.int sel), .val (.int shape), .val (.int pos), .val (.int ch), .val (.int ch2), .val (.int bI), .val bs, .val (.ref fa), .val (.int mI), .val (.int (Int32.ofNat si)), .val (.ref b11), .unset] []))
    exact law_323 l Z a0 hw sel shape pos ch ch2 bI mI (Int32.ofNat si) bs fa fa cz w0 w1 w2 s0 s1 s2 u0 u1 u2 va k0 k1 k2 kva b11 uu16 ku16 5 (fun j => [(nar .byte (x0.toInt8.toInt32)), (nar .byte (x1.toInt8.toInt32)), (nar .byte (x2.toInt8.toInt32)), (nar .byte (x3.toInt8.toInt32)), (nar .byte (x4.toInt8.toInt32))].getD j 0) hx hby hml hret hlk (X16.mono (Nat.le_of_ble_eq_true rfl) (Nat.le_of_ble_eq_true rfl)) rfl hZ hown n0 OL16 N16 hB16 SC hcz S0 W0 F0 E0 G0 D0 V0 S1 W1 F1 E1 G1 D1 V1 S2 W2 F2 E2 G2 D2 V2 SV EV VV ea16 fv16 fc16 vu16 (by decide)
  · refine own_up (fun tx kx => XS.ifYes X0.here hx rfl (pc0 := 153) (pc' := 170) rfl (hb hby at_153) rfl ((if0 _ _).trans (feq e0_).2) (by decide) (by decide) kx) ?_
    show OwnOk p e below _ (T.setTop (mkF m 170 #[.val (.int sel), .val (.int shape), .val (.int pos), .val (.int ch), .val (.int ch2), .val (.int bI), .val bs, .val (.ref fa), .val (.int mI), .val (.int (Int32.ofNat si)), .unset, .unset] []))
    refine own_up (fun tx kx => XS.iload X0.here hx rfl (hb hby at_170) rfl kx) ?_
    show OwnOk p e below _ (T.setTop (mkF m 172 #[.val (.int sel), .val (.int shape), .val (.int pos), .val (.int ch), .val (.int ch2), .val (.int bI), .val bs, .val (.ref fa), .val (.int mI), .val (.int (Int32.ofNat si)), .unset, .unset] [(.int (Int32.ofNat si))]))
    refine own_up (fun tx kx => XS.iconst X0.here hx rfl (hb hby at_172) kx) ?_
    show OwnOk p e below _ (T.setTop (mkF m 173 #[.val (.int sel), .val (.int shape), .val (.int pos), .val (.int ch), .val (.int ch2), .val (.int bI), .val bs, .val (.ref fa), .val (.int mI), .val (.int (Int32.ofNat si)), .unset, .unset] [(.int (1 : Int32)), (.int (Int32.ofNat si))]))
    by_cases e1_ : (Int32.ofNat si) = (1 : Int32)
    · refine own_up (fun tx kx => XS.icmpNo X0.here hx rfl (hb hby at_173) rfl (teq e1_).2 kx) ?_
      show OwnOk p e below _ (T.setTop (mkF m 176 #[.val (.int sel), .val (.int shape), .val (.int pos), .val (.int ch), .val (.int ch2), .val (.int bI), .val bs, .val (.ref fa), .val (.int mI), .val (.int (Int32.ofNat si)), .unset, .unset] []))
      refine own_up (fun tx kx => XS.iconst X0.here hx rfl (hb hby at_176) kx) ?_
      show OwnOk p e below _ (T.setTop (mkF m 177 #[.val (.int sel), .val (.int shape), .val (.int pos), .val (.int ch), .val (.int ch2), .val (.int bI), .val bs, .val (.ref fa), .val (.int mI), .val (.int (Int32.ofNat si)), .unset, .unset] [(.int (4 : Int32))]))
      obtain ⟨T18, h18, k18, X18, e18, E18, A18, st18⟩ := newP (aty := .char) X0 hx hZ (wd_9 hw) e0 (g := (mkF m 177 #[.val (.int sel), .val (.int shape), .val (.int pos), .val (.int ch), .val (.int ch2), .val (.int bI), .val bs, .val (.ref fa), .val (.int mI), .val (.int (Int32.ofNat si)), .unset, .unset] [(.int (4 : Int32))])) rfl (hb hby at_177) rfl (by decide) (cap := 4) (by decide) (by decide) (by decide) (by decide)
      obtain ⟨b18, g18⟩ : ∃ z, z = h0.size := ⟨_, rfl⟩
      rw [← g18] at A18 st18
      have sz_b18 : h0.size ≤ b18 := Nat.le_of_eq g18.symm
      have lt_fa_b18 : fa < b18 := Nat.lt_of_lt_of_le V_fa.lt sz_b18
      have n0_b18 : n0 ≤ b18 := Nat.le_trans (own_n0 OL) sz_b18
      have V_b18 : Arv Z h18 b18 k18 .char (4 : Int32) [(.int (0 : Int32)), (.int (0 : Int32)), (.int (0 : Int32)), (.int (0 : Int32))] (.int (0 : Int32)) := (Arv.new A18 (by decide)).pad (pad_rep [] (.int (0 : Int32)) 4)
      have OL20 := OL.ext E18
      have hB20 := hB.ext E18
      refine own_up st18 ?_
      show OwnOk p e below _ (T18.setTop (mkF m 179 #[.val (.int sel), .val (.int shape), .val (.int pos), .val (.int ch), .val (.int ch2), .val (.int bI), .val bs, .val (.ref fa), .val (.int mI), .val (.int (Int32.ofNat si)), .unset, .unset] [(.ref b18)]))
      refine own_up (fun tx kx => XS.astore X18.here hx rfl (hb hby at_179) rfl rfl (l' := #[.val (.int sel), .val (.int shape), .val (.int pos), .val (.int ch), .val (.int ch2), .val (.int bI), .val bs, .val (.ref fa), .val (.int mI), .val (.int (Int32.ofNat si)), .unset, .val (.ref b18)]) rfl kx) ?_
      show OwnOk p e below _ (T18.setTop (mkF m 181 #[.val (.int sel), .val (.int shape), .val (.int pos), .val (.int ch), .val (.int ch2), .val (.int bI), .val bs, .val (.ref fa), .val (.int mI), .val (.int (Int32.ofNat si)), .unset, .val (.ref b18)] []))
      refine own_up (fun tx kx => XS.aload X18.here hx rfl (hb hby at_181) rfl rfl kx) ?_
      show OwnOk p e below _ (T18.setTop (mkF m 183 #[.val (.int sel), .val (.int shape), .val (.int pos), .val (.int ch), .val (.int ch2), .val (.int bI), .val bs, .val (.ref fa), .val (.int mI), .val (.int (Int32.ofNat si)), .unset, .val (.ref b18)] [(.ref b18)]))
      refine own_up (fun tx kx => XS.iconst X18.here hx rfl (hb hby at_183) kx) ?_
      show OwnOk p e below _ (T18.setTop (mkF m 184 #[.val (.int sel), .val (.int shape), .val (.int pos), .val (.int ch), .val (.int ch2), .val (.int bI), .val bs, .val (.ref fa), .val (.int mI), .val (.int (Int32.ofNat si)), .unset, .val (.ref b18)] [(.int (0 : Int32)), (.ref b18)]))
      refine own_up (fun tx kx => XS.aload X18.here hx rfl (hb hby at_184) rfl rfl kx) ?_
      show OwnOk p e below _ (T18.setTop (mkF m 186 #[.val (.int sel), .val (.int shape), .val (.int pos), .val (.int ch), .val (.int ch2), .val (.int bI), .val bs, .val (.ref fa), .val (.int mI), .val (.int (Int32.ofNat si)), .unset, .val (.ref b18)] [(.ref fa), (.int (0 : Int32)), (.ref b18)]))
      refine own_up (fun tx kx => XS.iconst X18.here hx rfl (hb hby at_186) kx) ?_
      show OwnOk p e below _ (T18.setTop (mkF m 187 #[.val (.int sel), .val (.int shape), .val (.int pos), .val (.int ch), .val (.int ch2), .val (.int bI), .val bs, .val (.ref fa), .val (.int mI), .val (.int (Int32.ofNat si)), .unset, .val (.ref b18)] [(.int (0 : Int32)), (.ref fa), (.int (0 : Int32)), (.ref b18)]))
      have V_fa_21 := (V_fa.ext E18)
      obtain ⟨cl22, Ar22, qc22, Sz22, Nn22, Hs22, Gf22⟩ := id V_fa_21
      have hin22 : ¬ ((0 : Int32) < 0 ∨ cl22.slots.size ≤ ((0 : Int32)).toNatClampNeg) := inb_of Sz22 ⟨by decide, by decide⟩
      have hat22 : cl22.slots[((0 : Int32)).toNatClampNeg]? = some (.int x0) := Hs22.at hin22 rfl
      refine own_up (fun tx kx => X18.caload hx (j := (0 : Int32)) (v := (.int x0)) (own_ar e18 Ar22.1) (State.isArrayOf_alike hZ.alike Ar22.2.1) Ar22.2.2 hin22 hat22 (g := (mkF m 187 #[.val (.int sel), .val (.int shape), .val (.int pos), .val (.int ch), .val (.int ch2), .val (.int bI), .val bs, .val (.ref fa), .val (.int mI), .val (.int (Int32.ofNat si)), .unset, .val (.ref b18)] [(.int (0 : Int32)), (.ref fa), (.int (0 : Int32)), (.ref b18)])) rfl rfl (hb hby at_187) _ kx) ?_
      show OwnOk p e below _ (T18.setTop (mkF m 188 #[.val (.int sel), .val (.int shape), .val (.int pos), .val (.int ch), .val (.int ch2), .val (.int bI), .val bs, .val (.ref fa), .val (.int mI), .val (.int (Int32.ofNat si)), .unset, .val (.ref b18)] [(.int x0), (.int (0 : Int32)), (.ref b18)]))
      obtain ⟨cl23, Ar23, qc23, Sz23, Nn23, Hs23, Gf23⟩ := id V_b18
      have hin23 : ¬ ((0 : Int32) < 0 ∨ cl23.slots.size ≤ ((0 : Int32)).toNatClampNeg) := inb_of Sz23 ⟨by decide, by decide⟩
      obtain ⟨T24, h24, X24, e24, W24, st24⟩ := stC X18 hx hZ e18 Ar23 (j := (0 : Int32)) hin23 (g := (mkF m 188 #[.val (.int sel), .val (.int shape), .val (.int pos), .val (.int ch), .val (.int ch2), .val (.int bI), .val bs, .val (.ref fa), .val (.int mI), .val (.int (Int32.ofNat si)), .unset, .val (.ref b18)] [(.int x0), (.int (0 : Int32)), (.ref b18)])) rfl rfl (hb hby at_188)
      have V_b18_24 : Arv Z h24 b18 k18 .char (4 : Int32) [(.int (nar .char x0)), (.int (0 : Int32)), (.int (0 : Int32)), (.int (0 : Int32))] (.int (0 : Int32)) := Arv.set Ar23 qc23 Sz23 Nn23 Hs23 Gf23 (fits_nar_char _) W24 0 rfl (Nat.le_of_ble_eq_true rfl)
      have N24 := Fr.snoc X24 N0 n0_b18
      have OL25 := OL20.wr W24 n0_b18
      have hB25 := hB20.wr W24 (Safe.arr hZ.alike Ar23 (by decide))
      refine own_up st24 ?_
      show OwnOk p e below _ (T24.setTop (mkF m 189 #[.val (.int sel), .val (.int shape), .val (.int pos), .val (.int ch), .val (.int ch2), .val (.int bI), .val bs, .val (.ref fa), .val (.int mI), .val (.int (Int32.ofNat si)), .unset, .val (.ref b18)] []))
      refine own_up (fun tx kx => XS.aload X24.here hx rfl (hb hby at_189) rfl rfl kx) ?_
      show OwnOk p e below _ (T24.setTop (mkF m 191 #[.val (.int sel), .val (.int shape), .val (.int pos), .val (.int ch), .val (.int ch2), .val (.int bI), .val bs, .val (.ref fa), .val (.int mI), .val (.int (Int32.ofNat si)), .unset, .val (.ref b18)] [(.ref b18)]))
      refine own_up (fun tx kx => XS.iconst X24.here hx rfl (hb hby at_191) kx) ?_
      show OwnOk p e below _ (T24.setTop (mkF m 192 #[.val (.int sel), .val (.int shape), .val (.int pos), .val (.int ch), .val (.int ch2), .val (.int bI), .val bs, .val (.ref fa), .val (.int mI), .val (.int (Int32.ofNat si)), .unset, .val (.ref b18)] [(.int (1 : Int32)), (.ref b18)]))
      refine own_up (fun tx kx => XS.aload X24.here hx rfl (hb hby at_192) rfl rfl kx) ?_
      show OwnOk p e below _ (T24.setTop (mkF m 194 #[.val (.int sel), .val (.int shape), .val (.int pos), .val (.int ch), .val (.int ch2), .val (.int bI), .val bs, .val (.ref fa), .val (.int mI), .val (.int (Int32.ofNat si)), .unset, .val (.ref b18)] [(.ref fa), (.int (1 : Int32)), (.ref b18)]))
      refine own_up (fun tx kx => XS.iconst X24.here hx rfl (hb hby at_194) kx) ?_
      show OwnOk p e below _ (T24.setTop (mkF m 195 #[.val (.int sel), .val (.int shape), .val (.int pos), .val (.int ch), .val (.int ch2), .val (.int bI), .val bs, .val (.ref fa), .val (.int mI), .val (.int (Int32.ofNat si)), .unset, .val (.ref b18)] [(.int (1 : Int32)), (.ref fa), (.int (1 : Int32)), (.ref b18)]))
      have V_fa_26 := (V_fa_21.other W24 (Nat.ne_of_lt lt_fa_b18))
      obtain ⟨cl27, Ar27, qc27, Sz27, Nn27, Hs27, Gf27⟩ := id V_fa_26
      have hin27 : ¬ ((1 : Int32) < 0 ∨ cl27.slots.size ≤ ((1 : Int32)).toNatClampNeg) := inb_of Sz27 ⟨by decide, by decide⟩
      have hat27 : cl27.slots[((1 : Int32)).toNatClampNeg]? = some (.int x1) := Hs27.at hin27 rfl
      refine own_up (fun tx kx => X24.caload hx (j := (1 : Int32)) (v := (.int x1)) (own_ar e24 Ar27.1) (State.isArrayOf_alike hZ.alike Ar27.2.1) Ar27.2.2 hin27 hat27 (g := (mkF m 195 #[.val (.int sel), .val (.int shape), .val (.int pos), .val (.int ch), .val (.int ch2), .val (.int bI), .val bs, .val (.ref fa), .val (.int mI), .val (.int (Int32.ofNat si)), .unset, .val (.ref b18)] [(.int (1 : Int32)), (.ref fa), (.int (1 : Int32)), (.ref b18)])) rfl rfl (hb hby at_195) _ kx) ?_
      show OwnOk p e below _ (T24.setTop (mkF m 196 #[.val (.int sel), .val (.int shape), .val (.int pos), .val (.int ch), .val (.int ch2), .val (.int bI), .val bs, .val (.ref fa), .val (.int mI), .val (.int (Int32.ofNat si)), .unset, .val (.ref b18)] [(.int x1), (.int (1 : Int32)), (.ref b18)]))
      obtain ⟨cl28, Ar28, qc28, Sz28, Nn28, Hs28, Gf28⟩ := id V_b18_24
      have hin28 : ¬ ((1 : Int32) < 0 ∨ cl28.slots.size ≤ ((1 : Int32)).toNatClampNeg) := inb_of Sz28 ⟨by decide, by decide⟩
      obtain ⟨T29, h29, X29, e29, W29, st29⟩ := stC X24 hx hZ e24 Ar28 (j := (1 : Int32)) hin28 (g := (mkF m 196 #[.val (.int sel), .val (.int shape), .val (.int pos), .val (.int ch), .val (.int ch2), .val (.int bI), .val bs, .val (.ref fa), .val (.int mI), .val (.int (Int32.ofNat si)), .unset, .val (.ref b18)] [(.int x1), (.int (1 : Int32)), (.ref b18)])) rfl rfl (hb hby at_196)
      have V_b18_29 : Arv Z h29 b18 k18 .char (4 : Int32) [(.int (nar .char x0)), (.int (nar .char x1)), (.int (0 : Int32)), (.int (0 : Int32))] (.int (0 : Int32)) := Arv.set Ar28 qc28 Sz28 Nn28 Hs28 Gf28 (fits_nar_char _) W29 1 rfl (Nat.le_of_ble_eq_true rfl)
      have N29 := Fr.snoc X29 N24 n0_b18
      have OL30 := OL25.wr W29 n0_b18
      have hB30 := hB25.wr W29 (Safe.arr hZ.alike Ar28 (by decide))
      refine own_up st29 ?_
      show OwnOk p e below _ (T29.setTop (mkF m 197 #[.val (.int sel), .val (.int shape), .val (.int pos), .val (.int ch), .val (.int ch2), .val (.int bI), .val bs, .val (.ref fa), .val (.int mI), .val (.int (Int32.ofNat si)), .unset, .val (.ref b18)] []))
      refine own_up (fun tx kx => XS.aload X29.here hx rfl (hb hby at_197) rfl rfl kx) ?_
      show OwnOk p e below _ (T29.setTop (mkF m 199 #[.val (.int sel), .val (.int shape), .val (.int pos), .val (.int ch), .val (.int ch2), .val (.int bI), .val bs, .val (.ref fa), .val (.int mI), .val (.int (Int32.ofNat si)), .unset, .val (.ref b18)] [(.ref b18)]))
      refine own_up (fun tx kx => XS.iconst X29.here hx rfl (hb hby at_199) kx) ?_
      show OwnOk p e below _ (T29.setTop (mkF m 200 #[.val (.int sel), .val (.int shape), .val (.int pos), .val (.int ch), .val (.int ch2), .val (.int bI), .val bs, .val (.ref fa), .val (.int mI), .val (.int (Int32.ofNat si)), .unset, .val (.ref b18)] [(.int (2 : Int32)), (.ref b18)]))
      refine own_up (fun tx kx => XS.aload X29.here hx rfl (hb hby at_200) rfl rfl kx) ?_
      show OwnOk p e below _ (T29.setTop (mkF m 202 #[.val (.int sel), .val (.int shape), .val (.int pos), .val (.int ch), .val (.int ch2), .val (.int bI), .val bs, .val (.ref fa), .val (.int mI), .val (.int (Int32.ofNat si)), .unset, .val (.ref b18)] [(.ref fa), (.int (2 : Int32)), (.ref b18)]))
      refine own_up (fun tx kx => XS.iconst X29.here hx rfl (hb hby at_202) kx) ?_
      show OwnOk p e below _ (T29.setTop (mkF m 203 #[.val (.int sel), .val (.int shape), .val (.int pos), .val (.int ch), .val (.int ch2), .val (.int bI), .val bs, .val (.ref fa), .val (.int mI), .val (.int (Int32.ofNat si)), .unset, .val (.ref b18)] [(.int (2 : Int32)), (.ref fa), (.int (2 : Int32)), (.ref b18)]))
      have V_fa_31 := (V_fa_26.other W29 (Nat.ne_of_lt lt_fa_b18))
      obtain ⟨cl32, Ar32, qc32, Sz32, Nn32, Hs32, Gf32⟩ := id V_fa_31
      have hin32 : ¬ ((2 : Int32) < 0 ∨ cl32.slots.size ≤ ((2 : Int32)).toNatClampNeg) := inb_of Sz32 ⟨by decide, by decide⟩
      have hat32 : cl32.slots[((2 : Int32)).toNatClampNeg]? = some (.int x2) := Hs32.at hin32 rfl
      refine own_up (fun tx kx => X29.caload hx (j := (2 : Int32)) (v := (.int x2)) (own_ar e29 Ar32.1) (State.isArrayOf_alike hZ.alike Ar32.2.1) Ar32.2.2 hin32 hat32 (g := (mkF m 203 #[.val (.int sel), .val (.int shape), .val (.int pos), .val (.int ch), .val (.int ch2), .val (.int bI), .val bs, .val (.ref fa), .val (.int mI), .val (.int (Int32.ofNat si)), .unset, .val (.ref b18)] [(.int (2 : Int32)), (.ref fa), (.int (2 : Int32)), (.ref b18)])) rfl rfl (hb hby at_203) _ kx) ?_
      show OwnOk p e below _ (T29.setTop (mkF m 204 #[.val (.int sel), .val (.int shape), .val (.int pos), .val (.int ch), .val (.int ch2), .val (.int bI), .val bs, .val (.ref fa), .val (.int mI), .val (.int (Int32.ofNat si)), .unset, .val (.ref b18)] [(.int x2), (.int (2 : Int32)), (.ref b18)]))
      obtain ⟨cl33, Ar33, qc33, Sz33, Nn33, Hs33, Gf33⟩ := id V_b18_29
      have hin33 : ¬ ((2 : Int32) < 0 ∨ cl33.slots.size ≤ ((2 : Int32)).toNatClampNeg) := inb_of Sz33 ⟨by decide, by decide⟩
      obtain ⟨T34, h34, X34, e34, W34, st34⟩ := stC X29 hx hZ e29 Ar33 (j := (2 : Int32)) hin33 (g := (mkF m 204 #[.val (.int sel), .val (.int shape), .val (.int pos), .val (.int ch), .val (.int ch2), .val (.int bI), .val bs, .val (.ref fa), .val (.int mI), .val (.int (Int32.ofNat si)), .unset, .val (.ref b18)] [(.int x2), (.int (2 : Int32)), (.ref b18)])) rfl rfl (hb hby at_204)
      have V_b18_34 : Arv Z h34 b18 k18 .char (4 : Int32) [(.int (nar .char x0)), (.int (nar .char x1)), (.int (nar .char x2)), (.int (0 : Int32))] (.int (0 : Int32)) := Arv.set Ar33 qc33 Sz33 Nn33 Hs33 Gf33 (fits_nar_char _) W34 2 rfl (Nat.le_of_ble_eq_true rfl)
      have N34 := Fr.snoc X34 N29 n0_b18
      have OL35 := OL30.wr W34 n0_b18
      have hB35 := hB30.wr W34 (Safe.arr hZ.alike Ar33 (by decide))
      refine own_up st34 ?_
      show OwnOk p e below _ (T34.setTop (mkF m 205 #[.val (.int sel), .val (.int shape), .val (.int pos), .val (.int ch), .val (.int ch2), .val (.int bI), .val bs, .val (.ref fa), .val (.int mI), .val (.int (Int32.ofNat si)), .unset, .val (.ref b18)] []))
      refine own_up (fun tx kx => XS.aload X34.here hx rfl (hb hby at_205) rfl rfl kx) ?_
      show OwnOk p e below _ (T34.setTop (mkF m 207 #[.val (.int sel), .val (.int shape), .val (.int pos), .val (.int ch), .val (.int ch2), .val (.int bI), .val bs, .val (.ref fa), .val (.int mI), .val (.int (Int32.ofNat si)), .unset, .val (.ref b18)] [(.ref b18)]))
      refine own_up (fun tx kx => XS.iconst X34.here hx rfl (hb hby at_207) kx) ?_
      show OwnOk p e below _ (T34.setTop (mkF m 208 #[.val (.int sel), .val (.int shape), .val (.int pos), .val (.int ch), .val (.int ch2), .val (.int bI), .val bs, .val (.ref fa), .val (.int mI), .val (.int (Int32.ofNat si)), .unset, .val (.ref b18)] [(.int (3 : Int32)), (.ref b18)]))
      refine own_up (fun tx kx => XS.aload X34.here hx rfl (hb hby at_208) rfl rfl kx) ?_
      show OwnOk p e below _ (T34.setTop (mkF m 210 #[.val (.int sel), .val (.int shape), .val (.int pos), .val (.int ch), .val (.int ch2), .val (.int bI), .val bs, .val (.ref fa), .val (.int mI), .val (.int (Int32.ofNat si)), .unset, .val (.ref b18)] [(.ref fa), (.int (3 : Int32)), (.ref b18)]))
      refine own_up (fun tx kx => XS.iconst X34.here hx rfl (hb hby at_210) kx) ?_
      show OwnOk p e below _ (T34.setTop (mkF m 211 #[.val (.int sel), .val (.int shape), .val (.int pos), .val (.int ch), .val (.int ch2), .val (.int bI), .val bs, .val (.ref fa), .val (.int mI), .val (.int (Int32.ofNat si)), .unset, .val (.ref b18)] [(.int (3 : Int32)), (.ref fa), (.int (3 : Int32)), (.ref b18)]))
      have V_fa_36 := (V_fa_31.other W34 (Nat.ne_of_lt lt_fa_b18))
      obtain ⟨cl37, Ar37, qc37, Sz37, Nn37, Hs37, Gf37⟩ := id V_fa_36
      have hin37 : ¬ ((3 : Int32) < 0 ∨ cl37.slots.size ≤ ((3 : Int32)).toNatClampNeg) := inb_of Sz37 ⟨by decide, by decide⟩
      have hat37 : cl37.slots[((3 : Int32)).toNatClampNeg]? = some (.int x3) := Hs37.at hin37 rfl
      refine own_up (fun tx kx => X34.caload hx (j := (3 : Int32)) (v := (.int x3)) (own_ar e34 Ar37.1) (State.isArrayOf_alike hZ.alike Ar37.2.1) Ar37.2.2 hin37 hat37 (g := (mkF m 211 #[.val (.int sel), .val (.int shape), .val (.int pos), .val (.int ch), .val (.int ch2), .val (.int bI), .val bs, .val (.ref fa), .val (.int mI), .val (.int (Int32.ofNat si)), .unset, .val (.ref b18)] [(.int (3 : Int32)), (.ref fa), (.int (3 : Int32)), (.ref b18)])) rfl rfl (hb hby at_211) _ kx) ?_
      show OwnOk p e below _ (T34.setTop (mkF m 212 #[.val (.int sel), .val (.int shape), .val (.int pos), .val (.int ch), .val (.int ch2), .val (.int bI), .val bs, .val (.ref fa), .val (.int mI), .val (.int (Int32.ofNat si)), .unset, .val (.ref b18)] [(.int x3), (.int (3 : Int32)), (.ref b18)]))
      obtain ⟨cl38, Ar38, qc38, Sz38, Nn38, Hs38, Gf38⟩ := id V_b18_34
      have hin38 : ¬ ((3 : Int32) < 0 ∨ cl38.slots.size ≤ ((3 : Int32)).toNatClampNeg) := inb_of Sz38 ⟨by decide, by decide⟩
      obtain ⟨T39, h39, X39, e39, W39, st39⟩ := stC X34 hx hZ e34 Ar38 (j := (3 : Int32)) hin38 (g := (mkF m 212 #[.val (.int sel), .val (.int shape), .val (.int pos), .val (.int ch), .val (.int ch2), .val (.int bI), .val bs, .val (.ref fa), .val (.int mI), .val (.int (Int32.ofNat si)), .unset, .val (.ref b18)] [(.int x3), (.int (3 : Int32)), (.ref b18)])) rfl rfl (hb hby at_212)
      have V_b18_39 : Arv Z h39 b18 k18 .char (4 : Int32) [(.int (nar .char x0)), (.int (nar .char x1)), (.int (nar .char x2)), (.int (nar .char x3))] (.int (0 : Int32)) := Arv.set Ar38 qc38 Sz38 Nn38 Hs38 Gf38 (fits_nar_char _) W39 3 rfl (Nat.le_of_ble_eq_true rfl)
      have N39 := Fr.snoc X39 N34 n0_b18
      have OL40 := OL35.wr W39 n0_b18
      have hB40 := hB35.wr W39 (Safe.arr hZ.alike Ar38 (by decide))
      refine own_up st39 ?_
      show OwnOk p e below _ (T39.setTop (mkF m 213 #[.val (.int sel), .val (.int shape), .val (.int pos), .val (.int ch), .val (.int ch2), .val (.int bI), .val bs, .val (.ref fa), .val (.int mI), .val (.int (Int32.ofNat si)), .unset, .val (.ref b18)] []))
      obtain ⟨T41, h41, X41, e41, E41, A41, D41, -, st41⟩ := newO X39 hx hZ hown (wd_80 hw) (wd_3 hw) (wd_2 hw) e39 (g := (mkF m 213 #[.val (.int sel), .val (.int shape), .val (.int pos), .val (.int ch), .val (.int ch2), .val (.int bI), .val bs, .val (.ref fa), .val (.int mI), .val (.int (Int32.ofNat si)), .unset, .val (.ref b18)] [])) rfl (hb hby at_213) (by decide) (by decide)
      obtain ⟨b41, g41⟩ : ∃ z, z = h39.size := ⟨_, rfl⟩
      rw [← g41] at A41 D41 st41
      have sz_b41 : h39.size ≤ b41 := Nat.le_of_eq g41.symm
      have V_fa_43 := (V_fa_36.other W39 (Nat.ne_of_lt lt_fa_b18))
      have lt_fa_b41 : fa < b41 := Nat.lt_of_lt_of_le V_fa_43.lt sz_b41
      have lt_b18_b41 : b18 < b41 := Nat.lt_of_lt_of_le V_b18_39.lt sz_b41
      have n0_b41 : n0 ≤ b41 := Nat.le_trans (own_n0 OL40) sz_b41
      have F_value_b41 : Fld Z h41 b41 "java/lang/String" "value" "[B" .null := D41 (Or.inr (wd_5 hw)) (ty := (.array .byte)) (by decide)
      have F_coder_b41 : Fld Z h41 b41 "java/lang/String" "coder" "B" (.int (0 : Int32)) := D41 (Or.inr (wd_6 hw)) (ty := .byte) (by decide)
      have OL44 := OL40.ext E41
      have hB44 := hB40.ext E41
      have sf_b41_45 := hB40.sNew E41 sz_b41
      refine own_up st41 ?_
      show OwnOk p e below _ (T41.setTop (mkF m 216 #[.val (.int sel), .val (.int shape), .val (.int pos), .val (.int ch), .val (.int ch2), .val (.int bI), .val bs, .val (.ref fa), .val (.int mI), .val (.int (Int32.ofNat si)), .unset, .val (.ref b18)] [(.ref b41)]))
      refine own_up (fun tx kx => XS.dup X41.here hx rfl (hb hby at_216) rfl rfl kx) ?_
      show OwnOk p e below _ (T41.setTop (mkF m 217 #[.val (.int sel), .val (.int shape), .val (.int pos), .val (.int ch), .val (.int ch2), .val (.int bI), .val bs, .val (.ref fa), .val (.int mI), .val (.int (Int32.ofNat si)), .unset, .val (.ref b18)] [(.ref b41), (.ref b41)]))
      refine own_up (fun tx kx => XS.aload X41.here hx rfl (hb hby at_217) rfl rfl kx) ?_
      show OwnOk p e below _ (T41.setTop (mkF m 219 #[.val (.int sel), .val (.int shape), .val (.int pos), .val (.int ch), .val (.int ch2), .val (.int bI), .val bs, .val (.ref fa), .val (.int mI), .val (.int (Int32.ofNat si)), .unset, .val (.ref b18)] [(.ref b18), (.ref b41), (.ref b41)]))
      have V_b18_46 := (V_b18_39.ext E41)
      refine own_callC X41 hx hZ (y := (⟨"java/lang/String", "<init>", "([C)V"⟩ : MethodName)) rfl hown (wd_81 hw) (wd_82 hw) (wd_2 hw) (wd_83 hw) (by decide) (c_init1_4 l Z a0 hw b41 b18 k18 (nar .char x0) (nar .char x1) (nar .char x2) (nar .char x3) cz h41 n0 OL44 SC hcz A41 F_value_b41 F_coder_b41 n0_b41 V_b18_46 (Nat.ne_of_gt lt_b18_b41) (own_ncl c0).2 (own_ncl c1).2 (own_ncl c2).2 (own_ncl c3).2) e41 (argsL := [(.ref b18)]) (rest := [(.ref b41)]) (a := b41) (by rw [hml]; rfl) (lenOf pd_13 rfl) rfl rfl (W := 1) rfl (hb hby at_219) (by decide) (by decide) (by decide) (by decide) (fun T47 v47 L47 X47 hQ47 => ?_)
      obtain ⟨rfl, Nq47, Kq47, uu47, ku47, gu47, ea47, fv47, fc47, vu47⟩ := hQ47
      have N47 := Fr.app N39 Nq47
      have hB47 := hB44.keep Kq47 (own_safS sf_b41_45 own_saf0)
      have sf_b41_48 := hB44.sKeep Kq47 (own_safS sf_b41_45 own_saf0) sf_b41_45
      have OL47 := OL44.keep Kq47 (allS n0_b41 all0)
      show OwnOk p e below _ (T47.setTop (mkF m 222 #[.val (.int sel), .val (.int shape), .val (.int pos), .val (.int ch), .val (.int ch2), .val (.int bI), .val bs, .val (.ref fa), .val (.int mI), .val (.int (Int32.ofNat si)), .unset, .val (.ref b18)] [(.ref b41)]))
      refine own_up (fun tx kx => XS.astore X47.here hx rfl (hb hby at_222) rfl rfl (l' := #[.val (.int sel), .val (.int shape), .val (.int pos), .val (.int ch), .val (.int ch2), .val (.int bI), .val bs, .val (.ref fa), .val (.int mI), .val (.int (Int32.ofNat si)), .val (.ref b41), .val (.ref b18)]) rfl kx) ?_
      show OwnOk p e below _ (T47.setTop (mkF m 224 #[.val (.int sel), .val (.int shape), .val (.int pos), .val (.int ch), .val (.int ch2), .val (.int bI), .val bs, .val (.ref fa), .val (.int mI), .val (.int (Int32.ofNat si)), .val (.ref b41), .val (.ref b18)] []))
      refine own_up (fun tx kx => XS.goto X47.here hx rfl (pc0 := 224) (pc' := 323) rfl (hb hby at_224) (by decide) (by decide) kx) ?_
      show OwnOk p e below _ (T47.setTop (mkF m 323 #[.val (.int sel), .val (.int shape), .val (.int pos), .val (.int ch), .val (.int ch2), .val (.int bI), .val bs, .val (.ref fa), .val (.int mI), .val (.int (Int32.ofNat si)), .val (.ref b41), .val (.ref b18)] []))
      exact law_323r l Z a0 hw sel shape pos ch ch2 bI mI (Int32.ofNat si) bs fa b18 cz w0 w1 w2 s0 s1 s2 u0 u1 u2 va k0 k1 k2 kva b41 uu47 ku47 4 (fun j => [(nar .byte ((nar .char x0).toInt8.toInt32)), (nar .byte ((nar .char x1).toInt8.toInt32)), (nar .byte ((nar .char x2).toInt8.toInt32)), (nar .byte ((nar .char x3).toInt8.toInt32))].getD j 0) hx hby hml hret hlk (X47.mono (Nat.le_of_ble_eq_true rfl) (Nat.le_of_ble_eq_true rfl)) rfl hZ hown n0 OL47 N47 hB47 SC hcz S0 W0 F0 E0 G0 D0 V0 S1 W1 F1 E1 G1 D1 V1 S2 W2 F2 E2 G2 D2 V2 SV EV VV ea47 fv47 fc47 vu47 (by decide)
    · refine own_up (fun tx kx => XS.icmpYes X0.here hx rfl (pc0 := 173) (pc' := 227) rfl (hb hby at_173) rfl (feq e1_).2 (by decide) (by decide) kx) ?_
      show OwnOk p e below _ (T.setTop (mkF m 227 #[.val (.int sel), .val (.int shape), .val (.int pos), .val (.int ch), .val (.int ch2), .val (.int bI), .val bs, .val (.ref fa), .val (.int mI), .val (.int (Int32.ofNat si)), .unset, .unset] []))
      refine own_up (fun tx kx => XS.iload X0.here hx rfl (hb hby at_227) rfl kx) ?_
      show OwnOk p e below _ (T.setTop (mkF m 229 #[.val (.int sel), .val (.int shape), .val (.int pos), .val (.int ch), .val (.int ch2), .val (.int bI), .val bs, .val (.ref fa), .val (.int mI), .val (.int (Int32.ofNat si)), .unset, .unset] [(.int (Int32.ofNat si))]))
      refine own_up (fun tx kx => XS.iconst X0.here hx rfl (hb hby at_229) kx) ?_
      show OwnOk p e below _ (T.setTop (mkF m 230 #[.val (.int sel), .val (.int shape), .val (.int pos), .val (.int ch), .val (.int ch2), .val (.int bI), .val bs, .val (.ref fa), .val (.int mI), .val (.int (Int32.ofNat si)), .unset, .unset] [(.int (2 : Int32)), (.int (Int32.ofNat si))]))
      by_cases e2_ : (Int32.ofNat si) = (2 : Int32)
      · refine own_up (fun tx kx => XS.icmpNo X0.here hx rfl (hb hby at_230) rfl (teq e2_).2 kx) ?_
        show OwnOk p e below _ (T.setTop (mkF m 233 #[.val (.int sel), .val (.int shape), .val (.int pos), .val (.int ch), .val (.int ch2), .val (.int bI), .val bs, .val (.ref fa), .val (.int mI), .val (.int (Int32.ofNat si)), .unset, .unset] []))
        refine own_up (fun tx kx => XS.bipush X0.here hx rfl (hb hby at_233) kx) ?_
        show OwnOk p e below _ (T.setTop (mkF m 235 #[.val (.int sel), .val (.int shape), .val (.int pos), .val (.int ch), .val (.int ch2), .val (.int bI), .val bs, .val (.ref fa), .val (.int mI), .val (.int (Int32.ofNat si)), .unset, .unset] [(.int (6 : Int32))]))
        obtain ⟨T49, h49, k49, X49, e49, E49, A49, st49⟩ := newP (aty := .char) X0 hx hZ (wd_9 hw) e0 (g := (mkF m 235 #[.val (.int sel), .val (.int shape), .val (.int pos), .val (.int ch), .val (.int ch2), .val (.int bI), .val bs, .val (.ref fa), .val (.int mI), .val (.int (Int32.ofNat si)), .unset, .unset] [(.int (6 : Int32))])) rfl (hb hby at_235) rfl (by decide) (cap := 6) (by decide) (by decide) (by decide) (by decide)
        obtain ⟨b49, g49⟩ : ∃ z, z = h0.size := ⟨_, rfl⟩
        rw [← g49] at A49 st49
        have sz_b49 : h0.size ≤ b49 := Nat.le_of_eq g49.symm
        have lt_fa_b49 : fa < b49 := Nat.lt_of_lt_of_le V_fa.lt sz_b49
        have n0_b49 : n0 ≤ b49 := Nat.le_trans (own_n0 OL) sz_b49
        have V_b49 : Arv Z h49 b49 k49 .char (6 : Int32) [(.int (0 : Int32)), (.int (0 : Int32)), (.int (0 : Int32)), (.int (0 : Int32)), (.int (0 : Int32)), (.int (0 : Int32))] (.int (0 : Int32)) := (Arv.new A49 (by decide)).pad (pad_rep [] (.int (0 : Int32)) 6)
        have OL51 := OL.ext E49
        have hB51 := hB.ext E49
        refine own_up st49 ?_
        show OwnOk p e below _ (T49.setTop (mkF m 237 #[.val (.int sel), .val (.int shape), .val (.int pos), .val (.int ch), .val (.int ch2), .val (.int bI), .val bs, .val (.ref fa), .val (.int mI), .val (.int (Int32.ofNat si)), .unset, .unset] [(.ref b49)]))
        refine own_up (fun tx kx => XS.astore X49.here hx rfl (hb hby at_237) rfl rfl (l' := #[.val (.int sel), .val (.int shape), .val (.int pos), .val (.int ch), .val (.int ch2), .val (.int bI), .val bs, .val (.ref fa), .val (.int mI), .val (.int (Int32.ofNat si)), .unset, .val (.ref b49)]) rfl kx) ?_
        show OwnOk p e below _ (T49.setTop (mkF m 239 #[.val (.int sel), .val (.int shape), .val (.int pos), .val (.int ch), .val (.int ch2), .val (.int bI), .val bs, .val (.ref fa), .val (.int mI), .val (.int (Int32.ofNat si)), .unset, .val (.ref b49)] []))
        refine own_up (fun tx kx => XS.aload X49.here hx rfl (hb hby at_239) rfl rfl kx) ?_
        show OwnOk p e below _ (T49.setTop (mkF m 241 #[.val (.int sel), .val (.int shape), .val (.int pos), .val (.int ch), .val (.int ch2), .val (.int bI), .val bs, .val (.ref fa), .val (.int mI), .val (.int (Int32.ofNat si)), .unset, .val (.ref b49)] [(.ref b49)]))
        refine own_up (fun tx kx => XS.iconst X49.here hx rfl (hb hby at_241) kx) ?_
        show OwnOk p e below _ (T49.setTop (mkF m 242 #[.val (.int sel), .val (.int shape), .val (.int pos), .val (.int ch), .val (.int ch2), .val (.int bI), .val bs, .val (.ref fa), .val (.int mI), .val (.int (Int32.ofNat si)), .unset, .val (.ref b49)] [(.int (0 : Int32)), (.ref b49)]))
        refine own_up (fun tx kx => XS.aload X49.here hx rfl (hb hby at_242) rfl rfl kx) ?_
        show OwnOk p e below _ (T49.setTop (mkF m 244 #[.val (.int sel), .val (.int shape), .val (.int pos), .val (.int ch), .val (.int ch2), .val (.int bI), .val bs, .val (.ref fa), .val (.int mI), .val (.int (Int32.ofNat si)), .unset, .val (.ref b49)] [(.ref fa), (.int (0 : Int32)), (.ref b49)]))
        refine own_up (fun tx kx => XS.iconst X49.here hx rfl (hb hby at_244) kx) ?_
        show OwnOk p e below _ (T49.setTop (mkF m 245 #[.val (.int sel), .val (.int shape), .val (.int pos), .val (.int ch), .val (.int ch2), .val (.int bI), .val bs, .val (.ref fa), .val (.int mI), .val (.int (Int32.ofNat si)), .unset, .val (.ref b49)] [(.int (0 : Int32)), (.ref fa), (.int (0 : Int32)), (.ref b49)]))
        have V_fa_52 := (V_fa.ext E49)
        obtain ⟨cl53, Ar53, qc53, Sz53, Nn53, Hs53, Gf53⟩ := id V_fa_52
        have hin53 : ¬ ((0 : Int32) < 0 ∨ cl53.slots.size ≤ ((0 : Int32)).toNatClampNeg) := inb_of Sz53 ⟨by decide, by decide⟩
        have hat53 : cl53.slots[((0 : Int32)).toNatClampNeg]? = some (.int x0) := Hs53.at hin53 rfl
        refine own_up (fun tx kx => X49.caload hx (j := (0 : Int32)) (v := (.int x0)) (own_ar e49 Ar53.1) (State.isArrayOf_alike hZ.alike Ar53.2.1) Ar53.2.2 hin53 hat53 (g := (mkF m 245 #[.val (.int sel), .val (.int shape), .val (.int pos), .val (.int ch), .val (.int ch2), .val (.int bI), .val bs, .val (.ref fa), .val (.int mI), .val (.int (Int32.ofNat si)), .unset, .val (.ref b49)] [(.int (0 : Int32)), (.ref fa), (.int (0 : Int32)), (.ref b49)])) rfl rfl (hb hby at_245) _ kx) ?_
        show OwnOk p e below _ (T49.setTop (mkF m 246 #[.val (.int sel), .val (.int shape), .val (.int pos), .val (.int ch), .val (.int ch2), .val (.int bI), .val bs, .val (.ref fa), .val (.int mI), .val (.int (Int32.ofNat si)), .unset, .val (.ref b49)] [(.int x0), (.int (0 : Int32)), (.ref b49)]))
        obtain ⟨cl54, Ar54, qc54, Sz54, Nn54, Hs54, Gf54⟩ := id V_b49
        have hin54 : ¬ ((0 : Int32) < 0 ∨ cl54.slots.size ≤ ((0 : Int32)).toNatClampNeg) := inb_of Sz54 ⟨by decide, by decide⟩
        obtain ⟨T55, h55, X55, e55, W55, st55⟩ := stC X49 hx hZ e49 Ar54 (j := (0 : Int32)) hin54 (g := (mkF m 246 #[.val (.int sel), .val (.int shape), .val (.int pos), .val (.int ch), .val (.int ch2), .val (.int bI), .val bs, .val (.ref fa), .val (.int mI), .val (.int (Int32.ofNat si)), .unset, .val (.ref b49)] [(.int x0), (.int (0 : Int32)), (.ref b49)])) rfl rfl (hb hby at_246)
        have V_b49_55 : Arv Z h55 b49 k49 .char (6 : Int32) [(.int (nar .char x0)), (.int (0 : Int32)), (.int (0 : Int32)), (.int (0 : Int32)), (.int (0 : Int32)), (.int (0 : Int32))] (.int (0 : Int32)) := Arv.set Ar54 qc54 Sz54 Nn54 Hs54 Gf54 (fits_nar_char _) W55 0 rfl (Nat.le_of_ble_eq_true rfl)
        have N55 := Fr.snoc X55 N0 n0_b49
        have OL56 := OL51.wr W55 n0_b49
        have hB56 := hB51.wr W55 (Safe.arr hZ.alike Ar54 (by decide))
        refine own_up st55 ?_
        show OwnOk p e below _ (T55.setTop (mkF m 247 #[.val (.int sel), .val (.int shape), .val (.int pos), .val (.int ch), .val (.int ch2), .val (.int bI), .val bs, .val (.ref fa), .val (.int mI), .val (.int (Int32.ofNat si)), .unset, .val (.ref b49)] []))
        refine own_up (fun tx kx => XS.aload X55.here hx rfl (hb hby at_247) rfl rfl kx) ?_
        show OwnOk p e below _ (T55.setTop (mkF m 249 #[.val (.int sel), .val (.int shape), .val (.int pos), .val (.int ch), .val (.int ch2), .val (.int bI), .val bs, .val (.ref fa), .val (.int mI), .val (.int (Int32.ofNat si)), .unset, .val (.ref b49)] [(.ref b49)]))
        refine own_up (fun tx kx => XS.iconst X55.here hx rfl (hb hby at_249) kx) ?_
        show OwnOk p e below _ (T55.setTop (mkF m 250 #[.val (.int sel), .val (.int shape), .val (.int pos), .val (.int ch), .val (.int ch2), .val (.int bI), .val bs, .val (.ref fa), .val (.int mI), .val (.int (Int32.ofNat si)), .unset, .val (.ref b49)] [(.int (1 : Int32)), (.ref b49)]))
        refine own_up (fun tx kx => XS.aload X55.here hx rfl (hb hby at_250) rfl rfl kx) ?_
        show OwnOk p e below _ (T55.setTop (mkF m 252 #[.val (.int sel), .val (.int shape), .val (.int pos), .val (.int ch), .val (.int ch2), .val (.int bI), .val bs, .val (.ref fa), .val (.int mI), .val (.int (Int32.ofNat si)), .unset, .val (.ref b49)] [(.ref fa), (.int (1 : Int32)), (.ref b49)]))
        refine own_up (fun tx kx => XS.iconst X55.here hx rfl (hb hby at_252) kx) ?_
        show OwnOk p e below _ (T55.setTop (mkF m 253 #[.val (.int sel), .val (.int shape), .val (.int pos), .val (.int ch), .val (.int ch2), .val (.int bI), .val bs, .val (.ref fa), .val (.int mI), .val (.int (Int32.ofNat si)), .unset, .val (.ref b49)] [(.int (1 : Int32)), (.ref fa), (.int (1 : Int32)), (.ref b49)]))
        have V_fa_57 := (V_fa_52.other W55 (Nat.ne_of_lt lt_fa_b49))
        obtain ⟨cl58, Ar58, qc58, Sz58, Nn58, Hs58, Gf58⟩ := id V_fa_57
        have hin58 : ¬ ((1 : Int32) < 0 ∨ cl58.slots.size ≤ ((1 : Int32)).toNatClampNeg) := inb_of Sz58 ⟨by decide, by decide⟩
        have hat58 : cl58.slots[((1 : Int32)).toNatClampNeg]? = some (.int x1) := Hs58.at hin58 rfl
        refine own_up (fun tx kx => X55.caload hx (j := (1 : Int32)) (v := (.int x1)) (own_ar e55 Ar58.1) (State.isArrayOf_alike hZ.alike Ar58.2.1) Ar58.2.2 hin58 hat58 (g := (mkF m 253 #[.val (.int sel), .val (.int shape), .val (.int pos), .val (.int ch), .val (.int ch2), .val (.int bI), .val bs, .val (.ref fa), .val (.int mI), .val (.int (Int32.ofNat si)), .unset, .val (.ref b49)] [(.int (1 : Int32)), (.ref fa), (.int (1 : Int32)), (.ref b49)])) rfl rfl (hb hby at_253) _ kx) ?_
        show OwnOk p e below _ (T55.setTop (mkF m 254 #[.val (.int sel), .val (.int shape), .val (.int pos), .val (.int ch), .val (.int ch2), .val (.int bI), .val bs, .val (.ref fa), .val (.int mI), .val (.int (Int32.ofNat si)), .unset, .val (.ref b49)] [(.int x1), (.int (1 : Int32)), (.ref b49)]))
        obtain ⟨cl59, Ar59, qc59, Sz59, Nn59, Hs59, Gf59⟩ := id V_b49_55
        have hin59 : ¬ ((1 : Int32) < 0 ∨ cl59.slots.size ≤ ((1 : Int32)).toNatClampNeg) := inb_of Sz59 ⟨by decide, by decide⟩
        obtain ⟨T60, h60, X60, e60, W60, st60⟩ := stC X55 hx hZ e55 Ar59 (j := (1 : Int32)) hin59 (g := (mkF m 254 #[.val (.int sel), .val (.int shape), .val (.int pos), .val (.int ch), .val (.int ch2), .val (.int bI), .val bs, .val (.ref fa), .val (.int mI), .val (.int (Int32.ofNat si)), .unset, .val (.ref b49)] [(.int x1), (.int (1 : Int32)), (.ref b49)])) rfl rfl (hb hby at_254)
        have V_b49_60 : Arv Z h60 b49 k49 .char (6 : Int32) [(.int (nar .char x0)), (.int (nar .char x1)), (.int (0 : Int32)), (.int (0 : Int32)), (.int (0 : Int32)), (.int (0 : Int32))] (.int (0 : Int32)) := Arv.set Ar59 qc59 Sz59 Nn59 Hs59 Gf59 (fits_nar_char _) W60 1 rfl (Nat.le_of_ble_eq_true rfl)
        have N60 := Fr.snoc X60 N55 n0_b49
        have OL61 := OL56.wr W60 n0_b49
        have hB61 := hB56.wr W60 (Safe.arr hZ.alike Ar59 (by decide))
        refine own_up st60 ?_
        show OwnOk p e below _ (T60.setTop (mkF m 255 #[.val (.int sel), .val (.int shape), .val (.int pos), .val (.int ch), .val (.int ch2), .val (.int bI), .val bs, .val (.ref fa), .val (.int mI), .val (.int (Int32.ofNat si)), .unset, .val (.ref b49)] []))
        refine own_up (fun tx kx => XS.aload X60.here hx rfl (hb hby at_255) rfl rfl kx) ?_
        show OwnOk p e below _ (T60.setTop (mkF m 257 #[.val (.int sel), .val (.int shape), .val (.int pos), .val (.int ch), .val (.int ch2), .val (.int bI), .val bs, .val (.ref fa), .val (.int mI), .val (.int (Int32.ofNat si)), .unset, .val (.ref b49)] [(.ref b49)]))
        refine own_up (fun tx kx => XS.iconst X60.here hx rfl (hb hby at_257) kx) ?_
        show OwnOk p e below _ (T60.setTop (mkF m 258 #[.val (.int sel), .val (.int shape), .val (.int pos), .val (.int ch), .val (.int ch2), .val (.int bI), .val bs, .val (.ref fa), .val (.int mI), .val (.int (Int32.ofNat si)), .unset, .val (.ref b49)] [(.int (2 : Int32)), (.ref b49)]))
        refine own_up (fun tx kx => XS.aload X60.here hx rfl (hb hby at_258) rfl rfl kx) ?_
        show OwnOk p e below _ (T60.setTop (mkF m 260 #[.val (.int sel), .val (.int shape), .val (.int pos), .val (.int ch), .val (.int ch2), .val (.int bI), .val bs, .val (.ref fa), .val (.int mI), .val (.int (Int32.ofNat si)), .unset, .val (.ref b49)] [(.ref fa), (.int (2 : Int32)), (.ref b49)]))
        refine own_up (fun tx kx => XS.iconst X60.here hx rfl (hb hby at_260) kx) ?_
        show OwnOk p e below _ (T60.setTop (mkF m 261 #[.val (.int sel), .val (.int shape), .val (.int pos), .val (.int ch), .val (.int ch2), .val (.int bI), .val bs, .val (.ref fa), .val (.int mI), .val (.int (Int32.ofNat si)), .unset, .val (.ref b49)] [(.int (2 : Int32)), (.ref fa), (.int (2 : Int32)), (.ref b49)]))
        have V_fa_62 := (V_fa_57.other W60 (Nat.ne_of_lt lt_fa_b49))
        obtain ⟨cl63, Ar63, qc63, Sz63, Nn63, Hs63, Gf63⟩ := id V_fa_62
        have hin63 : ¬ ((2 : Int32) < 0 ∨ cl63.slots.size ≤ ((2 : Int32)).toNatClampNeg) := inb_of Sz63 ⟨by decide, by decide⟩
        have hat63 : cl63.slots[((2 : Int32)).toNatClampNeg]? = some (.int x2) := Hs63.at hin63 rfl
        refine own_up (fun tx kx => X60.caload hx (j := (2 : Int32)) (v := (.int x2)) (own_ar e60 Ar63.1) (State.isArrayOf_alike hZ.alike Ar63.2.1) Ar63.2.2 hin63 hat63 (g := (mkF m 261 #[.val (.int sel), .val (.int shape), .val (.int pos), .val (.int ch), .val (.int ch2), .val (.int bI), .val bs, .val (.ref fa), .val (.int mI), .val (.int (Int32.ofNat si)), .unset, .val (.ref b49)] [(.int (2 : Int32)), (.ref fa), (.int (2 : Int32)), (.ref b49)])) rfl rfl (hb hby at_261) _ kx) ?_
        show OwnOk p e below _ (T60.setTop (mkF m 262 #[.val (.int sel), .val (.int shape), .val (.int pos), .val (.int ch), .val (.int ch2), .val (.int bI), .val bs, .val (.ref fa), .val (.int mI), .val (.int (Int32.ofNat si)), .unset, .val (.ref b49)] [(.int x2), (.int (2 : Int32)), (.ref b49)]))
        obtain ⟨cl64, Ar64, qc64, Sz64, Nn64, Hs64, Gf64⟩ := id V_b49_60
        have hin64 : ¬ ((2 : Int32) < 0 ∨ cl64.slots.size ≤ ((2 : Int32)).toNatClampNeg) := inb_of Sz64 ⟨by decide, by decide⟩
        obtain ⟨T65, h65, X65, e65, W65, st65⟩ := stC X60 hx hZ e60 Ar64 (j := (2 : Int32)) hin64 (g := (mkF m 262 #[.val (.int sel), .val (.int shape), .val (.int pos), .val (.int ch), .val (.int ch2), .val (.int bI), .val bs, .val (.ref fa), .val (.int mI), .val (.int (Int32.ofNat si)), .unset, .val (.ref b49)] [(.int x2), (.int (2 : Int32)), (.ref b49)])) rfl rfl (hb hby at_262)
        have V_b49_65 : Arv Z h65 b49 k49 .char (6 : Int32) [(.int (nar .char x0)), (.int (nar .char x1)), (.int (nar .char x2)), (.int (0 : Int32)), (.int (0 : Int32)), (.int (0 : Int32))] (.int (0 : Int32)) := Arv.set Ar64 qc64 Sz64 Nn64 Hs64 Gf64 (fits_nar_char _) W65 2 rfl (Nat.le_of_ble_eq_true rfl)
        have N65 := Fr.snoc X65 N60 n0_b49
        have OL66 := OL61.wr W65 n0_b49
        have hB66 := hB61.wr W65 (Safe.arr hZ.alike Ar64 (by decide))
        refine own_up st65 ?_
        show OwnOk p e below _ (T65.setTop (mkF m 263 #[.val (.int sel), .val (.int shape), .val (.int pos), .val (.int ch), .val (.int ch2), .val (.int bI), .val bs, .val (.ref fa), .val (.int mI), .val (.int (Int32.ofNat si)), .unset, .val (.ref b49)] []))
        refine own_up (fun tx kx => XS.aload X65.here hx rfl (hb hby at_263) rfl rfl kx) ?_
        show OwnOk p e below _ (T65.setTop (mkF m 265 #[.val (.int sel), .val (.int shape), .val (.int pos), .val (.int ch), .val (.int ch2), .val (.int bI), .val bs, .val (.ref fa), .val (.int mI), .val (.int (Int32.ofNat si)), .unset, .val (.ref b49)] [(.ref b49)]))
        refine own_up (fun tx kx => XS.iconst X65.here hx rfl (hb hby at_265) kx) ?_
        show OwnOk p e below _ (T65.setTop (mkF m 266 #[.val (.int sel), .val (.int shape), .val (.int pos), .val (.int ch), .val (.int ch2), .val (.int bI), .val bs, .val (.ref fa), .val (.int mI), .val (.int (Int32.ofNat si)), .unset, .val (.ref b49)] [(.int (3 : Int32)), (.ref b49)]))
        refine own_up (fun tx kx => XS.aload X65.here hx rfl (hb hby at_266) rfl rfl kx) ?_
        show OwnOk p e below _ (T65.setTop (mkF m 268 #[.val (.int sel), .val (.int shape), .val (.int pos), .val (.int ch), .val (.int ch2), .val (.int bI), .val bs, .val (.ref fa), .val (.int mI), .val (.int (Int32.ofNat si)), .unset, .val (.ref b49)] [(.ref fa), (.int (3 : Int32)), (.ref b49)]))
        refine own_up (fun tx kx => XS.iconst X65.here hx rfl (hb hby at_268) kx) ?_
        show OwnOk p e below _ (T65.setTop (mkF m 269 #[.val (.int sel), .val (.int shape), .val (.int pos), .val (.int ch), .val (.int ch2), .val (.int bI), .val bs, .val (.ref fa), .val (.int mI), .val (.int (Int32.ofNat si)), .unset, .val (.ref b49)] [(.int (3 : Int32)), (.ref fa), (.int (3 : Int32)), (.ref b49)]))
        have V_fa_67 := (V_fa_62.other W65 (Nat.ne_of_lt lt_fa_b49))
        obtain ⟨cl68, Ar68, qc68, Sz68, Nn68, Hs68, Gf68⟩ := id V_fa_67
        have hin68 : ¬ ((3 : Int32) < 0 ∨ cl68.slots.size ≤ ((3 : Int32)).toNatClampNeg) := inb_of Sz68 ⟨by decide, by decide⟩
        have hat68 : cl68.slots[((3 : Int32)).toNatClampNeg]? = some (.int x3) := Hs68.at hin68 rfl
        refine own_up (fun tx kx => X65.caload hx (j := (3 : Int32)) (v := (.int x3)) (own_ar e65 Ar68.1) (State.isArrayOf_alike hZ.alike Ar68.2.1) Ar68.2.2 hin68 hat68 (g := (mkF m 269 #[.val (.int sel), .val (.int shape), .val (.int pos), .val (.int ch), .val (.int ch2), .val (.int bI), .val bs, .val (.ref fa), .val (.int mI), .val (.int (Int32.ofNat si)), .unset, .val (.ref b49)] [(.int (3 : Int32)), (.ref fa), (.int (3 : Int32)), (.ref b49)])) rfl rfl (hb hby at_269) _ kx) ?_
        show OwnOk p e below _ (T65.setTop (mkF m 270 #[.val (.int sel), .val (.int shape), .val (.int pos), .val (.int ch), .val (.int ch2), .val (.int bI), .val bs, .val (.ref fa), .val (.int mI), .val (.int (Int32.ofNat si)), .unset, .val (.ref b49)] [(.int x3), (.int (3 : Int32)), (.ref b49)]))
        obtain ⟨cl69, Ar69, qc69, Sz69, Nn69, Hs69, Gf69⟩ := id V_b49_65
        have hin69 : ¬ ((3 : Int32) < 0 ∨ cl69.slots.size ≤ ((3 : Int32)).toNatClampNeg) := inb_of Sz69 ⟨by decide, by decide⟩
        obtain ⟨T70, h70, X70, e70, W70, st70⟩ := stC X65 hx hZ e65 Ar69 (j := (3 : Int32)) hin69 (g := (mkF m 270 #[.val (.int sel), .val (.int shape), .val (.int pos), .val (.int ch), .val (.int ch2), .val (.int bI), .val bs, .val (.ref fa), .val (.int mI), .val (.int (Int32.ofNat si)), .unset, .val (.ref b49)] [(.int x3), (.int (3 : Int32)), (.ref b49)])) rfl rfl (hb hby at_270)
        have V_b49_70 : Arv Z h70 b49 k49 .char (6 : Int32) [(.int (nar .char x0)), (.int (nar .char x1)), (.int (nar .char x2)), (.int (nar .char x3)), (.int (0 : Int32)), (.int (0 : Int32))] (.int (0 : Int32)) := Arv.set Ar69 qc69 Sz69 Nn69 Hs69 Gf69 (fits_nar_char _) W70 3 rfl (Nat.le_of_ble_eq_true rfl)
        have N70 := Fr.snoc X70 N65 n0_b49
        have OL71 := OL66.wr W70 n0_b49
        have hB71 := hB66.wr W70 (Safe.arr hZ.alike Ar69 (by decide))
        refine own_up st70 ?_
        show OwnOk p e below _ (T70.setTop (mkF m 271 #[.val (.int sel), .val (.int shape), .val (.int pos), .val (.int ch), .val (.int ch2), .val (.int bI), .val bs, .val (.ref fa), .val (.int mI), .val (.int (Int32.ofNat si)), .unset, .val (.ref b49)] []))
        refine own_up (fun tx kx => XS.aload X70.here hx rfl (hb hby at_271) rfl rfl kx) ?_
        show OwnOk p e below _ (T70.setTop (mkF m 273 #[.val (.int sel), .val (.int shape), .val (.int pos), .val (.int ch), .val (.int ch2), .val (.int bI), .val bs, .val (.ref fa), .val (.int mI), .val (.int (Int32.ofNat si)), .unset, .val (.ref b49)] [(.ref b49)]))
        refine own_up (fun tx kx => XS.iconst X70.here hx rfl (hb hby at_273) kx) ?_
        show OwnOk p e below _ (T70.setTop (mkF m 274 #[.val (.int sel), .val (.int shape), .val (.int pos), .val (.int ch), .val (.int ch2), .val (.int bI), .val bs, .val (.ref fa), .val (.int mI), .val (.int (Int32.ofNat si)), .unset, .val (.ref b49)] [(.int (4 : Int32)), (.ref b49)]))
        refine own_up (fun tx kx => XS.aload X70.here hx rfl (hb hby at_274) rfl rfl kx) ?_
        show OwnOk p e below _ (T70.setTop (mkF m 276 #[.val (.int sel), .val (.int shape), .val (.int pos), .val (.int ch), .val (.int ch2), .val (.int bI), .val bs, .val (.ref fa), .val (.int mI), .val (.int (Int32.ofNat si)), .unset, .val (.ref b49)] [(.ref fa), (.int (4 : Int32)), (.ref b49)]))
        refine own_up (fun tx kx => XS.iconst X70.here hx rfl (hb hby at_276) kx) ?_
        show OwnOk p e below _ (T70.setTop (mkF m 277 #[.val (.int sel), .val (.int shape), .val (.int pos), .val (.int ch), .val (.int ch2), .val (.int bI), .val bs, .val (.ref fa), .val (.int mI), .val (.int (Int32.ofNat si)), .unset, .val (.ref b49)] [(.int (4 : Int32)), (.ref fa), (.int (4 : Int32)), (.ref b49)]))
        have V_fa_72 := (V_fa_67.other W70 (Nat.ne_of_lt lt_fa_b49))
        obtain ⟨cl73, Ar73, qc73, Sz73, Nn73, Hs73, Gf73⟩ := id V_fa_72
        have hin73 : ¬ ((4 : Int32) < 0 ∨ cl73.slots.size ≤ ((4 : Int32)).toNatClampNeg) := inb_of Sz73 ⟨by decide, by decide⟩
        have hat73 : cl73.slots[((4 : Int32)).toNatClampNeg]? = some (.int x4) := Hs73.at hin73 rfl
        refine own_up (fun tx kx => X70.caload hx (j := (4 : Int32)) (v := (.int x4)) (own_ar e70 Ar73.1) (State.isArrayOf_alike hZ.alike Ar73.2.1) Ar73.2.2 hin73 hat73 (g := (mkF m 277 #[.val (.int sel), .val (.int shape), .val (.int pos), .val (.int ch), .val (.int ch2), .val (.int bI), .val bs, .val (.ref fa), .val (.int mI), .val (.int (Int32.ofNat si)), .unset, .val (.ref b49)] [(.int (4 : Int32)), (.ref fa), (.int (4 : Int32)), (.ref b49)])) rfl rfl (hb hby at_277) _ kx) ?_
        show OwnOk p e below _ (T70.setTop (mkF m 278 #[.val (.int sel), .val (.int shape), .val (.int pos), .val (.int ch), .val (.int ch2), .val (.int bI), .val bs, .val (.ref fa), .val (.int mI), .val (.int (Int32.ofNat si)), .unset, .val (.ref b49)] [(.int x4), (.int (4 : Int32)), (.ref b49)]))
        obtain ⟨cl74, Ar74, qc74, Sz74, Nn74, Hs74, Gf74⟩ := id V_b49_70
        have hin74 : ¬ ((4 : Int32) < 0 ∨ cl74.slots.size ≤ ((4 : Int32)).toNatClampNeg) := inb_of Sz74 ⟨by decide, by decide⟩
        obtain ⟨T75, h75, X75, e75, W75, st75⟩ := stC X70 hx hZ e70 Ar74 (j := (4 : Int32)) hin74 (g := (mkF m 278 #[.val (.int sel), .val (.int shape), .val (.int pos), .val (.int ch), .val (.int ch2), .val (.int bI), .val bs, .val (.ref fa), .val (.int mI), .val (.int (Int32.ofNat si)), .unset, .val (.ref b49)] [(.int x4), (.int (4 : Int32)), (.ref b49)])) rfl rfl (hb hby at_278)
        have V_b49_75 : Arv Z h75 b49 k49 .char (6 : Int32) [(.int (nar .char x0)), (.int (nar .char x1)), (.int (nar .char x2)), (.int (nar .char x3)), (.int (nar .char x4)), (.int (0 : Int32))] (.int (0 : Int32)) := Arv.set Ar74 qc74 Sz74 Nn74 Hs74 Gf74 (fits_nar_char _) W75 4 rfl (Nat.le_of_ble_eq_true rfl)
        have N75 := Fr.snoc X75 N70 n0_b49
        have OL76 := OL71.wr W75 n0_b49
        have hB76 := hB71.wr W75 (Safe.arr hZ.alike Ar74 (by decide))
        refine own_up st75 ?_
        show OwnOk p e below _ (T75.setTop (mkF m 279 #[.val (.int sel), .val (.int shape), .val (.int pos), .val (.int ch), .val (.int ch2), .val (.int bI), .val bs, .val (.ref fa), .val (.int mI), .val (.int (Int32.ofNat si)), .unset, .val (.ref b49)] []))
        refine own_up (fun tx kx => XS.aload X75.here hx rfl (hb hby at_279) rfl rfl kx) ?_
        show OwnOk p e below _ (T75.setTop (mkF m 281 #[.val (.int sel), .val (.int shape), .val (.int pos), .val (.int ch), .val (.int ch2), .val (.int bI), .val bs, .val (.ref fa), .val (.int mI), .val (.int (Int32.ofNat si)), .unset, .val (.ref b49)] [(.ref b49)]))
        refine own_up (fun tx kx => XS.iconst X75.here hx rfl (hb hby at_281) kx) ?_
        show OwnOk p e below _ (T75.setTop (mkF m 282 #[.val (.int sel), .val (.int shape), .val (.int pos), .val (.int ch), .val (.int ch2), .val (.int bI), .val bs, .val (.ref fa), .val (.int mI), .val (.int (Int32.ofNat si)), .unset, .val (.ref b49)] [(.int (5 : Int32)), (.ref b49)]))
        refine own_up (fun tx kx => XS.iload X75.here hx rfl (hb hby at_282) rfl kx) ?_
        show OwnOk p e below _ (T75.setTop (mkF m 284 #[.val (.int sel), .val (.int shape), .val (.int pos), .val (.int ch), .val (.int ch2), .val (.int bI), .val bs, .val (.ref fa), .val (.int mI), .val (.int (Int32.ofNat si)), .unset, .val (.ref b49)] [(.int ch2), (.int (5 : Int32)), (.ref b49)]))
        refine own_up (fun tx kx => XS.bipush X75.here hx rfl (hb hby at_284) kx) ?_
        show OwnOk p e below _ (T75.setTop (mkF m 286 #[.val (.int sel), .val (.int shape), .val (.int pos), .val (.int ch), .val (.int ch2), .val (.int bI), .val bs, .val (.ref fa), .val (.int mI), .val (.int (Int32.ofNat si)), .unset, .val (.ref b49)] [(.int (16 : Int32)), (.int ch2), (.int (5 : Int32)), (.ref b49)]))
        refine own_up (fun tx kx => XS.iushr X75.here hx rfl (hb hby at_286) rfl kx) ?_
        show OwnOk p e below _ (T75.setTop (mkF m 287 #[.val (.int sel), .val (.int shape), .val (.int pos), .val (.int ch), .val (.int ch2), .val (.int bI), .val bs, .val (.ref fa), .val (.int mI), .val (.int (Int32.ofNat si)), .unset, .val (.ref b49)] [(.int ((ch2.toUInt32 >>> ((16 : Int32) &&& 31).toUInt32).toInt32)), (.int (5 : Int32)), (.ref b49)]))
        refine own_up (fun tx kx => XS.sipush X75.here hx rfl (hb hby at_287) kx) ?_
        show OwnOk p e below _ (T75.setTop (mkF m 290 #[.val (.int sel), .val (.int shape), .val (.int pos), .val (.int ch), .val (.int ch2), .val (.int bI), .val bs, .val (.ref fa), .val (.int mI), .val (.int (Int32.ofNat si)), .unset, .val (.ref b49)] [(.int (255 : Int32)), (.int ((ch2.toUInt32 >>> ((16 : Int32) &&& 31).toUInt32).toInt32)), (.int (5 : Int32)), (.ref b49)]))
        refine own_up (fun tx kx => XS.iand X75.here hx rfl (hb hby at_290) rfl kx) ?_
        show OwnOk p e below _ (T75.setTop (mkF m 291 #[.val (.int sel), .val (.int shape), .val (.int pos), .val (.int ch), .val (.int ch2), .val (.int bI), .val bs, .val (.ref fa), .val (.int mI), .val (.int (Int32.ofNat si)), .unset, .val (.ref b49)] [(.int (((ch2.toUInt32 >>> ((16 : Int32) &&& 31).toUInt32).toInt32) &&& (255 : Int32))), (.int (5 : Int32)), (.ref b49)]))
        refine own_up (fun tx kx => XS.i2c X75.here hx rfl (hb hby at_291) rfl kx) ?_
        show OwnOk p e below _ (T75.setTop (mkF m 292 #[.val (.int sel), .val (.int shape), .val (.int pos), .val (.int ch), .val (.int ch2), .val (.int bI), .val bs, .val (.ref fa), .val (.int mI), .val (.int (Int32.ofNat si)), .unset, .val (.ref b49)] [(.int ((((ch2.toUInt32 >>> ((16 : Int32) &&& 31).toUInt32).toInt32) &&& (255 : Int32)).toUInt32.toUInt16.toUInt32.toInt32)), (.int (5 : Int32)), (.ref b49)]))
        obtain ⟨cl77, Ar77, qc77, Sz77, Nn77, Hs77, Gf77⟩ := id V_b49_75
        have hin77 : ¬ ((5 : Int32) < 0 ∨ cl77.slots.size ≤ ((5 : Int32)).toNatClampNeg) := inb_of Sz77 ⟨by decide, by decide⟩
        obtain ⟨T78, h78, X78, e78, W78, st78⟩ := stC X75 hx hZ e75 Ar77 (j := (5 : Int32)) hin77 (g := (mkF m 292 #[.val (.int sel), .val (.int shape), .val (.int pos), .val (.int ch), .val (.int ch2), .val (.int bI), .val bs, .val (.ref fa), .val (.int mI), .val (.int (Int32.ofNat si)), .unset, .val (.ref b49)] [(.int ((((ch2.toUInt32 >>> ((16 : Int32) &&& 31).toUInt32).toInt32) &&& (255 : Int32)).toUInt32.toUInt16.toUInt32.toInt32)), (.int (5 : Int32)), (.ref b49)])) rfl rfl (hb hby at_292)
        have V_b49_78 : Arv Z h78 b49 k49 .char (6 : Int32) [(.int (nar .char x0)), (.int (nar .char x1)), (.int (nar .char x2)), (.int (nar .char x3)), (.int (nar .char x4)), (.int (nar .char ((((ch2.toUInt32 >>> ((16 : Int32) &&& 31).toUInt32).toInt32) &&& (255 : Int32)).toUInt32.toUInt16.toUInt32.toInt32)))] (.int (0 : Int32)) := Arv.set Ar77 qc77 Sz77 Nn77 Hs77 Gf77 (fits_nar_char _) W78 5 rfl (Nat.le_of_ble_eq_true rfl)
        have N78 := Fr.snoc X78 N75 n0_b49
        have OL79 := OL76.wr W78 n0_b49
        have hB79 := hB76.wr W78 (Safe.arr hZ.alike Ar77 (by decide))
        refine own_up st78 ?_
        show OwnOk p e below _ (T78.setTop (mkF m 293 #[.val (.int sel), .val (.int shape), .val (.int pos), .val (.int ch), .val (.int ch2), .val (.int bI), .val bs, .val (.ref fa), .val (.int mI), .val (.int (Int32.ofNat si)), .unset, .val (.ref b49)] []))
        obtain ⟨T80, h80, X80, e80, E80, A80, D80, -, st80⟩ := newO X78 hx hZ hown (wd_80 hw) (wd_3 hw) (wd_2 hw) e78 (g := (mkF m 293 #[.val (.int sel), .val (.int shape), .val (.int pos), .val (.int ch), .val (.int ch2), .val (.int bI), .val bs, .val (.ref fa), .val (.int mI), .val (.int (Int32.ofNat si)), .unset, .val (.ref b49)] [])) rfl (hb hby at_293) (by decide) (by decide)
        obtain ⟨b80, g80⟩ : ∃ z, z = h78.size := ⟨_, rfl⟩
        rw [← g80] at A80 D80 st80
        have sz_b80 : h78.size ≤ b80 := Nat.le_of_eq g80.symm
        have V_fa_82 := ((V_fa_72.other W75 (Nat.ne_of_lt lt_fa_b49)).other W78 (Nat.ne_of_lt lt_fa_b49))
        have lt_fa_b80 : fa < b80 := Nat.lt_of_lt_of_le V_fa_82.lt sz_b80
        have lt_b49_b80 : b49 < b80 := Nat.lt_of_lt_of_le V_b49_78.lt sz_b80
        have n0_b80 : n0 ≤ b80 := Nat.le_trans (own_n0 OL79) sz_b80
        have F_value_b80 : Fld Z h80 b80 "java/lang/String" "value" "[B" .null := D80 (Or.inr (wd_5 hw)) (ty := (.array .byte)) (by decide)
        have F_coder_b80 : Fld Z h80 b80 "java/lang/String" "coder" "B" (.int (0 : Int32)) := D80 (Or.inr (wd_6 hw)) (ty := .byte) (by decide)
        have OL83 := OL79.ext E80
        have hB83 := hB79.ext E80
        have sf_b80_84 := hB79.sNew E80 sz_b80
        refine own_up st80 ?_
        show OwnOk p e below _ (T80.setTop (mkF m 296 #[.val (.int sel), .val (.int shape), .val (.int pos), .val (.int ch), .val (.int ch2), .val (.int bI), .val bs, .val (.ref fa), .val (.int mI), .val (.int (Int32.ofNat si)), .unset, .val (.ref b49)] [(.ref b80)]))
        refine own_up (fun tx kx => XS.dup X80.here hx rfl (hb hby at_296) rfl rfl kx) ?_
        show OwnOk p e below _ (T80.setTop (mkF m 297 #[.val (.int sel), .val (.int shape), .val (.int pos), .val (.int ch), .val (.int ch2), .val (.int bI), .val bs, .val (.ref fa), .val (.int mI), .val (.int (Int32.ofNat si)), .unset, .val (.ref b49)] [(.ref b80), (.ref b80)]))
        refine own_up (fun tx kx => XS.aload X80.here hx rfl (hb hby at_297) rfl rfl kx) ?_
        show OwnOk p e below _ (T80.setTop (mkF m 299 #[.val (.int sel), .val (.int shape), .val (.int pos), .val (.int ch), .val (.int ch2), .val (.int bI), .val bs, .val (.ref fa), .val (.int mI), .val (.int (Int32.ofNat si)), .unset, .val (.ref b49)] [(.ref b49), (.ref b80), (.ref b80)]))
        have V_b49_85 := (V_b49_78.ext E80)
        refine own_callC X80 hx hZ (y := (⟨"java/lang/String", "<init>", "([C)V"⟩ : MethodName)) rfl hown (wd_81 hw) (wd_82 hw) (wd_2 hw) (wd_83 hw) (by decide) (c_init1_6 l Z a0 hw b80 b49 k49 (nar .char x0) (nar .char x1) (nar .char x2) (nar .char x3) (nar .char x4) (nar .char ((((ch2.toUInt32 >>> ((16 : Int32) &&& 31).toUInt32).toInt32) &&& (255 : Int32)).toUInt32.toUInt16.toUInt32.toInt32)) cz h80 n0 OL83 SC hcz A80 F_value_b80 F_coder_b80 n0_b80 V_b49_85 (Nat.ne_of_gt lt_b49_b80) (own_ncl c0).2 (own_ncl c1).2 (own_ncl c2).2 (own_ncl c3).2 (own_ncl c4).2 (own_chy _).2) e80 (argsL := [(.ref b49)]) (rest := [(.ref b80)]) (a := b80) (by rw [hml]; rfl) (lenOf pd_13 rfl) rfl rfl (W := 1) rfl (hb hby at_299) (by decide) (by decide) (by decide) (by decide) (fun T86 v86 L86 X86 hQ86 => ?_)
        obtain ⟨rfl, Nq86, Kq86, uu86, ku86, gu86, ea86, fv86, fc86, vu86⟩ := hQ86
        have N86 := Fr.app N78 Nq86
        have hB86 := hB83.keep Kq86 (own_safS sf_b80_84 own_saf0)
        have sf_b80_87 := hB83.sKeep Kq86 (own_safS sf_b80_84 own_saf0) sf_b80_84
        have OL86 := OL83.keep Kq86 (allS n0_b80 all0)
        show OwnOk p e below _ (T86.setTop (mkF m 302 #[.val (.int sel), .val (.int shape), .val (.int pos), .val (.int ch), .val (.int ch2), .val (.int bI), .val bs, .val (.ref fa), .val (.int mI), .val (.int (Int32.ofNat si)), .unset, .val (.ref b49)] [(.ref b80)]))
        refine own_up (fun tx kx => XS.astore X86.here hx rfl (hb hby at_302) rfl rfl (l' := #[.val (.int sel), .val (.int shape), .val (.int pos), .val (.int ch), .val (.int ch2), .val (.int bI), .val bs, .val (.ref fa), .val (.int mI), .val (.int (Int32.ofNat si)), .val (.ref b80), .val (.ref b49)]) rfl kx) ?_
        show OwnOk p e below _ (T86.setTop (mkF m 304 #[.val (.int sel), .val (.int shape), .val (.int pos), .val (.int ch), .val (.int ch2), .val (.int bI), .val bs, .val (.ref fa), .val (.int mI), .val (.int (Int32.ofNat si)), .val (.ref b80), .val (.ref b49)] []))
        refine own_up (fun tx kx => XS.goto X86.here hx rfl (pc0 := 304) (pc' := 323) rfl (hb hby at_304) (by decide) (by decide) kx) ?_
        show OwnOk p e below _ (T86.setTop (mkF m 323 #[.val (.int sel), .val (.int shape), .val (.int pos), .val (.int ch), .val (.int ch2), .val (.int bI), .val bs, .val (.ref fa), .val (.int mI), .val (.int (Int32.ofNat si)), .val (.ref b80), .val (.ref b49)] []))
        exact law_323r l Z a0 hw sel shape pos ch ch2 bI mI (Int32.ofNat si) bs fa b49 cz w0 w1 w2 s0 s1 s2 u0 u1 u2 va k0 k1 k2 kva b80 uu86 ku86 6 (fun j => [(nar .byte ((nar .char x0).toInt8.toInt32)), (nar .byte ((nar .char x1).toInt8.toInt32)), (nar .byte ((nar .char x2).toInt8.toInt32)), (nar .byte ((nar .char x3).toInt8.toInt32)), (nar .byte ((nar .char x4).toInt8.toInt32)), (nar .byte ((nar .char ((((ch2.toUInt32 >>> ((16 : Int32) &&& 31).toUInt32).toInt32) &&& (255 : Int32)).toUInt32.toUInt16.toUInt32.toInt32)).toInt8.toInt32))].getD j 0) hx hby hml hret hlk (X86.mono (Nat.le_of_ble_eq_true rfl) (Nat.le_of_ble_eq_true rfl)) rfl hZ hown n0 OL86 N86 hB86 SC hcz S0 W0 F0 E0 G0 D0 V0 S1 W1 F1 E1 G1 D1 V1 S2 W2 F2 E2 G2 D2 V2 SV EV VV ea86 fv86 fc86 vu86 (by decide)
      · refine own_up (fun tx kx => XS.icmpYes X0.here hx rfl (pc0 := 230) (pc' := 307) rfl (hb hby at_230) rfl (feq e2_).2 (by decide) (by decide) kx) ?_
        show OwnOk p e below _ (T.setTop (mkF m 307 #[.val (.int sel), .val (.int shape), .val (.int pos), .val (.int ch), .val (.int ch2), .val (.int bI), .val bs, .val (.ref fa), .val (.int mI), .val (.int (Int32.ofNat si)), .unset, .unset] []))
        refine own_up (fun tx kx => XS.iload X0.here hx rfl (hb hby at_307) rfl kx) ?_
        show OwnOk p e below _ (T.setTop (mkF m 309 #[.val (.int sel), .val (.int shape), .val (.int pos), .val (.int ch), .val (.int ch2), .val (.int bI), .val bs, .val (.ref fa), .val (.int mI), .val (.int (Int32.ofNat si)), .unset, .unset] [(.int (Int32.ofNat si))]))
        refine own_up (fun tx kx => XS.iconst X0.here hx rfl (hb hby at_309) kx) ?_
        show OwnOk p e below _ (T.setTop (mkF m 310 #[.val (.int sel), .val (.int shape), .val (.int pos), .val (.int ch), .val (.int ch2), .val (.int bI), .val bs, .val (.ref fa), .val (.int mI), .val (.int (Int32.ofNat si)), .unset, .unset] [(.int (3 : Int32)), (.int (Int32.ofNat si))]))
        by_cases e3_ : (Int32.ofNat si) = (3 : Int32)
        · refine own_up (fun tx kx => XS.icmpNo X0.here hx rfl (hb hby at_310) rfl (teq e3_).2 kx) ?_
          show OwnOk p e below _ (T.setTop (mkF m 313 #[.val (.int sel), .val (.int shape), .val (.int pos), .val (.int ch), .val (.int ch2), .val (.int bI), .val bs, .val (.ref fa), .val (.int mI), .val (.int (Int32.ofNat si)), .unset, .unset] []))
          refine own_ldcH X0 hB hx hZ (own_ew hw) hown (by decide) (wd_39 hw) (own_wS hw) e0 (vs := own_F 0 (fun j => [].getD j 0)) (z := Int32.ofNat 0) ⟨by decide, by decide⟩ (by decide) (by decide) (hb hby at_313) (n := 0) (by decide) (by decide) (by decide) (by decide) (fun s88 ls88 lv88 kv88 T88 h88 X88 hB88 hZ88 hown88 e88 E88 xa88 fc88 fv88 av88 sf88 => ?_)
          have OL88 := OL.ext E88
          show OwnOk p e below _ (T88.setTop (mkF m 315 #[.val (.int sel), .val (.int shape), .val (.int pos), .val (.int ch), .val (.int ch2), .val (.int bI), .val bs, .val (.ref fa), .val (.int mI), .val (.int (Int32.ofNat si)), .unset, .unset] [(.ref ls88)]))
          refine own_up (fun tx kx => XS.astore X88.here hx rfl (hb hby at_315) rfl rfl (l' := #[.val (.int sel), .val (.int shape), .val (.int pos), .val (.int ch), .val (.int ch2), .val (.int bI), .val bs, .val (.ref fa), .val (.int mI), .val (.int (Int32.ofNat si)), .val (.ref ls88), .unset]) rfl kx) ?_
          show OwnOk p e below _ (T88.setTop (mkF m 317 #[.val (.int sel), .val (.int shape), .val (.int pos), .val (.int ch), .val (.int ch2), .val (.int bI), .val bs, .val (.ref fa), .val (.int mI), .val (.int (Int32.ofNat si)), .val (.ref ls88), .unset] []))
          refine own_up (fun tx kx => XS.goto X88.here hx rfl (pc0 := 317) (pc' := 323) rfl (hb hby at_317) (by decide) (by decide) kx) ?_
          show OwnOk p e below _ (T88.setTop (mkF m 323 #[.val (.int sel), .val (.int shape), .val (.int pos), .val (.int ch), .val (.int ch2), .val (.int bI), .val bs, .val (.ref fa), .val (.int mI), .val (.int (Int32.ofNat si)), .val (.ref ls88), .unset] []))
          exact law_323 l Z a0 hw sel shape pos ch ch2 bI mI (Int32.ofNat si) bs fa fa cz w0 w1 w2 s0 s1 s2 u0 u1 u2 va k0 k1 k2 kva ls88 lv88 kv88 0 (fun j => [].getD j 0) hx hby hml hret hlk (X88.mono (Nat.le_of_ble_eq_true rfl) (Nat.le_of_ble_eq_true rfl)) e88 hZ88 hown88 n0 OL88 N0 hB88 SC hcz S0 W0 F0 E0 G0 D0 V0 S1 W1 F1 E1 G1 D1 V1 S2 W2 F2 E2 G2 D2 V2 SV EV VV xa88 fv88 fc88 av88 (by decide)
        · refine own_up (fun tx kx => XS.icmpYes X0.here hx rfl (pc0 := 310) (pc' := 320) rfl (hb hby at_310) rfl (feq e3_).2 (by decide) (by decide) kx) ?_
          show OwnOk p e below _ (T.setTop (mkF m 320 #[.val (.int sel), .val (.int shape), .val (.int pos), .val (.int ch), .val (.int ch2), .val (.int bI), .val bs, .val (.ref fa), .val (.int mI), .val (.int (Int32.ofNat si)), .unset, .unset] []))
          refine own_up (fun tx kx => XS.aconstNull X0.here hx rfl (hb hby at_320) kx) ?_
          show OwnOk p e below _ (T.setTop (mkF m 321 #[.val (.int sel), .val (.int shape), .val (.int pos), .val (.int ch), .val (.int ch2), .val (.int bI), .val bs, .val (.ref fa), .val (.int mI), .val (.int (Int32.ofNat si)), .unset, .unset] [.null]))
          refine own_up (fun tx kx => XS.astore X0.here hx rfl (hb hby at_321) rfl rfl (l' := #[.val (.int sel), .val (.int shape), .val (.int pos), .val (.int ch), .val (.int ch2), .val (.int bI), .val bs, .val (.ref fa), .val (.int mI), .val (.int (Int32.ofNat si)), .val .null, .unset]) rfl kx) ?_
          show OwnOk p e below _ (T.setTop (mkF m 323 #[.val (.int sel), .val (.int shape), .val (.int pos), .val (.int ch), .val (.int ch2), .val (.int bI), .val bs, .val (.ref fa), .val (.int mI), .val (.int (Int32.ofNat si)), .val .null, .unset] []))
          exact law_323n l Z a0 hw sel shape pos ch ch2 bI mI (Int32.ofNat si) bs fa fa cz w0 w1 w2 s0 s1 s2 u0 u1 u2 va k0 k1 k2 kva hx hby hml hret hlk (X0.mono (Nat.le_of_ble_eq_true rfl) (Nat.le_of_ble_eq_true rfl)) e0 hZ hown n0 OL N0 hB SC hcz S0 W0 F0 E0 G0 D0 V0 S1 W1 F1 E1 G1 D1 V1 S2 W2 F2 E2 G2 D2 V2 SV EV VV
set_option maxRecDepth 65536 in
set_option maxHeartbeats 40000000 in
theorem law_41 (l : Launch) (Z : State) (a0 : Array Value) (hw : ∀ d ∈ tables_1, d.before a0 Z = true) (sel shape pos ch ch2 : Int32) (bI : Int32) (cz : Int32) (w0 w1 w2 s0 s1 s2 u0 u1 u2 va : Addr) (k0 k1 k2 kva : ClassId) (fm : Value) (hfm : fm.isRef = true) (a u : Addr) (ku : ClassId) (g : Nat → Int32) {p : Program} {e : Env} {s s' : State} {m : MethodId} {below : List Frame} {meth : Method} {c : Code} {T : State} (hx : p.tables.exec = Jvm.exec) (hby : c.code = code) (hml : c.maxLocals = 12) (hret : meth.sig.returnType = ret) (hlk : meth.locks = false) {locs : List Loc} (X0 : Stand p l e room_1 s' m #[(.int sel), (.int shape), (.int pos), (.int ch), (.int ch2)] below meth c T locs 4 300) {h0 : Heap} (e0 : T.heap = h0) (hZ : Z.Warmed39 s'.vm) (hown : s'.vm.findClass "com/example/gridpost/gridpost/store/OperationKindFromWireNamePinLaw" = some m.cls) (n0 : Nat) (OL : Old Z n0 h0) (N0 : Fr n0 locs) (hB : own_FrH Z own_EL s s' h0) (SC : Sta Z Z.heap "java/lang/String" "COMPACT_STRINGS" "Z" (.int cz)) (hcz : ¬ cz = 0) (SF : Sta Z Z.heap "jdk/internal/util/Preconditions" "SIOOBE_FORMATTER" "Ljava/util/function/BiFunction;" fm) (S0 : Sta Z Z.heap "com/example/gridpost/gridpost/store/OperationKind" "START" "Lcom/example/gridpost/gridpost/store/OperationKind;" (.ref w0)) (W0 : Exa Z Z.heap w0 "com/example/gridpost/gridpost/store/OperationKind") (F0 : Fld Z Z.heap w0 "com/example/gridpost/gridpost/store/OperationKind" "wireName" "Ljava/lang/String;" (.ref s0)) (E0 : Exa Z Z.heap s0 "java/lang/String") (G0 : Fld Z Z.heap s0 "java/lang/String" "value" "[B" (.ref u0)) (D0 : Fld Z Z.heap s0 "java/lang/String" "coder" "B" (.int (0 : Int32))) (V0 : Arv Z Z.heap u0 k0 .byte (Int32.ofNat 5) (own_F 5 (fun j => [(115 : Int32), (116 : Int32), (97 : Int32), (114 : Int32), (116 : Int32)].getD j 0)) (.int (0 : Int32))) (S1 : Sta Z Z.heap "com/example/gridpost/gridpost/store/OperationKind" "ABORT" "Lcom/example/gridpost/gridpost/store/OperationKind;" (.ref w1)) (W1 : Exa Z Z.heap w1 "com/example/gridpost/gridpost/store/OperationKind") (F1 : Fld Z Z.heap w1 "com/example/gridpost/gridpost/store/OperationKind" "wireName" "Ljava/lang/String;" (.ref s1)) (E1 : Exa Z Z.heap s1 "java/lang/String") (G1 : Fld Z Z.heap s1 "java/lang/String" "value" "[B" (.ref u1)) (D1 : Fld Z Z.heap s1 "java/lang/String" "coder" "B" (.int (0 : Int32))) (V1 : Arv Z Z.heap u1 k1 .byte (Int32.ofNat 5) (own_F 5 (fun j => [(97 : Int32), (98 : Int32), (111 : Int32), (114 : Int32), (116 : Int32)].getD j 0)) (.int (0 : Int32))) (S2 : Sta Z Z.heap "com/example/gridpost/gridpost/store/OperationKind" "PAUSE" "Lcom/example/gridpost/gridpost/store/OperationKind;" (.ref w2)) (W2 : Exa Z Z.heap w2 "com/example/gridpost/gridpost/store/OperationKind") (F2 : Fld Z Z.heap w2 "com/example/gridpost/gridpost/store/OperationKind" "wireName" "Ljava/lang/String;" (.ref s2)) (E2 : Exa Z Z.heap s2 "java/lang/String") (G2 : Fld Z Z.heap s2 "java/lang/String" "value" "[B" (.ref u2)) (D2 : Fld Z Z.heap s2 "java/lang/String" "coder" "B" (.int (0 : Int32))) (V2 : Arv Z Z.heap u2 k2 .byte (Int32.ofNat 5) (own_F 5 (fun j => [(112 : Int32), (97 : Int32), (117 : Int32), (115 : Int32), (101 : Int32)].getD j 0)) (.int (0 : Int32))) (SV : Sta Z Z.heap "com/example/gridpost/gridpost/store/OperationKind" "$VALUES" "[Lcom/example/gridpost/gridpost/store/OperationKind;" (.ref va)) (EV : Exa Z Z.heap va "[Lcom/example/gridpost/gridpost/store/OperationKind;") (VV : Arv Z Z.heap va kva (.object "com/example/gridpost/gridpost/store/OperationKind") (3 : Int32) [.ref w0, .ref w1, .ref w2] .null) (E_a : Exa Z h0 a "java/lang/String") (F_value_a : Fld Z h0 a "java/lang/String" "value" "[B" (.ref u)) (F_coder_a : Fld Z h0 a "java/lang/String" "coder" "B" (.int (0 : Int32))) (V_u : Arv Z h0 u ku .byte (Int32.ofNat 5) (own_F 5 g) (.int (0 : Int32))) :
    OwnOk p e below (own_KH Z own_EL s (Q_rm0 n0) room_1.cells room_1.slots) (T.setTop (mkF m 43 #[.val (.int sel), .val (.int shape), .val (.int pos), .val (.int ch), .val (.int ch2), .val (.int bI), .val (.ref a), .unset, .unset, .unset, .unset, .unset] [])) := by
  have Z0 : n0 ≤ h0.size := OL.1 ▸ OL.2.1
  show OwnOk p e below _ (T.setTop (mkF m 43 #[.val (.int sel), .val (.int shape), .val (.int pos), .val (.int ch), .val (.int ch2), .val (.int bI), .val (.ref a), .unset, .unset, .unset, .unset, .unset] []))
  refine own_up (fun tx kx => XS.iconst X0.here hx rfl (hb hby at_43) kx) ?_
  show OwnOk p e below _ (T.setTop (mkF m 44 #[.val (.int sel), .val (.int shape), .val (.int pos), .val (.int ch), .val (.int ch2), .val (.int bI), .val (.ref a), .unset, .unset, .unset, .unset, .unset] [(.int (5 : Int32))]))
  obtain ⟨T11, h11, k11, X11, e11, E11, A11, st11⟩ := newP (aty := .char) X0 hx hZ (wd_9 hw) e0 (g := (mkF m 44 #[.val (.int sel), .val (.int shape), .val (.int pos), .val (.int ch), .val (.int ch2), .val (.int bI), .val (.ref a), .unset, .unset, .unset, .unset, .unset] [(.int (5 : Int32))])) rfl (hb hby at_44) rfl (by decide) (cap := 5) (by decide) (by decide) (by decide) (by decide)
  obtain ⟨b11, g11⟩ : ∃ z, z = h0.size := ⟨_, rfl⟩
  rw [← g11] at A11 st11
  have sz_b11 : h0.size ≤ b11 := Nat.le_of_eq g11.symm
  have lt_a_b11 : a < b11 := Nat.lt_of_lt_of_le E_a.lt sz_b11
  have lt_u_b11 : u < b11 := Nat.lt_of_lt_of_le V_u.lt sz_b11
  have n0_b11 : n0 ≤ b11 := Nat.le_trans (own_n0 OL) sz_b11
  have V_b11 : Arv Z h11 b11 k11 .char (5 : Int32) [(.int (0 : Int32)), (.int (0 : Int32)), (.int (0 : Int32)), (.int (0 : Int32)), (.int (0 : Int32))] (.int (0 : Int32)) := (Arv.new A11 (by decide)).pad (pad_rep [] (.int (0 : Int32)) 5)
  have OL13 := OL.ext E11
  have hB13 := hB.ext E11
  refine own_up st11 ?_
  show OwnOk p e below _ (T11.setTop (mkF m 46 #[.val (.int sel), .val (.int shape), .val (.int pos), .val (.int ch), .val (.int ch2), .val (.int bI), .val (.ref a), .unset, .unset, .unset, .unset, .unset] [(.ref b11)]))
  refine own_up (fun tx kx => XS.astore X11.here hx rfl (hb hby at_46) rfl rfl (l' := #[.val (.int sel), .val (.int shape), .val (.int pos), .val (.int ch), .val (.int ch2), .val (.int bI), .val (.ref a), .val (.ref b11), .unset, .unset, .unset, .unset]) rfl kx) ?_
  show OwnOk p e below _ (T11.setTop (mkF m 48 #[.val (.int sel), .val (.int shape), .val (.int pos), .val (.int ch), .val (.int ch2), .val (.int bI), .val (.ref a), .val (.ref b11), .unset, .unset, .unset, .unset] []))
  refine own_up (fun tx kx => XS.aload X11.here hx rfl (hb hby at_48) rfl rfl kx) ?_
  show OwnOk p e below _ (T11.setTop (mkF m 50 #[.val (.int sel), .val (.int shape), .val (.int pos), .val (.int ch), .val (.int ch2), .val (.int bI), .val (.ref a), .val (.ref b11), .unset, .unset, .unset, .unset] [(.ref b11)]))
  refine own_up (fun tx kx => XS.iconst X11.here hx rfl (hb hby at_50) kx) ?_
  show OwnOk p e below _ (T11.setTop (mkF m 51 #[.val (.int sel), .val (.int shape), .val (.int pos), .val (.int ch), .val (.int ch2), .val (.int bI), .val (.ref a), .val (.ref b11), .unset, .unset, .unset, .unset] [(.int (0 : Int32)), (.ref b11)]))
  refine own_up (fun tx kx => XS.aload X11.here hx rfl (hb hby at_51) rfl rfl kx) ?_
  show OwnOk p e below _ (T11.setTop (mkF m 53 #[.val (.int sel), .val (.int shape), .val (.int pos), .val (.int ch), .val (.int ch2), .val (.int bI), .val (.ref a), .val (.ref b11), .unset, .unset, .unset, .unset] [(.ref a), (.int (0 : Int32)), (.ref b11)]))
  refine own_up (fun tx kx => XS.iconst X11.here hx rfl (hb hby at_53) kx) ?_
  show OwnOk p e below _ (T11.setTop (mkF m 54 #[.val (.int sel), .val (.int shape), .val (.int pos), .val (.int ch), .val (.int ch2), .val (.int bI), .val (.ref a), .val (.ref b11), .unset, .unset, .unset, .unset] [(.int (0 : Int32)), (.ref a), (.int (0 : Int32)), (.ref b11)]))
  refine own_up (fun tx kx => XS.iloadN X11.here hx rfl (hb hby at_54) rfl kx) ?_
  show OwnOk p e below _ (T11.setTop (mkF m 55 #[.val (.int sel), .val (.int shape), .val (.int pos), .val (.int ch), .val (.int ch2), .val (.int bI), .val (.ref a), .val (.ref b11), .unset, .unset, .unset, .unset] [(.int ch), (.int (0 : Int32)), (.ref a), (.int (0 : Int32)), (.ref b11)]))
  show OwnOk p e below _ (T11.setTop (mkF m 55 #[.val (.int sel), .val (.int shape), .val (.int pos), .val (.int ch), .val (.int ch2), .val (.int bI), .val (.ref a), .val (.ref b11), .unset, .unset, .unset, .unset] [(.int ch), (.int (Int32.ofNat 0)), (.ref a), (.int (0 : Int32)), (.ref b11)]))
  have E_a_14 := (E_a.ext E11)
  have F_value_a_15 := (F_value_a.ext E11)
  have F_coder_a_16 := (F_coder_a.ext E11)
  have V_u_17 := (V_u.ext E11)
  refine own_callS X11 hx hZ (y := (⟨"com/example/gridpost/gridpost/store/OperationKindFromWireNamePinLaw", "pick", "(Ljava/lang/String;II)C"⟩ : MethodName)) hown (wd_10 hw) (wd_11 hw) (wd_12 hw) (wd_13 hw) (by decide) (m_pick l Z a0 hw a u ku 5 g cz 0 ch fm hfm h11 n0 OL13 SC hcz SF E_a_14 F_value_a_15 F_coder_a_16 V_u_17 (by decide) (by decide)) e11 (argsL := [(.ref a), (.int (Int32.ofNat 0)), (.int ch)]) (rest := [(.int (0 : Int32)), (.ref b11)]) (by rw [hml]; rfl) (lenOf pd_14 rfl) rfl rfl (W := 2) rfl (hb hby at_55) (by decide) (by decide) (by decide) (by decide) (fun T18 v18 L18 X18 hQ18 => ?_)
  obtain ⟨cc18, rfl, hc18, Nq18, hh18⟩ := hQ18
  have N18 := Fr.app N0 Nq18
  show OwnOk p e below _ (T18.setTop (mkF m 58 #[.val (.int sel), .val (.int shape), .val (.int pos), .val (.int ch), .val (.int ch2), .val (.int bI), .val (.ref a), .val (.ref b11), .unset, .unset, .unset, .unset] [(.int cc18), (.int (0 : Int32)), (.ref b11)]))
  obtain ⟨cl19, Ar19, qc19, Sz19, Nn19, Hs19, Gf19⟩ := id V_b11
  have hin19 : ¬ ((0 : Int32) < 0 ∨ cl19.slots.size ≤ ((0 : Int32)).toNatClampNeg) := inb_of Sz19 ⟨by decide, by decide⟩
  obtain ⟨T20, h20, X20, e20, W20, st20⟩ := stC X18 hx hZ hh18 Ar19 (j := (0 : Int32)) hin19 (g := (mkF m 58 #[.val (.int sel), .val (.int shape), .val (.int pos), .val (.int ch), .val (.int ch2), .val (.int bI), .val (.ref a), .val (.ref b11), .unset, .unset, .unset, .unset] [(.int cc18), (.int (0 : Int32)), (.ref b11)])) rfl rfl (hb hby at_58)
  have V_b11_20 : Arv Z h20 b11 k11 .char (5 : Int32) [(.int (nar .char cc18)), (.int (0 : Int32)), (.int (0 : Int32)), (.int (0 : Int32)), (.int (0 : Int32))] (.int (0 : Int32)) := Arv.set Ar19 qc19 Sz19 Nn19 Hs19 Gf19 (fits_nar_char _) W20 0 rfl (Nat.le_of_ble_eq_true rfl)
  have N20 := Fr.snoc X20 N18 n0_b11
  have OL21 := OL13.wr W20 n0_b11
  have hB21 := hB13.wr W20 (Safe.arr hZ.alike Ar19 (by decide))
  refine own_up st20 ?_
  show OwnOk p e below _ (T20.setTop (mkF m 59 #[.val (.int sel), .val (.int shape), .val (.int pos), .val (.int ch), .val (.int ch2), .val (.int bI), .val (.ref a), .val (.ref b11), .unset, .unset, .unset, .unset] []))
  refine own_up (fun tx kx => XS.aload X20.here hx rfl (hb hby at_59) rfl rfl kx) ?_
  show OwnOk p e below _ (T20.setTop (mkF m 61 #[.val (.int sel), .val (.int shape), .val (.int pos), .val (.int ch), .val (.int ch2), .val (.int bI), .val (.ref a), .val (.ref b11), .unset, .unset, .unset, .unset] [(.ref b11)]))
  refine own_up (fun tx kx => XS.iconst X20.here hx rfl (hb hby at_61) kx) ?_
  show OwnOk p e below _ (T20.setTop (mkF m 62 #[.val (.int sel), .val (.int shape), .val (.int pos), .val (.int ch), .val (.int ch2), .val (.int bI), .val (.ref a), .val (.ref b11), .unset, .unset, .unset, .unset] [(.int (1 : Int32)), (.ref b11)]))
  refine own_up (fun tx kx => XS.aload X20.here hx rfl (hb hby at_62) rfl rfl kx) ?_
  show OwnOk p e below _ (T20.setTop (mkF m 64 #[.val (.int sel), .val (.int shape), .val (.int pos), .val (.int ch), .val (.int ch2), .val (.int bI), .val (.ref a), .val (.ref b11), .unset, .unset, .unset, .unset] [(.ref a), (.int (1 : Int32)), (.ref b11)]))
  refine own_up (fun tx kx => XS.iconst X20.here hx rfl (hb hby at_64) kx) ?_
  show OwnOk p e below _ (T20.setTop (mkF m 65 #[.val (.int sel), .val (.int shape), .val (.int pos), .val (.int ch), .val (.int ch2), .val (.int bI), .val (.ref a), .val (.ref b11), .unset, .unset, .unset, .unset] [(.int (1 : Int32)), (.ref a), (.int (1 : Int32)), (.ref b11)]))
  refine own_up (fun tx kx => XS.iloadN X20.here hx rfl (hb hby at_65) rfl kx) ?_
  show OwnOk p e below _ (T20.setTop (mkF m 66 #[.val (.int sel), .val (.int shape), .val (.int pos), .val (.int ch), .val (.int ch2), .val (.int bI), .val (.ref a), .val (.ref b11), .unset, .unset, .unset, .unset] [(.int ch), (.int (1 : Int32)), (.ref a), (.int (1 : Int32)), (.ref b11)]))
  refine own_up (fun tx kx => XS.bipush X20.here hx rfl (hb hby at_66) kx) ?_
  show OwnOk p e below _ (T20.setTop (mkF m 68 #[.val (.int sel), .val (.int shape), .val (.int pos), .val (.int ch), .val (.int ch2), .val (.int bI), .val (.ref a), .val (.ref b11), .unset, .unset, .unset, .unset] [(.int (8 : Int32)), (.int ch), (.int (1 : Int32)), (.ref a), (.int (1 : Int32)), (.ref b11)]))
  refine own_up (fun tx kx => XS.iushr X20.here hx rfl (hb hby at_68) rfl kx) ?_
  show OwnOk p e below _ (T20.setTop (mkF m 69 #[.val (.int sel), .val (.int shape), .val (.int pos), .val (.int ch), .val (.int ch2), .val (.int bI), .val (.ref a), .val (.ref b11), .unset, .unset, .unset, .unset] [(.int ((ch.toUInt32 >>> ((8 : Int32) &&& 31).toUInt32).toInt32)), (.int (1 : Int32)), (.ref a), (.int (1 : Int32)), (.ref b11)]))
  show OwnOk p e below _ (T20.setTop (mkF m 69 #[.val (.int sel), .val (.int shape), .val (.int pos), .val (.int ch), .val (.int ch2), .val (.int bI), .val (.ref a), .val (.ref b11), .unset, .unset, .unset, .unset] [(.int ((ch.toUInt32 >>> ((8 : Int32) &&& 31).toUInt32).toInt32)), (.int (Int32.ofNat 1)), (.ref a), (.int (1 : Int32)), (.ref b11)]))
  have E_a_22 := (E_a_14.wr W20)
  have F_value_a_23 := (F_value_a_15.other W20 (Or.inl (Nat.ne_of_lt lt_a_b11)))
  have F_coder_a_24 := (F_coder_a_16.other W20 (Or.inl (Nat.ne_of_lt lt_a_b11)))
  have V_u_25 := (V_u_17.other W20 (Nat.ne_of_lt lt_u_b11))
  refine own_callS X20 hx hZ (y := (⟨"com/example/gridpost/gridpost/store/OperationKindFromWireNamePinLaw", "pick", "(Ljava/lang/String;II)C"⟩ : MethodName)) hown (wd_10 hw) (wd_11 hw) (wd_12 hw) (wd_13 hw) (by decide) (m_pick l Z a0 hw a u ku 5 g cz 1 ((ch.toUInt32 >>> ((8 : Int32) &&& 31).toUInt32).toInt32) fm hfm h20 n0 OL21 SC hcz SF E_a_22 F_value_a_23 F_coder_a_24 V_u_25 (by decide) (by decide)) e20 (argsL := [(.ref a), (.int (Int32.ofNat 1)), (.int ((ch.toUInt32 >>> ((8 : Int32) &&& 31).toUInt32).toInt32))]) (rest := [(.int (1 : Int32)), (.ref b11)]) (by rw [hml]; rfl) (lenOf pd_14 rfl) rfl rfl (W := 2) rfl (hb hby at_69) (by decide) (by decide) (by decide) (by decide) (fun T26 v26 L26 X26 hQ26 => ?_)
  obtain ⟨cc26, rfl, hc26, Nq26, hh26⟩ := hQ26
  have N26 := Fr.app N20 Nq26
  show OwnOk p e below _ (T26.setTop (mkF m 72 #[.val (.int sel), .val (.int shape), .val (.int pos), .val (.int ch), .val (.int ch2), .val (.int bI), .val (.ref a), .val (.ref b11), .unset, .unset, .unset, .unset] [(.int cc26), (.int (1 : Int32)), (.ref b11)]))
  obtain ⟨cl27, Ar27, qc27, Sz27, Nn27, Hs27, Gf27⟩ := id V_b11_20
  have hin27 : ¬ ((1 : Int32) < 0 ∨ cl27.slots.size ≤ ((1 : Int32)).toNatClampNeg) := inb_of Sz27 ⟨by decide, by decide⟩
  obtain ⟨T28, h28, X28, e28, W28, st28⟩ := stC X26 hx hZ hh26 Ar27 (j := (1 : Int32)) hin27 (g := (mkF m 72 #[.val (.int sel), .val (.int shape), .val (.int pos), .val (.int ch), .val (.int ch2), .val (.int bI), .val (.ref a), .val (.ref b11), .unset, .unset, .unset, .unset] [(.int cc26), (.int (1 : Int32)), (.ref b11)])) rfl rfl (hb hby at_72)
  have V_b11_28 : Arv Z h28 b11 k11 .char (5 : Int32) [(.int (nar .char cc18)), (.int (nar .char cc26)), (.int (0 : Int32)), (.int (0 : Int32)), (.int (0 : Int32))] (.int (0 : Int32)) := Arv.set Ar27 qc27 Sz27 Nn27 Hs27 Gf27 (fits_nar_char _) W28 1 rfl (Nat.le_of_ble_eq_true rfl)
  have N28 := Fr.snoc X28 N26 n0_b11
  have OL29 := OL21.wr W28 n0_b11
  have hB29 := hB21.wr W28 (Safe.arr hZ.alike Ar27 (by decide))
  refine own_up st28 ?_
  show OwnOk p e below _ (T28.setTop (mkF m 73 #[.val (.int sel), .val (.int shape), .val (.int pos), .val (.int ch), .val (.int ch2), .val (.int bI), .val (.ref a), .val (.ref b11), .unset, .unset, .unset, .unset] []))
  refine own_up (fun tx kx => XS.aload X28.here hx rfl (hb hby at_73) rfl rfl kx) ?_
  show OwnOk p e below _ (T28.setTop (mkF m 75 #[.val (.int sel), .val (.int shape), .val (.int pos), .val (.int ch), .val (.int ch2), .val (.int bI), .val (.ref a), .val (.ref b11), .unset, .unset, .unset, .unset] [(.ref b11)]))
  refine own_up (fun tx kx => XS.iconst X28.here hx rfl (hb hby at_75) kx) ?_
  show OwnOk p e below _ (T28.setTop (mkF m 76 #[.val (.int sel), .val (.int shape), .val (.int pos), .val (.int ch), .val (.int ch2), .val (.int bI), .val (.ref a), .val (.ref b11), .unset, .unset, .unset, .unset] [(.int (2 : Int32)), (.ref b11)]))
  refine own_up (fun tx kx => XS.aload X28.here hx rfl (hb hby at_76) rfl rfl kx) ?_
  show OwnOk p e below _ (T28.setTop (mkF m 78 #[.val (.int sel), .val (.int shape), .val (.int pos), .val (.int ch), .val (.int ch2), .val (.int bI), .val (.ref a), .val (.ref b11), .unset, .unset, .unset, .unset] [(.ref a), (.int (2 : Int32)), (.ref b11)]))
  refine own_up (fun tx kx => XS.iconst X28.here hx rfl (hb hby at_78) kx) ?_
  show OwnOk p e below _ (T28.setTop (mkF m 79 #[.val (.int sel), .val (.int shape), .val (.int pos), .val (.int ch), .val (.int ch2), .val (.int bI), .val (.ref a), .val (.ref b11), .unset, .unset, .unset, .unset] [(.int (2 : Int32)), (.ref a), (.int (2 : Int32)), (.ref b11)]))
  refine own_up (fun tx kx => XS.iloadN X28.here hx rfl (hb hby at_79) rfl kx) ?_
  show OwnOk p e below _ (T28.setTop (mkF m 80 #[.val (.int sel), .val (.int shape), .val (.int pos), .val (.int ch), .val (.int ch2), .val (.int bI), .val (.ref a), .val (.ref b11), .unset, .unset, .unset, .unset] [(.int ch), (.int (2 : Int32)), (.ref a), (.int (2 : Int32)), (.ref b11)]))
  refine own_up (fun tx kx => XS.bipush X28.here hx rfl (hb hby at_80) kx) ?_
  show OwnOk p e below _ (T28.setTop (mkF m 82 #[.val (.int sel), .val (.int shape), .val (.int pos), .val (.int ch), .val (.int ch2), .val (.int bI), .val (.ref a), .val (.ref b11), .unset, .unset, .unset, .unset] [(.int (16 : Int32)), (.int ch), (.int (2 : Int32)), (.ref a), (.int (2 : Int32)), (.ref b11)]))
  refine own_up (fun tx kx => XS.iushr X28.here hx rfl (hb hby at_82) rfl kx) ?_
  show OwnOk p e below _ (T28.setTop (mkF m 83 #[.val (.int sel), .val (.int shape), .val (.int pos), .val (.int ch), .val (.int ch2), .val (.int bI), .val (.ref a), .val (.ref b11), .unset, .unset, .unset, .unset] [(.int ((ch.toUInt32 >>> ((16 : Int32) &&& 31).toUInt32).toInt32)), (.int (2 : Int32)), (.ref a), (.int (2 : Int32)), (.ref b11)]))
  show OwnOk p e below _ (T28.setTop (mkF m 83 #[.val (.int sel), .val (.int shape), .val (.int pos), .val (.int ch), .val (.int ch2), .val (.int bI), .val (.ref a), .val (.ref b11), .unset, .unset, .unset, .unset] [(.int ((ch.toUInt32 >>> ((16 : Int32) &&& 31).toUInt32).toInt32)), (.int (Int32.ofNat 2)), (.ref a), (.int (2 : Int32)), (.ref b11)]))
  have E_a_30 := (E_a_22.wr W28)
  have F_value_a_31 := (F_value_a_23.other W28 (Or.inl (Nat.ne_of_lt lt_a_b11)))
  have F_coder_a_32 := (F_coder_a_24.other W28 (Or.inl (Nat.ne_of_lt lt_a_b11)))
  have V_u_33 := (V_u_25.other W28 (Nat.ne_of_lt lt_u_b11))
  refine own_callS X28 hx hZ (y := (⟨"com/example/gridpost/gridpost/store/OperationKindFromWireNamePinLaw", "pick", "(Ljava/lang/String;II)C"⟩ : MethodName)) hown (wd_10 hw) (wd_11 hw) (wd_12 hw) (wd_13 hw) (by decide) (m_pick l Z a0 hw a u ku 5 g cz 2 ((ch.toUInt32 >>> ((16 : Int32) &&& 31).toUInt32).toInt32) fm hfm h28 n0 OL29 SC hcz SF E_a_30 F_value_a_31 F_coder_a_32 V_u_33 (by decide) (by decide)) e28 (argsL := [(.ref a), (.int (Int32.ofNat 2)), (.int ((ch.toUInt32 >>> ((16 : Int32) &&& 31).toUInt32).toInt32))]) (rest := [(.int (2 : Int32)), (.ref b11)]) (by rw [hml]; rfl) (lenOf pd_14 rfl) rfl rfl (W := 2) rfl (hb hby at_83) (by decide) (by decide) (by decide) (by decide) (fun T34 v34 L34 X34 hQ34 => ?_)
  obtain ⟨cc34, rfl, hc34, Nq34, hh34⟩ := hQ34
  have N34 := Fr.app N28 Nq34
  show OwnOk p e below _ (T34.setTop (mkF m 86 #[.val (.int sel), .val (.int shape), .val (.int pos), .val (.int ch), .val (.int ch2), .val (.int bI), .val (.ref a), .val (.ref b11), .unset, .unset, .unset, .unset] [(.int cc34), (.int (2 : Int32)), (.ref b11)]))
  obtain ⟨cl35, Ar35, qc35, Sz35, Nn35, Hs35, Gf35⟩ := id V_b11_28
  have hin35 : ¬ ((2 : Int32) < 0 ∨ cl35.slots.size ≤ ((2 : Int32)).toNatClampNeg) := inb_of Sz35 ⟨by decide, by decide⟩
  obtain ⟨T36, h36, X36, e36, W36, st36⟩ := stC X34 hx hZ hh34 Ar35 (j := (2 : Int32)) hin35 (g := (mkF m 86 #[.val (.int sel), .val (.int shape), .val (.int pos), .val (.int ch), .val (.int ch2), .val (.int bI), .val (.ref a), .val (.ref b11), .unset, .unset, .unset, .unset] [(.int cc34), (.int (2 : Int32)), (.ref b11)])) rfl rfl (hb hby at_86)
  have V_b11_36 : Arv Z h36 b11 k11 .char (5 : Int32) [(.int (nar .char cc18)), (.int (nar .char cc26)), (.int (nar .char cc34)), (.int (0 : Int32)), (.int (0 : Int32))] (.int (0 : Int32)) := Arv.set Ar35 qc35 Sz35 Nn35 Hs35 Gf35 (fits_nar_char _) W36 2 rfl (Nat.le_of_ble_eq_true rfl)
  have N36 := Fr.snoc X36 N34 n0_b11
  have OL37 := OL29.wr W36 n0_b11
  have hB37 := hB29.wr W36 (Safe.arr hZ.alike Ar35 (by decide))
  refine own_up st36 ?_
  show OwnOk p e below _ (T36.setTop (mkF m 87 #[.val (.int sel), .val (.int shape), .val (.int pos), .val (.int ch), .val (.int ch2), .val (.int bI), .val (.ref a), .val (.ref b11), .unset, .unset, .unset, .unset] []))
  refine own_up (fun tx kx => XS.aload X36.here hx rfl (hb hby at_87) rfl rfl kx) ?_
  show OwnOk p e below _ (T36.setTop (mkF m 89 #[.val (.int sel), .val (.int shape), .val (.int pos), .val (.int ch), .val (.int ch2), .val (.int bI), .val (.ref a), .val (.ref b11), .unset, .unset, .unset, .unset] [(.ref b11)]))
  refine own_up (fun tx kx => XS.iconst X36.here hx rfl (hb hby at_89) kx) ?_
  show OwnOk p e below _ (T36.setTop (mkF m 90 #[.val (.int sel), .val (.int shape), .val (.int pos), .val (.int ch), .val (.int ch2), .val (.int bI), .val (.ref a), .val (.ref b11), .unset, .unset, .unset, .unset] [(.int (3 : Int32)), (.ref b11)]))
  refine own_up (fun tx kx => XS.aload X36.here hx rfl (hb hby at_90) rfl rfl kx) ?_
  show OwnOk p e below _ (T36.setTop (mkF m 92 #[.val (.int sel), .val (.int shape), .val (.int pos), .val (.int ch), .val (.int ch2), .val (.int bI), .val (.ref a), .val (.ref b11), .unset, .unset, .unset, .unset] [(.ref a), (.int (3 : Int32)), (.ref b11)]))
  refine own_up (fun tx kx => XS.iconst X36.here hx rfl (hb hby at_92) kx) ?_
  show OwnOk p e below _ (T36.setTop (mkF m 93 #[.val (.int sel), .val (.int shape), .val (.int pos), .val (.int ch), .val (.int ch2), .val (.int bI), .val (.ref a), .val (.ref b11), .unset, .unset, .unset, .unset] [(.int (3 : Int32)), (.ref a), (.int (3 : Int32)), (.ref b11)]))
  refine own_up (fun tx kx => XS.iloadN X36.here hx rfl (hb hby at_93) rfl kx) ?_
  show OwnOk p e below _ (T36.setTop (mkF m 94 #[.val (.int sel), .val (.int shape), .val (.int pos), .val (.int ch), .val (.int ch2), .val (.int bI), .val (.ref a), .val (.ref b11), .unset, .unset, .unset, .unset] [(.int ch), (.int (3 : Int32)), (.ref a), (.int (3 : Int32)), (.ref b11)]))
  refine own_up (fun tx kx => XS.bipush X36.here hx rfl (hb hby at_94) kx) ?_
  show OwnOk p e below _ (T36.setTop (mkF m 96 #[.val (.int sel), .val (.int shape), .val (.int pos), .val (.int ch), .val (.int ch2), .val (.int bI), .val (.ref a), .val (.ref b11), .unset, .unset, .unset, .unset] [(.int (24 : Int32)), (.int ch), (.int (3 : Int32)), (.ref a), (.int (3 : Int32)), (.ref b11)]))
  refine own_up (fun tx kx => XS.iushr X36.here hx rfl (hb hby at_96) rfl kx) ?_
  show OwnOk p e below _ (T36.setTop (mkF m 97 #[.val (.int sel), .val (.int shape), .val (.int pos), .val (.int ch), .val (.int ch2), .val (.int bI), .val (.ref a), .val (.ref b11), .unset, .unset, .unset, .unset] [(.int ((ch.toUInt32 >>> ((24 : Int32) &&& 31).toUInt32).toInt32)), (.int (3 : Int32)), (.ref a), (.int (3 : Int32)), (.ref b11)]))
  show OwnOk p e below _ (T36.setTop (mkF m 97 #[.val (.int sel), .val (.int shape), .val (.int pos), .val (.int ch), .val (.int ch2), .val (.int bI), .val (.ref a), .val (.ref b11), .unset, .unset, .unset, .unset] [(.int ((ch.toUInt32 >>> ((24 : Int32) &&& 31).toUInt32).toInt32)), (.int (Int32.ofNat 3)), (.ref a), (.int (3 : Int32)), (.ref b11)]))
  have E_a_38 := (E_a_30.wr W36)
  have F_value_a_39 := (F_value_a_31.other W36 (Or.inl (Nat.ne_of_lt lt_a_b11)))
  have F_coder_a_40 := (F_coder_a_32.other W36 (Or.inl (Nat.ne_of_lt lt_a_b11)))
  have V_u_41 := (V_u_33.other W36 (Nat.ne_of_lt lt_u_b11))
  refine own_callS X36 hx hZ (y := (⟨"com/example/gridpost/gridpost/store/OperationKindFromWireNamePinLaw", "pick", "(Ljava/lang/String;II)C"⟩ : MethodName)) hown (wd_10 hw) (wd_11 hw) (wd_12 hw) (wd_13 hw) (by decide) (m_pick l Z a0 hw a u ku 5 g cz 3 ((ch.toUInt32 >>> ((24 : Int32) &&& 31).toUInt32).toInt32) fm hfm h36 n0 OL37 SC hcz SF E_a_38 F_value_a_39 F_coder_a_40 V_u_41 (by decide) (by decide)) e36 (argsL := [(.ref a), (.int (Int32.ofNat 3)), (.int ((ch.toUInt32 >>> ((24 : Int32) &&& 31).toUInt32).toInt32))]) (rest := [(.int (3 : Int32)), (.ref b11)]) (by rw [hml]; rfl) (lenOf pd_14 rfl) rfl rfl (W := 2) rfl (hb hby at_97) (by decide) (by decide) (by decide) (by decide) (fun T42 v42 L42 X42 hQ42 => ?_)
  obtain ⟨cc42, rfl, hc42, Nq42, hh42⟩ := hQ42
  have N42 := Fr.app N36 Nq42
  show OwnOk p e below _ (T42.setTop (mkF m 100 #[.val (.int sel), .val (.int shape), .val (.int pos), .val (.int ch), .val (.int ch2), .val (.int bI), .val (.ref a), .val (.ref b11), .unset, .unset, .unset, .unset] [(.int cc42), (.int (3 : Int32)), (.ref b11)]))
  obtain ⟨cl43, Ar43, qc43, Sz43, Nn43, Hs43, Gf43⟩ := id V_b11_36
  have hin43 : ¬ ((3 : Int32) < 0 ∨ cl43.slots.size ≤ ((3 : Int32)).toNatClampNeg) := inb_of Sz43 ⟨by decide, by decide⟩
  obtain ⟨T44, h44, X44, e44, W44, st44⟩ := stC X42 hx hZ hh42 Ar43 (j := (3 : Int32)) hin43 (g := (mkF m 100 #[.val (.int sel), .val (.int shape), .val (.int pos), .val (.int ch), .val (.int ch2), .val (.int bI), .val (.ref a), .val (.ref b11), .unset, .unset, .unset, .unset] [(.int cc42), (.int (3 : Int32)), (.ref b11)])) rfl rfl (hb hby at_100)
  have V_b11_44 : Arv Z h44 b11 k11 .char (5 : Int32) [(.int (nar .char cc18)), (.int (nar .char cc26)), (.int (nar .char cc34)), (.int (nar .char cc42)), (.int (0 : Int32))] (.int (0 : Int32)) := Arv.set Ar43 qc43 Sz43 Nn43 Hs43 Gf43 (fits_nar_char _) W44 3 rfl (Nat.le_of_ble_eq_true rfl)
  have N44 := Fr.snoc X44 N42 n0_b11
  have OL45 := OL37.wr W44 n0_b11
  have hB45 := hB37.wr W44 (Safe.arr hZ.alike Ar43 (by decide))
  refine own_up st44 ?_
  show OwnOk p e below _ (T44.setTop (mkF m 101 #[.val (.int sel), .val (.int shape), .val (.int pos), .val (.int ch), .val (.int ch2), .val (.int bI), .val (.ref a), .val (.ref b11), .unset, .unset, .unset, .unset] []))
  refine own_up (fun tx kx => XS.aload X44.here hx rfl (hb hby at_101) rfl rfl kx) ?_
  show OwnOk p e below _ (T44.setTop (mkF m 103 #[.val (.int sel), .val (.int shape), .val (.int pos), .val (.int ch), .val (.int ch2), .val (.int bI), .val (.ref a), .val (.ref b11), .unset, .unset, .unset, .unset] [(.ref b11)]))
  refine own_up (fun tx kx => XS.iconst X44.here hx rfl (hb hby at_103) kx) ?_
  show OwnOk p e below _ (T44.setTop (mkF m 104 #[.val (.int sel), .val (.int shape), .val (.int pos), .val (.int ch), .val (.int ch2), .val (.int bI), .val (.ref a), .val (.ref b11), .unset, .unset, .unset, .unset] [(.int (4 : Int32)), (.ref b11)]))
  refine own_up (fun tx kx => XS.aload X44.here hx rfl (hb hby at_104) rfl rfl kx) ?_
  show OwnOk p e below _ (T44.setTop (mkF m 106 #[.val (.int sel), .val (.int shape), .val (.int pos), .val (.int ch), .val (.int ch2), .val (.int bI), .val (.ref a), .val (.ref b11), .unset, .unset, .unset, .unset] [(.ref a), (.int (4 : Int32)), (.ref b11)]))
  refine own_up (fun tx kx => XS.iconst X44.here hx rfl (hb hby at_106) kx) ?_
  show OwnOk p e below _ (T44.setTop (mkF m 107 #[.val (.int sel), .val (.int shape), .val (.int pos), .val (.int ch), .val (.int ch2), .val (.int bI), .val (.ref a), .val (.ref b11), .unset, .unset, .unset, .unset] [(.int (4 : Int32)), (.ref a), (.int (4 : Int32)), (.ref b11)]))
  refine own_up (fun tx kx => XS.iload X44.here hx rfl (hb hby at_107) rfl kx) ?_
  show OwnOk p e below _ (T44.setTop (mkF m 109 #[.val (.int sel), .val (.int shape), .val (.int pos), .val (.int ch), .val (.int ch2), .val (.int bI), .val (.ref a), .val (.ref b11), .unset, .unset, .unset, .unset] [(.int ch2), (.int (4 : Int32)), (.ref a), (.int (4 : Int32)), (.ref b11)]))
  show OwnOk p e below _ (T44.setTop (mkF m 109 #[.val (.int sel), .val (.int shape), .val (.int pos), .val (.int ch), .val (.int ch2), .val (.int bI), .val (.ref a), .val (.ref b11), .unset, .unset, .unset, .unset] [(.int ch2), (.int (Int32.ofNat 4)), (.ref a), (.int (4 : Int32)), (.ref b11)]))
  have E_a_46 := (E_a_38.wr W44)
  have F_value_a_47 := (F_value_a_39.other W44 (Or.inl (Nat.ne_of_lt lt_a_b11)))
  have F_coder_a_48 := (F_coder_a_40.other W44 (Or.inl (Nat.ne_of_lt lt_a_b11)))
  have V_u_49 := (V_u_41.other W44 (Nat.ne_of_lt lt_u_b11))
  refine own_callS X44 hx hZ (y := (⟨"com/example/gridpost/gridpost/store/OperationKindFromWireNamePinLaw", "pick", "(Ljava/lang/String;II)C"⟩ : MethodName)) hown (wd_10 hw) (wd_11 hw) (wd_12 hw) (wd_13 hw) (by decide) (m_pick l Z a0 hw a u ku 5 g cz 4 ch2 fm hfm h44 n0 OL45 SC hcz SF E_a_46 F_value_a_47 F_coder_a_48 V_u_49 (by decide) (by decide)) e44 (argsL := [(.ref a), (.int (Int32.ofNat 4)), (.int ch2)]) (rest := [(.int (4 : Int32)), (.ref b11)]) (by rw [hml]; rfl) (lenOf pd_14 rfl) rfl rfl (W := 2) rfl (hb hby at_109) (by decide) (by decide) (by decide) (by decide) (fun T50 v50 L50 X50 hQ50 => ?_)
  obtain ⟨cc50, rfl, hc50, Nq50, hh50⟩ := hQ50
  have N50 := Fr.app N44 Nq50
  show OwnOk p e below _ (T50.setTop (mkF m 112 #[.val (.int sel), .val (.int shape), .val (.int pos), .val (.int ch), .val (.int ch2), .val (.int bI), .val (.ref a), .val (.ref b11), .unset, .unset, .unset, .unset] [(.int cc50), (.int (4 : Int32)), (.ref b11)]))
  obtain ⟨cl51, Ar51, qc51, Sz51, Nn51, Hs51, Gf51⟩ := id V_b11_44
  have hin51 : ¬ ((4 : Int32) < 0 ∨ cl51.slots.size ≤ ((4 : Int32)).toNatClampNeg) := inb_of Sz51 ⟨by decide, by decide⟩
  obtain ⟨T52, h52, X52, e52, W52, st52⟩ := stC X50 hx hZ hh50 Ar51 (j := (4 : Int32)) hin51 (g := (mkF m 112 #[.val (.int sel), .val (.int shape), .val (.int pos), .val (.int ch), .val (.int ch2), .val (.int bI), .val (.ref a), .val (.ref b11), .unset, .unset, .unset, .unset] [(.int cc50), (.int (4 : Int32)), (.ref b11)])) rfl rfl (hb hby at_112)
  have V_b11_52 : Arv Z h52 b11 k11 .char (5 : Int32) [(.int (nar .char cc18)), (.int (nar .char cc26)), (.int (nar .char cc34)), (.int (nar .char cc42)), (.int (nar .char cc50))] (.int (0 : Int32)) := Arv.set Ar51 qc51 Sz51 Nn51 Hs51 Gf51 (fits_nar_char _) W52 4 rfl (Nat.le_of_ble_eq_true rfl)
  have N52 := Fr.snoc X52 N50 n0_b11
  have OL53 := OL45.wr W52 n0_b11
  have hB53 := hB45.wr W52 (Safe.arr hZ.alike Ar51 (by decide))
  refine own_up st52 ?_
  show OwnOk p e below _ (T52.setTop (mkF m 113 #[.val (.int sel), .val (.int shape), .val (.int pos), .val (.int ch), .val (.int ch2), .val (.int bI), .val (.ref a), .val (.ref b11), .unset, .unset, .unset, .unset] []))
  refine own_up (fun tx kx => XS.iloadN X52.here hx rfl (hb hby at_113) rfl kx) ?_
  show OwnOk p e below _ (T52.setTop (mkF m 114 #[.val (.int sel), .val (.int shape), .val (.int pos), .val (.int ch), .val (.int ch2), .val (.int bI), .val (.ref a), .val (.ref b11), .unset, .unset, .unset, .unset] [(.int pos)]))
  refine own_up (fun tx kx => X52.ldcInt hx hown (mvT hZ (wd_0 hw)) (g := (mkF m 114 #[.val (.int sel), .val (.int shape), .val (.int pos), .val (.int ch), .val (.int ch2), .val (.int bI), .val (.ref a), .val (.ref b11), .unset, .unset, .unset, .unset] [(.int pos)])) rfl (hb hby at_114) _ kx) ?_
  show OwnOk p e below _ (T52.setTop (mkF m 116 #[.val (.int sel), .val (.int shape), .val (.int pos), .val (.int ch), .val (.int ch2), .val (.int bI), .val (.ref a), .val (.ref b11), .unset, .unset, .unset, .unset] [(.int (2147483647 : Int32)), (.int pos)]))
  refine own_up (fun tx kx => XS.iand X52.here hx rfl (hb hby at_116) rfl kx) ?_
  show OwnOk p e below _ (T52.setTop (mkF m 117 #[.val (.int sel), .val (.int shape), .val (.int pos), .val (.int ch), .val (.int ch2), .val (.int bI), .val (.ref a), .val (.ref b11), .unset, .unset, .unset, .unset] [(.int (pos &&& (2147483647 : Int32)))]))
  refine own_up (fun tx kx => XS.bipush X52.here hx rfl (hb hby at_117) kx) ?_
  show OwnOk p e below _ (T52.setTop (mkF m 119 #[.val (.int sel), .val (.int shape), .val (.int pos), .val (.int ch), .val (.int ch2), .val (.int bI), .val (.ref a), .val (.ref b11), .unset, .unset, .unset, .unset] [(.int (10 : Int32)), (.int (pos &&& (2147483647 : Int32)))]))
  refine own_up (fun tx kx => Jvm.RoadKit.iremM (g := (mkF m 119 #[.val (.int sel), .val (.int shape), .val (.int pos), .val (.int ch), .val (.int ch2), .val (.int bI), .val (.ref a), .val (.ref b11), .unset, .unset, .unset, .unset] [(.int (10 : Int32)), (.int (pos &&& (2147483647 : Int32)))])) X52 hx rfl (hb hby at_119) rfl (by decide) kx) ?_
  show OwnOk p e below _ (T52.setTop (mkF m 120 #[.val (.int sel), .val (.int shape), .val (.int pos), .val (.int ch), .val (.int ch2), .val (.int bI), .val (.ref a), .val (.ref b11), .unset, .unset, .unset, .unset] [(.int ((pos &&& (2147483647 : Int32)) % (10 : Int32)))]))
  obtain ⟨mi, hmi, emi⟩ := own_idx pos 10 (by decide) (by decide)
  have emi : (pos &&& (2147483647 : Int32)) % (10 : Int32) = Int32.ofNat mi := emi
  rw [emi]
  show OwnOk p e below _ (T52.setTop (mkF m 120 #[.val (.int sel), .val (.int shape), .val (.int pos), .val (.int ch), .val (.int ch2), .val (.int bI), .val (.ref a), .val (.ref b11), .unset, .unset, .unset, .unset] [(.int (Int32.ofNat mi))]))
  refine own_up (fun tx kx => XS.istore X52.here hx rfl (hb hby at_120) rfl (l' := #[.val (.int sel), .val (.int shape), .val (.int pos), .val (.int ch), .val (.int ch2), .val (.int bI), .val (.ref a), .val (.ref b11), .val (.int (Int32.ofNat mi)), .unset, .unset, .unset]) rfl kx) ?_
  show OwnOk p e below _ (T52.setTop (mkF m 122 #[.val (.int sel), .val (.int shape), .val (.int pos), .val (.int ch), .val (.int ch2), .val (.int bI), .val (.ref a), .val (.ref b11), .val (.int (Int32.ofNat mi)), .unset, .unset, .unset] []))
  refine own_up (fun tx kx => XS.iload X52.here hx rfl (hb hby at_122) rfl kx) ?_
  show OwnOk p e below _ (T52.setTop (mkF m 124 #[.val (.int sel), .val (.int shape), .val (.int pos), .val (.int ch), .val (.int ch2), .val (.int bI), .val (.ref a), .val (.ref b11), .val (.int (Int32.ofNat mi)), .unset, .unset, .unset] [(.int (Int32.ofNat mi))]))
  refine own_up (fun tx kx => XS.iconst X52.here hx rfl (hb hby at_124) kx) ?_
  show OwnOk p e below _ (T52.setTop (mkF m 125 #[.val (.int sel), .val (.int shape), .val (.int pos), .val (.int ch), .val (.int ch2), .val (.int bI), .val (.ref a), .val (.ref b11), .val (.int (Int32.ofNat mi)), .unset, .unset, .unset] [(.int (5 : Int32)), (.int (Int32.ofNat mi))]))
  by_cases h5 : (Int32.ofNat mi) < (5 : Int32)
  · refine own_up (fun tx kx => XS.icmpNo X52.here hx rfl (hb hby at_125) rfl (tlt h5).2.1 kx) ?_
    show OwnOk p e below _ (T52.setTop (mkF m 128 #[.val (.int sel), .val (.int shape), .val (.int pos), .val (.int ch), .val (.int ch2), .val (.int bI), .val (.ref a), .val (.ref b11), .val (.int (Int32.ofNat mi)), .unset, .unset, .unset] []))
    have hm5 : mi < 5 := Nat.lt_of_not_le fun q => own_nlt (i := 5) q (by omega) h5
    have hm : mi = 0 ∨ mi = 1 ∨ mi = 2 ∨ mi = 3 ∨ mi = 4 := by omega
    rcases hm with rfl | rfl | rfl | rfl | rfl
    · show OwnOk p e below _ (T52.setTop (mkF m 128 #[.val (.int sel), .val (.int shape), .val (.int pos), .val (.int ch), .val (.int ch2), .val (.int bI), .val (.ref a), .val (.ref b11), .val (.int (0 : Int32)), .unset, .unset, .unset] []))
      refine own_up (fun tx kx => XS.aload X52.here hx rfl (hb hby at_128) rfl rfl kx) ?_
      show OwnOk p e below _ (T52.setTop (mkF m 130 #[.val (.int sel), .val (.int shape), .val (.int pos), .val (.int ch), .val (.int ch2), .val (.int bI), .val (.ref a), .val (.ref b11), .val (.int (0 : Int32)), .unset, .unset, .unset] [(.ref b11)]))
      refine own_up (fun tx kx => XS.iload X52.here hx rfl (hb hby at_130) rfl kx) ?_
      show OwnOk p e below _ (T52.setTop (mkF m 132 #[.val (.int sel), .val (.int shape), .val (.int pos), .val (.int ch), .val (.int ch2), .val (.int bI), .val (.ref a), .val (.ref b11), .val (.int (0 : Int32)), .unset, .unset, .unset] [(.int (0 : Int32)), (.ref b11)]))
      refine own_up (fun tx kx => XS.iload X52.here hx rfl (hb hby at_132) rfl kx) ?_
      show OwnOk p e below _ (T52.setTop (mkF m 134 #[.val (.int sel), .val (.int shape), .val (.int pos), .val (.int ch), .val (.int ch2), .val (.int bI), .val (.ref a), .val (.ref b11), .val (.int (0 : Int32)), .unset, .unset, .unset] [(.int ch2), (.int (0 : Int32)), (.ref b11)]))
      refine own_up (fun tx kx => XS.bipush X52.here hx rfl (hb hby at_134) kx) ?_
      show OwnOk p e below _ (T52.setTop (mkF m 136 #[.val (.int sel), .val (.int shape), .val (.int pos), .val (.int ch), .val (.int ch2), .val (.int bI), .val (.ref a), .val (.ref b11), .val (.int (0 : Int32)), .unset, .unset, .unset] [(.int (8 : Int32)), (.int ch2), (.int (0 : Int32)), (.ref b11)]))
      refine own_up (fun tx kx => XS.iushr X52.here hx rfl (hb hby at_136) rfl kx) ?_
      show OwnOk p e below _ (T52.setTop (mkF m 137 #[.val (.int sel), .val (.int shape), .val (.int pos), .val (.int ch), .val (.int ch2), .val (.int bI), .val (.ref a), .val (.ref b11), .val (.int (0 : Int32)), .unset, .unset, .unset] [(.int ((ch2.toUInt32 >>> ((8 : Int32) &&& 31).toUInt32).toInt32)), (.int (0 : Int32)), (.ref b11)]))
      refine own_up (fun tx kx => XS.sipush X52.here hx rfl (hb hby at_137) kx) ?_
      show OwnOk p e below _ (T52.setTop (mkF m 140 #[.val (.int sel), .val (.int shape), .val (.int pos), .val (.int ch), .val (.int ch2), .val (.int bI), .val (.ref a), .val (.ref b11), .val (.int (0 : Int32)), .unset, .unset, .unset] [(.int (255 : Int32)), (.int ((ch2.toUInt32 >>> ((8 : Int32) &&& 31).toUInt32).toInt32)), (.int (0 : Int32)), (.ref b11)]))
      refine own_up (fun tx kx => XS.iand X52.here hx rfl (hb hby at_140) rfl kx) ?_
      show OwnOk p e below _ (T52.setTop (mkF m 141 #[.val (.int sel), .val (.int shape), .val (.int pos), .val (.int ch), .val (.int ch2), .val (.int bI), .val (.ref a), .val (.ref b11), .val (.int (0 : Int32)), .unset, .unset, .unset] [(.int (((ch2.toUInt32 >>> ((8 : Int32) &&& 31).toUInt32).toInt32) &&& (255 : Int32))), (.int (0 : Int32)), (.ref b11)]))
      refine own_up (fun tx kx => XS.i2c X52.here hx rfl (hb hby at_141) rfl kx) ?_
      show OwnOk p e below _ (T52.setTop (mkF m 142 #[.val (.int sel), .val (.int shape), .val (.int pos), .val (.int ch), .val (.int ch2), .val (.int bI), .val (.ref a), .val (.ref b11), .val (.int (0 : Int32)), .unset, .unset, .unset] [(.int ((((ch2.toUInt32 >>> ((8 : Int32) &&& 31).toUInt32).toInt32) &&& (255 : Int32)).toUInt32.toUInt16.toUInt32.toInt32)), (.int (0 : Int32)), (.ref b11)]))
      obtain ⟨cl54, Ar54, qc54, Sz54, Nn54, Hs54, Gf54⟩ := id V_b11_52
      have hin54 : ¬ ((0 : Int32) < 0 ∨ cl54.slots.size ≤ ((0 : Int32)).toNatClampNeg) := inb_of Sz54 ⟨by decide, by decide⟩
      obtain ⟨T55, h55, X55, e55, W55, st55⟩ := stC X52 hx hZ e52 Ar54 (j := (0 : Int32)) hin54 (g := (mkF m 142 #[.val (.int sel), .val (.int shape), .val (.int pos), .val (.int ch), .val (.int ch2), .val (.int bI), .val (.ref a), .val (.ref b11), .val (.int (0 : Int32)), .unset, .unset, .unset] [(.int ((((ch2.toUInt32 >>> ((8 : Int32) &&& 31).toUInt32).toInt32) &&& (255 : Int32)).toUInt32.toUInt16.toUInt32.toInt32)), (.int (0 : Int32)), (.ref b11)])) rfl rfl (hb hby at_142)
      have V_b11_55 : Arv Z h55 b11 k11 .char (5 : Int32) [(.int (nar .char ((((ch2.toUInt32 >>> ((8 : Int32) &&& 31).toUInt32).toInt32) &&& (255 : Int32)).toUInt32.toUInt16.toUInt32.toInt32))), (.int (nar .char cc26)), (.int (nar .char cc34)), (.int (nar .char cc42)), (.int (nar .char cc50))] (.int (0 : Int32)) := Arv.set Ar54 qc54 Sz54 Nn54 Hs54 Gf54 (fits_nar_char _) W55 0 rfl (Nat.le_of_ble_eq_true rfl)
      have N55 := Fr.snoc X55 N52 n0_b11
      have OL56 := OL53.wr W55 n0_b11
      have hB56 := hB53.wr W55 (Safe.arr hZ.alike Ar54 (by decide))
      refine own_up st55 ?_
      show OwnOk p e below _ (T55.setTop (mkF m 143 #[.val (.int sel), .val (.int shape), .val (.int pos), .val (.int ch), .val (.int ch2), .val (.int bI), .val (.ref a), .val (.ref b11), .val (.int (0 : Int32)), .unset, .unset, .unset] []))
      exact law_143 l Z a0 hw sel shape pos ch ch2 bI (0 : Int32) (.ref a) b11 k11 cz w0 w1 w2 s0 s1 s2 u0 u1 u2 va k0 k1 k2 kva (nar .char ((((ch2.toUInt32 >>> ((8 : Int32) &&& 31).toUInt32).toInt32) &&& (255 : Int32)).toUInt32.toUInt16.toUInt32.toInt32)) (nar .char cc26) (nar .char cc34) (nar .char cc42) (nar .char cc50) hx hby hml hret hlk (X55.mono (Nat.le_of_ble_eq_true rfl) (Nat.le_of_ble_eq_true rfl)) e55 hZ hown n0 OL56 N55 hB56 SC hcz S0 W0 F0 E0 G0 D0 V0 S1 W1 F1 E1 G1 D1 V1 S2 W2 F2 E2 G2 D2 V2 SV EV VV V_b11_55 (own_chy ((ch2.toUInt32 >>> ((8 : Int32) &&& 31).toUInt32).toInt32)) (own_ncl hc26) (own_ncl hc34) (own_ncl hc42) (own_ncl hc50)
    · show OwnOk p e below _ (T52.setTop (mkF m 128 #[.val (.int sel), .val (.int shape), .val (.int pos), .val (.int ch), .val (.int ch2), .val (.int bI), .val (.ref a), .val (.ref b11), .val (.int (1 : Int32)), .unset, .unset, .unset] []))
      refine own_up (fun tx kx => XS.aload X52.here hx rfl (hb hby at_128) rfl rfl kx) ?_
      show OwnOk p e below _ (T52.setTop (mkF m 130 #[.val (.int sel), .val (.int shape), .val (.int pos), .val (.int ch), .val (.int ch2), .val (.int bI), .val (.ref a), .val (.ref b11), .val (.int (1 : Int32)), .unset, .unset, .unset] [(.ref b11)]))
      refine own_up (fun tx kx => XS.iload X52.here hx rfl (hb hby at_130) rfl kx) ?_
      show OwnOk p e below _ (T52.setTop (mkF m 132 #[.val (.int sel), .val (.int shape), .val (.int pos), .val (.int ch), .val (.int ch2), .val (.int bI), .val (.ref a), .val (.ref b11), .val (.int (1 : Int32)), .unset, .unset, .unset] [(.int (1 : Int32)), (.ref b11)]))
      refine own_up (fun tx kx => XS.iload X52.here hx rfl (hb hby at_132) rfl kx) ?_
      show OwnOk p e below _ (T52.setTop (mkF m 134 #[.val (.int sel), .val (.int shape), .val (.int pos), .val (.int ch), .val (.int ch2), .val (.int bI), .val (.ref a), .val (.ref b11), .val (.int (1 : Int32)), .unset, .unset, .unset] [(.int ch2), (.int (1 : Int32)), (.ref b11)]))
      refine own_up (fun tx kx => XS.bipush X52.here hx rfl (hb hby at_134) kx) ?_
      show OwnOk p e below _ (T52.setTop (mkF m 136 #[.val (.int sel), .val (.int shape), .val (.int pos), .val (.int ch), .val (.int ch2), .val (.int bI), .val (.ref a), .val (.ref b11), .val (.int (1 : Int32)), .unset, .unset, .unset] [(.int (8 : Int32)), (.int ch2), (.int (1 : Int32)), (.ref b11)]))
      refine own_up (fun tx kx => XS.iushr X52.here hx rfl (hb hby at_136) rfl kx) ?_
      show OwnOk p e below _ (T52.setTop (mkF m 137 #[.val (.int sel), .val (.int shape), .val (.int pos), .val (.int ch), .val (.int ch2), .val (.int bI), .val (.ref a), .val (.ref b11), .val (.int (1 : Int32)), .unset, .unset, .unset] [(.int ((ch2.toUInt32 >>> ((8 : Int32) &&& 31).toUInt32).toInt32)), (.int (1 : Int32)), (.ref b11)]))
      refine own_up (fun tx kx => XS.sipush X52.here hx rfl (hb hby at_137) kx) ?_
      show OwnOk p e below _ (T52.setTop (mkF m 140 #[.val (.int sel), .val (.int shape), .val (.int pos), .val (.int ch), .val (.int ch2), .val (.int bI), .val (.ref a), .val (.ref b11), .val (.int (1 : Int32)), .unset, .unset, .unset] [(.int (255 : Int32)), (.int ((ch2.toUInt32 >>> ((8 : Int32) &&& 31).toUInt32).toInt32)), (.int (1 : Int32)), (.ref b11)]))
      refine own_up (fun tx kx => XS.iand X52.here hx rfl (hb hby at_140) rfl kx) ?_
      show OwnOk p e below _ (T52.setTop (mkF m 141 #[.val (.int sel), .val (.int shape), .val (.int pos), .val (.int ch), .val (.int ch2), .val (.int bI), .val (.ref a), .val (.ref b11), .val (.int (1 : Int32)), .unset, .unset, .unset] [(.int (((ch2.toUInt32 >>> ((8 : Int32) &&& 31).toUInt32).toInt32) &&& (255 : Int32))), (.int (1 : Int32)), (.ref b11)]))
      refine own_up (fun tx kx => XS.i2c X52.here hx rfl (hb hby at_141) rfl kx) ?_
      show OwnOk p e below _ (T52.setTop (mkF m 142 #[.val (.int sel), .val (.int shape), .val (.int pos), .val (.int ch), .val (.int ch2), .val (.int bI), .val (.ref a), .val (.ref b11), .val (.int (1 : Int32)), .unset, .unset, .unset] [(.int ((((ch2.toUInt32 >>> ((8 : Int32) &&& 31).toUInt32).toInt32) &&& (255 : Int32)).toUInt32.toUInt16.toUInt32.toInt32)), (.int (1 : Int32)), (.ref b11)]))
      obtain ⟨cl57, Ar57, qc57, Sz57, Nn57, Hs57, Gf57⟩ := id V_b11_52
      have hin57 : ¬ ((1 : Int32) < 0 ∨ cl57.slots.size ≤ ((1 : Int32)).toNatClampNeg) := inb_of Sz57 ⟨by decide, by decide⟩
      obtain ⟨T58, h58, X58, e58, W58, st58⟩ := stC X52 hx hZ e52 Ar57 (j := (1 : Int32)) hin57 (g := (mkF m 142 #[.val (.int sel), .val (.int shape), .val (.int pos), .val (.int ch), .val (.int ch2), .val (.int bI), .val (.ref a), .val (.ref b11), .val (.int (1 : Int32)), .unset, .unset, .unset] [(.int ((((ch2.toUInt32 >>> ((8 : Int32) &&& 31).toUInt32).toInt32) &&& (255 : Int32)).toUInt32.toUInt16.toUInt32.toInt32)), (.int (1 : Int32)), (.ref b11)])) rfl rfl (hb hby at_142)
      have V_b11_58 : Arv Z h58 b11 k11 .char (5 : Int32) [(.int (nar .char cc18)), (.int (nar .char ((((ch2.toUInt32 >>> ((8 : Int32) &&& 31).toUInt32).toInt32) &&& (255 : Int32)).toUInt32.toUInt16.toUInt32.toInt32))), (.int (nar .char cc34)), (.int (nar .char cc42)), (.int (nar .char cc50))] (.int (0 : Int32)) := Arv.set Ar57 qc57 Sz57 Nn57 Hs57 Gf57 (fits_nar_char _) W58 1 rfl (Nat.le_of_ble_eq_true rfl)
      have N58 := Fr.snoc X58 N52 n0_b11
      have OL59 := OL53.wr W58 n0_b11
      have hB59 := hB53.wr W58 (Safe.arr hZ.alike Ar57 (by decide))
      refine own_up st58 ?_
      show OwnOk p e below _ (T58.setTop (mkF m 143 #[.val (.int sel), .val (.int shape), .val (.int pos), .val (.int ch), .val (.int ch2), .val (.int bI), .val (.ref a), .val (.ref b11), .val (.int (1 : Int32)), .unset, .unset, .unset] []))
      exact law_143 l Z a0 hw sel shape pos ch ch2 bI (1 : Int32) (.ref a) b11 k11 cz w0 w1 w2 s0 s1 s2 u0 u1 u2 va k0 k1 k2 kva (nar .char cc18) (nar .char ((((ch2.toUInt32 >>> ((8 : Int32) &&& 31).toUInt32).toInt32) &&& (255 : Int32)).toUInt32.toUInt16.toUInt32.toInt32)) (nar .char cc34) (nar .char cc42) (nar .char cc50) hx hby hml hret hlk (X58.mono (Nat.le_of_ble_eq_true rfl) (Nat.le_of_ble_eq_true rfl)) e58 hZ hown n0 OL59 N58 hB59 SC hcz S0 W0 F0 E0 G0 D0 V0 S1 W1 F1 E1 G1 D1 V1 S2 W2 F2 E2 G2 D2 V2 SV EV VV V_b11_58 (own_ncl hc18) (own_chy ((ch2.toUInt32 >>> ((8 : Int32) &&& 31).toUInt32).toInt32)) (own_ncl hc34) (own_ncl hc42) (own_ncl hc50)
    · show OwnOk p e below _ (T52.setTop (mkF m 128 #[.val (.int sel), .val (.int shape), .val (.int pos), .val (.int ch), .val (.int ch2), .val (.int bI), .val (.ref a), .val (.ref b11), .val (.int (2 : Int32)), .unset, .unset, .unset] []))
      refine own_up (fun tx kx => XS.aload X52.here hx rfl (hb hby at_128) rfl rfl kx) ?_
      show OwnOk p e below _ (T52.setTop (mkF m 130 #[.val (.int sel), .val (.int shape), .val (.int pos), .val (.int ch), .val (.int ch2), .val (.int bI), .val (.ref a), .val (.ref b11), .val (.int (2 : Int32)), .unset, .unset, .unset] [(.ref b11)]))
      refine own_up (fun tx kx => XS.iload X52.here hx rfl (hb hby at_130) rfl kx) ?_
      show OwnOk p e below _ (T52.setTop (mkF m 132 #[.val (.int sel), .val (.int shape), .val (.int pos), .val (.int ch), .val (.int ch2), .val (.int bI), .val (.ref a), .val (.ref b11), .val (.int (2 : Int32)), .unset, .unset, .unset] [(.int (2 : Int32)), (.ref b11)]))
      refine own_up (fun tx kx => XS.iload X52.here hx rfl (hb hby at_132) rfl kx) ?_
      show OwnOk p e below _ (T52.setTop (mkF m 134 #[.val (.int sel), .val (.int shape), .val (.int pos), .val (.int ch), .val (.int ch2), .val (.int bI), .val (.ref a), .val (.ref b11), .val (.int (2 : Int32)), .unset, .unset, .unset] [(.int ch2), (.int (2 : Int32)), (.ref b11)]))
      refine own_up (fun tx kx => XS.bipush X52.here hx rfl (hb hby at_134) kx) ?_
      show OwnOk p e below _ (T52.setTop (mkF m 136 #[.val (.int sel), .val (.int shape), .val (.int pos), .val (.int ch), .val (.int ch2), .val (.int bI), .val (.ref a), .val (.ref b11), .val (.int (2 : Int32)), .unset, .unset, .unset] [(.int (8 : Int32)), (.int ch2), (.int (2 : Int32)), (.ref b11)]))
      refine own_up (fun tx kx => XS.iushr X52.here hx rfl (hb hby at_136) rfl kx) ?_
      show OwnOk p e below _ (T52.setTop (mkF m 137 #[.val (.int sel), .val (.int shape), .val (.int pos), .val (.int ch), .val (.int ch2), .val (.int bI), .val (.ref a), .val (.ref b11), .val (.int (2 : Int32)), .unset, .unset, .unset] [(.int ((ch2.toUInt32 >>> ((8 : Int32) &&& 31).toUInt32).toInt32)), (.int (2 : Int32)), (.ref b11)]))
      refine own_up (fun tx kx => XS.sipush X52.here hx rfl (hb hby at_137) kx) ?_
      show OwnOk p e below _ (T52.setTop (mkF m 140 #[.val (.int sel), .val (.int shape), .val (.int pos), .val (.int ch), .val (.int ch2), .val (.int bI), .val (.ref a), .val (.ref b11), .val (.int (2 : Int32)), .unset, .unset, .unset] [(.int (255 : Int32)), (.int ((ch2.toUInt32 >>> ((8 : Int32) &&& 31).toUInt32).toInt32)), (.int (2 : Int32)), (.ref b11)]))
      refine own_up (fun tx kx => XS.iand X52.here hx rfl (hb hby at_140) rfl kx) ?_
      show OwnOk p e below _ (T52.setTop (mkF m 141 #[.val (.int sel), .val (.int shape), .val (.int pos), .val (.int ch), .val (.int ch2), .val (.int bI), .val (.ref a), .val (.ref b11), .val (.int (2 : Int32)), .unset, .unset, .unset] [(.int (((ch2.toUInt32 >>> ((8 : Int32) &&& 31).toUInt32).toInt32) &&& (255 : Int32))), (.int (2 : Int32)), (.ref b11)]))
      refine own_up (fun tx kx => XS.i2c X52.here hx rfl (hb hby at_141) rfl kx) ?_
      show OwnOk p e below _ (T52.setTop (mkF m 142 #[.val (.int sel), .val (.int shape), .val (.int pos), .val (.int ch), .val (.int ch2), .val (.int bI), .val (.ref a), .val (.ref b11), .val (.int (2 : Int32)), .unset, .unset, .unset] [(.int ((((ch2.toUInt32 >>> ((8 : Int32) &&& 31).toUInt32).toInt32) &&& (255 : Int32)).toUInt32.toUInt16.toUInt32.toInt32)), (.int (2 : Int32)), (.ref b11)]))
      obtain ⟨cl60, Ar60, qc60, Sz60, Nn60, Hs60, Gf60⟩ := id V_b11_52
      have hin60 : ¬ ((2 : Int32) < 0 ∨ cl60.slots.size ≤ ((2 : Int32)).toNatClampNeg) := inb_of Sz60 ⟨by decide, by decide⟩
      obtain ⟨T61, h61, X61, e61, W61, st61⟩ := stC X52 hx hZ e52 Ar60 (j := (2 : Int32)) hin60 (g := (mkF m 142 #[.val (.int sel), .val (.int shape), .val (.int pos), .val (.int ch), .val (.int ch2), .val (.int bI), .val (.ref a), .val (.ref b11), .val (.int (2 : Int32)), .unset, .unset, .unset] [(.int ((((ch2.toUInt32 >>> ((8 : Int32) &&& 31).toUInt32).toInt32) &&& (255 : Int32)).toUInt32.toUInt16.toUInt32.toInt32)), (.int (2 : Int32)), (.ref b11)])) rfl rfl (hb hby at_142)
      have V_b11_61 : Arv Z h61 b11 k11 .char (5 : Int32) [(.int (nar .char cc18)), (.int (nar .char cc26)), (.int (nar .char ((((ch2.toUInt32 >>> ((8 : Int32) &&& 31).toUInt32).toInt32) &&& (255 : Int32)).toUInt32.toUInt16.toUInt32.toInt32))), (.int (nar .char cc42)), (.int (nar .char cc50))] (.int (0 : Int32)) := Arv.set Ar60 qc60 Sz60 Nn60 Hs60 Gf60 (fits_nar_char _) W61 2 rfl (Nat.le_of_ble_eq_true rfl)
      have N61 := Fr.snoc X61 N52 n0_b11
      have OL62 := OL53.wr W61 n0_b11
      have hB62 := hB53.wr W61 (Safe.arr hZ.alike Ar60 (by decide))
      refine own_up st61 ?_
      show OwnOk p e below _ (T61.setTop (mkF m 143 #[.val (.int sel), .val (.int shape), .val (.int pos), .val (.int ch), .val (.int ch2), .val (.int bI), .val (.ref a), .val (.ref b11), .val (.int (2 : Int32)), .unset, .unset, .unset] []))
      exact law_143 l Z a0 hw sel shape pos ch ch2 bI (2 : Int32) (.ref a) b11 k11 cz w0 w1 w2 s0 s1 s2 u0 u1 u2 va k0 k1 k2 kva (nar .char cc18) (nar .char cc26) (nar .char ((((ch2.toUInt32 >>> ((8 : Int32) &&& 31).toUInt32).toInt32) &&& (255 : Int32)).toUInt32.toUInt16.toUInt32.toInt32)) (nar .char cc42) (nar .char cc50) hx hby hml hret hlk (X61.mono (Nat.le_of_ble_eq_true rfl) (Nat.le_of_ble_eq_true rfl)) e61 hZ hown n0 OL62 N61 hB62 SC hcz S0 W0 F0 E0 G0 D0 V0 S1 W1 F1 E1 G1 D1 V1 S2 W2 F2 E2 G2 D2 V2 SV EV VV V_b11_61 (own_ncl hc18) (own_ncl hc26) (own_chy ((ch2.toUInt32 >>> ((8 : Int32) &&& 31).toUInt32).toInt32)) (own_ncl hc42) (own_ncl hc50)
    · show OwnOk p e below _ (T52.setTop (mkF m 128 #[.val (.int sel), .val (.int shape), .val (.int pos), .val (.int ch), .val (.int ch2), .val (.int bI), .val (.ref a), .val (.ref b11), .val (.int (3 : Int32)), .unset, .unset, .unset] []))
      refine own_up (fun tx kx => XS.aload X52.here hx rfl (hb hby at_128) rfl rfl kx) ?_
      show OwnOk p e below _ (T52.setTop (mkF m 130 #[.val (.int sel), .val (.int shape), .val (.int pos), .val (.int ch), .val (.int ch2), .val (.int bI), .val (.ref a), .val (.ref b11), .val (.int (3 : Int32)), .unset, .unset, .unset] [(.ref b11)]))
      refine own_up (fun tx kx => XS.iload X52.here hx rfl (hb hby at_130) rfl kx) ?_
      show OwnOk p e below _ (T52.setTop (mkF m 132 #[.val (.int sel), .val (.int shape), .val (.int pos), .val (.int ch), .val (.int ch2), .val (.int bI), .val (.ref a), .val (.ref b11), .val (.int (3 : Int32)), .unset, .unset, .unset] [(.int (3 : Int32)), (.ref b11)]))
      refine own_up (fun tx kx => XS.iload X52.here hx rfl (hb hby at_132) rfl kx) ?_
      show OwnOk p e below _ (T52.setTop (mkF m 134 #[.val (.int sel), .val (.int shape), .val (.int pos), .val (.int ch), .val (.int ch2), .val (.int bI), .val (.ref a), .val (.ref b11), .val (.int (3 : Int32)), .unset, .unset, .unset] [(.int ch2), (.int (3 : Int32)), (.ref b11)]))
      refine own_up (fun tx kx => XS.bipush X52.here hx rfl (hb hby at_134) kx) ?_
      show OwnOk p e below _ (T52.setTop (mkF m 136 #[.val (.int sel), .val (.int shape), .val (.int pos), .val (.int ch), .val (.int ch2), .val (.int bI), .val (.ref a), .val (.ref b11), .val (.int (3 : Int32)), .unset, .unset, .unset] [(.int (8 : Int32)), (.int ch2), (.int (3 : Int32)), (.ref b11)]))
      refine own_up (fun tx kx => XS.iushr X52.here hx rfl (hb hby at_136) rfl kx) ?_
      show OwnOk p e below _ (T52.setTop (mkF m 137 #[.val (.int sel), .val (.int shape), .val (.int pos), .val (.int ch), .val (.int ch2), .val (.int bI), .val (.ref a), .val (.ref b11), .val (.int (3 : Int32)), .unset, .unset, .unset] [(.int ((ch2.toUInt32 >>> ((8 : Int32) &&& 31).toUInt32).toInt32)), (.int (3 : Int32)), (.ref b11)]))
      refine own_up (fun tx kx => XS.sipush X52.here hx rfl (hb hby at_137) kx) ?_
      show OwnOk p e below _ (T52.setTop (mkF m 140 #[.val (.int sel), .val (.int shape), .val (.int pos), .val (.int ch), .val (.int ch2), .val (.int bI), .val (.ref a), .val (.ref b11), .val (.int (3 : Int32)), .unset, .unset, .unset] [(.int (255 : Int32)), (.int ((ch2.toUInt32 >>> ((8 : Int32) &&& 31).toUInt32).toInt32)), (.int (3 : Int32)), (.ref b11)]))
      refine own_up (fun tx kx => XS.iand X52.here hx rfl (hb hby at_140) rfl kx) ?_
      show OwnOk p e below _ (T52.setTop (mkF m 141 #[.val (.int sel), .val (.int shape), .val (.int pos), .val (.int ch), .val (.int ch2), .val (.int bI), .val (.ref a), .val (.ref b11), .val (.int (3 : Int32)), .unset, .unset, .unset] [(.int (((ch2.toUInt32 >>> ((8 : Int32) &&& 31).toUInt32).toInt32) &&& (255 : Int32))), (.int (3 : Int32)), (.ref b11)]))
      refine own_up (fun tx kx => XS.i2c X52.here hx rfl (hb hby at_141) rfl kx) ?_
      show OwnOk p e below _ (T52.setTop (mkF m 142 #[.val (.int sel), .val (.int shape), .val (.int pos), .val (.int ch), .val (.int ch2), .val (.int bI), .val (.ref a), .val (.ref b11), .val (.int (3 : Int32)), .unset, .unset, .unset] [(.int ((((ch2.toUInt32 >>> ((8 : Int32) &&& 31).toUInt32).toInt32) &&& (255 : Int32)).toUInt32.toUInt16.toUInt32.toInt32)), (.int (3 : Int32)), (.ref b11)]))
      obtain ⟨cl63, Ar63, qc63, Sz63, Nn63, Hs63, Gf63⟩ := id V_b11_52
      have hin63 : ¬ ((3 : Int32) < 0 ∨ cl63.slots.size ≤ ((3 : Int32)).toNatClampNeg) := inb_of Sz63 ⟨by decide, by decide⟩
      obtain ⟨T64, h64, X64, e64, W64, st64⟩ := stC X52 hx hZ e52 Ar63 (j := (3 : Int32)) hin63 (g := (mkF m 142 #[.val (.int sel), .val (.int shape), .val (.int pos), .val (.int ch), .val (.int ch2), .val (.int bI), .val (.ref a), .val (.ref b11), .val (.int (3 : Int32)), .unset, .unset, .unset] [(.int ((((ch2.toUInt32 >>> ((8 : Int32) &&& 31).toUInt32).toInt32) &&& (255 : Int32)).toUInt32.toUInt16.toUInt32.toInt32)), (.int (3 : Int32)), (.ref b11)])) rfl rfl (hb hby at_142)
      have V_b11_64 : Arv Z h64 b11 k11 .char (5 : Int32) [(.int (nar .char cc18)), (.int (nar .char cc26)), (.int (nar .char cc34)), (.int (nar .char ((((ch2.toUInt32 >>> ((8 : Int32) &&& 31).toUInt32).toInt32) &&& (255 : Int32)).toUInt32.toUInt16.toUInt32.toInt32))), (.int (nar .char cc50))] (.int (0 : Int32)) := Arv.set Ar63 qc63 Sz63 Nn63 Hs63 Gf63 (fits_nar_char _) W64 3 rfl (Nat.le_of_ble_eq_true rfl)
      have N64 := Fr.snoc X64 N52 n0_b11
      have OL65 := OL53.wr W64 n0_b11
      have hB65 := hB53.wr W64 (Safe.arr hZ.alike Ar63 (by decide))
      refine own_up st64 ?_
      show OwnOk p e below _ (T64.setTop (mkF m 143 #[.val (.int sel), .val (.int shape), .val (.int pos), .val (.int ch), .val (.int ch2), .val (.int bI), .val (.ref a), .val (.ref b11), .val (.int (3 : Int32)), .unset, .unset, .unset] []))
      exact law_143 l Z a0 hw sel shape pos ch ch2 bI (3 : Int32) (.ref a) b11 k11 cz w0 w1 w2 s0 s1 s2 u0 u1 u2 va k0 k1 k2 kva (nar .char cc18) (nar .char cc26) (nar .char cc34) (nar .char ((((ch2.toUInt32 >>> ((8 : Int32) &&& 31).toUInt32).toInt32) &&& (255 : Int32)).toUInt32.toUInt16.toUInt32.toInt32)) (nar .char cc50) hx hby hml hret hlk (X64.mono (Nat.le_of_ble_eq_true rfl) (Nat.le_of_ble_eq_true rfl)) e64 hZ hown n0 OL65 N64 hB65 SC hcz S0 W0 F0 E0 G0 D0 V0 S1 W1 F1 E1 G1 D1 V1 S2 W2 F2 E2 G2 D2 V2 SV EV VV V_b11_64 (own_ncl hc18) (own_ncl hc26) (own_ncl hc34) (own_chy ((ch2.toUInt32 >>> ((8 : Int32) &&& 31).toUInt32).toInt32)) (own_ncl hc50)
    · show OwnOk p e below _ (T52.setTop (mkF m 128 #[.val (.int sel), .val (.int shape), .val (.int pos), .val (.int ch), .val (.int ch2), .val (.int bI), .val (.ref a), .val (.ref b11), .val (.int (4 : Int32)), .unset, .unset, .unset] []))
      refine own_up (fun tx kx => XS.aload X52.here hx rfl (hb hby at_128) rfl rfl kx) ?_
      show OwnOk p e below _ (T52.setTop (mkF m 130 #[.val (.int sel), .val (.int shape), .val (.int pos), .val (.int ch), .val (.int ch2), .val (.int bI), .val (.ref a), .val (.ref b11), .val (.int (4 : Int32)), .unset, .unset, .unset] [(.ref b11)]))
      refine own_up (fun tx kx => XS.iload X52.here hx rfl (hb hby at_130) rfl kx) ?_
      show OwnOk p e below _ (T52.setTop (mkF m 132 #[.val (.int sel), .val (.int shape), .val (.int pos), .val (.int ch), .val (.int ch2), .val (.int bI), .val (.ref a), .val (.ref b11), .val (.int (4 : Int32)), .unset, .unset, .unset] [(.int (4 : Int32)), (.ref b11)]))
      refine own_up (fun tx kx => XS.iload X52.here hx rfl (hb hby at_132) rfl kx) ?_
      show OwnOk p e below _ (T52.setTop (mkF m 134 #[.val (.int sel), .val (.int shape), .val (.int pos), .val (.int ch), .val (.int ch2), .val (.int bI), .val (.ref a), .val (.ref b11), .val (.int (4 : Int32)), .unset, .unset, .unset] [(.int ch2), (.int (4 : Int32)), (.ref b11)]))
      refine own_up (fun tx kx => XS.bipush X52.here hx rfl (hb hby at_134) kx) ?_
      show OwnOk p e below _ (T52.setTop (mkF m 136 #[.val (.int sel), .val (.int shape), .val (.int pos), .val (.int ch), .val (.int ch2), .val (.int bI), .val (.ref a), .val (.ref b11), .val (.int (4 : Int32)), .unset, .unset, .unset] [(.int (8 : Int32)), (.int ch2), (.int (4 : Int32)), (.ref b11)]))
      refine own_up (fun tx kx => XS.iushr X52.here hx rfl (hb hby at_136) rfl kx) ?_
      show OwnOk p e below _ (T52.setTop (mkF m 137 #[.val (.int sel), .val (.int shape), .val (.int pos), .val (.int ch), .val (.int ch2), .val (.int bI), .val (.ref a), .val (.ref b11), .val (.int (4 : Int32)), .unset, .unset, .unset] [(.int ((ch2.toUInt32 >>> ((8 : Int32) &&& 31).toUInt32).toInt32)), (.int (4 : Int32)), (.ref b11)]))
      refine own_up (fun tx kx => XS.sipush X52.here hx rfl (hb hby at_137) kx) ?_
      show OwnOk p e below _ (T52.setTop (mkF m 140 #[.val (.int sel), .val (.int shape), .val (.int pos), .val (.int ch), .val (.int ch2), .val (.int bI), .val (.ref a), .val (.ref b11), .val (.int (4 : Int32)), .unset, .unset, .unset] [(.int (255 : Int32)), (.int ((ch2.toUInt32 >>> ((8 : Int32) &&& 31).toUInt32).toInt32)), (.int (4 : Int32)), (.ref b11)]))
      refine own_up (fun tx kx => XS.iand X52.here hx rfl (hb hby at_140) rfl kx) ?_
      show OwnOk p e below _ (T52.setTop (mkF m 141 #[.val (.int sel), .val (.int shape), .val (.int pos), .val (.int ch), .val (.int ch2), .val (.int bI), .val (.ref a), .val (.ref b11), .val (.int (4 : Int32)), .unset, .unset, .unset] [(.int (((ch2.toUInt32 >>> ((8 : Int32) &&& 31).toUInt32).toInt32) &&& (255 : Int32))), (.int (4 : Int32)), (.ref b11)]))
      refine own_up (fun tx kx => XS.i2c X52.here hx rfl (hb hby at_141) rfl kx) ?_
      show OwnOk p e below _ (T52.setTop (mkF m 142 #[.val (.int sel), .val (.int shape), .val (.int pos), .val (.int ch), .val (.int ch2), .val (.int bI), .val (.ref a), .val (.ref b11), .val (.int (4 : Int32)), .unset, .unset, .unset] [(.int ((((ch2.toUInt32 >>> ((8 : Int32) &&& 31).toUInt32).toInt32) &&& (255 : Int32)).toUInt32.toUInt16.toUInt32.toInt32)), (.int (4 : Int32)), (.ref b11)]))
      obtain ⟨cl66, Ar66, qc66, Sz66, Nn66, Hs66, Gf66⟩ := id V_b11_52
      have hin66 : ¬ ((4 : Int32) < 0 ∨ cl66.slots.size ≤ ((4 : Int32)).toNatClampNeg) := inb_of Sz66 ⟨by decide, by decide⟩
      obtain ⟨T67, h67, X67, e67, W67, st67⟩ := stC X52 hx hZ e52 Ar66 (j := (4 : Int32)) hin66 (g := (mkF m 142 #[.val (.int sel), .val (.int shape), .val (.int pos), .val (.int ch), .val (.int ch2), .val (.int bI), .val (.ref a), .val (.ref b11), .val (.int (4 : Int32)), .unset, .unset, .unset] [(.int ((((ch2.toUInt32 >>> ((8 : Int32) &&& 31).toUInt32).toInt32) &&& (255 : Int32)).toUInt32.toUInt16.toUInt32.toInt32)), (.int (4 : Int32)), (.ref b11)])) rfl rfl (hb hby at_142)
      have V_b11_67 : Arv Z h67 b11 k11 .char (5 : Int32) [(.int (nar .char cc18)), (.int (nar .char cc26)), (.int (nar .char cc34)), (.int (nar .char cc42)), (.int (nar .char ((((ch2.toUInt32 >>> ((8 : Int32) &&& 31).toUInt32).toInt32) &&& (255 : Int32)).toUInt32.toUInt16.toUInt32.toInt32)))] (.int (0 : Int32)) := Arv.set Ar66 qc66 Sz66 Nn66 Hs66 Gf66 (fits_nar_char _) W67 4 rfl (Nat.le_of_ble_eq_true rfl)
      have N67 := Fr.snoc X67 N52 n0_b11
      have OL68 := OL53.wr W67 n0_b11
      have hB68 := hB53.wr W67 (Safe.arr hZ.alike Ar66 (by decide))
      refine own_up st67 ?_
      show OwnOk p e below _ (T67.setTop (mkF m 143 #[.val (.int sel), .val (.int shape), .val (.int pos), .val (.int ch), .val (.int ch2), .val (.int bI), .val (.ref a), .val (.ref b11), .val (.int (4 : Int32)), .unset, .unset, .unset] []))
      exact law_143 l Z a0 hw sel shape pos ch ch2 bI (4 : Int32) (.ref a) b11 k11 cz w0 w1 w2 s0 s1 s2 u0 u1 u2 va k0 k1 k2 kva (nar .char cc18) (nar .char cc26) (nar .char cc34) (nar .char cc42) (nar .char ((((ch2.toUInt32 >>> ((8 : Int32) &&& 31).toUInt32).toInt32) &&& (255 : Int32)).toUInt32.toUInt16.toUInt32.toInt32)) hx hby hml hret hlk (X67.mono (Nat.le_of_ble_eq_true rfl) (Nat.le_of_ble_eq_true rfl)) e67 hZ hown n0 OL68 N67 hB68 SC hcz S0 W0 F0 E0 G0 D0 V0 S1 W1 F1 E1 G1 D1 V1 S2 W2 F2 E2 G2 D2 V2 SV EV VV V_b11_67 (own_ncl hc18) (own_ncl hc26) (own_ncl hc34) (own_ncl hc42) (own_chy ((ch2.toUInt32 >>> ((8 : Int32) &&& 31).toUInt32).toInt32))
  · refine own_up (fun tx kx => XS.icmpYes X52.here hx rfl (pc0 := 125) (pc' := 143) rfl (hb hby at_125) rfl (flt h5).2.1 (by decide) (by decide) kx) ?_
    show OwnOk p e below _ (T52.setTop (mkF m 143 #[.val (.int sel), .val (.int shape), .val (.int pos), .val (.int ch), .val (.int ch2), .val (.int bI), .val (.ref a), .val (.ref b11), .val (.int (Int32.ofNat mi)), .unset, .unset, .unset] []))
    exact law_143 l Z a0 hw sel shape pos ch ch2 bI (Int32.ofNat mi) (.ref a) b11 k11 cz w0 w1 w2 s0 s1 s2 u0 u1 u2 va k0 k1 k2 kva (nar .char cc18) (nar .char cc26) (nar .char cc34) (nar .char cc42) (nar .char cc50) hx hby hml hret hlk (X52.mono (Nat.le_of_ble_eq_true rfl) (Nat.le_of_ble_eq_true rfl)) e52 hZ hown n0 OL53 N52 hB53 SC hcz S0 W0 F0 E0 G0 D0 V0 S1 W1 F1 E1 G1 D1 V1 S2 W2 F2 E2 G2 D2 V2 SV EV VV V_b11_52 (own_ncl hc18) (own_ncl hc26) (own_ncl hc34) (own_ncl hc42) (own_ncl hc50)
set_option maxRecDepth 65536 in
set_option maxHeartbeats 40000000 in
theorem law_41n (l : Launch) (Z : State) (a0 : Array Value) (hw : ∀ d ∈ tables_1, d.before a0 Z = true) (sel shape pos ch ch2 : Int32) (bI : Int32) (cz : Int32) (w0 w1 w2 s0 s1 s2 u0 u1 u2 va : Addr) (k0 k1 k2 kva : ClassId) (fm : Value) (hfm : fm.isRef = true) {p : Program} {e : Env} {s s' : State} {m : MethodId} {below : List Frame} {meth : Method} {c : Code} {T : State} (hx : p.tables.exec = Jvm.exec) (hby : c.code = code) (hml : c.maxLocals = 12) (hret : meth.sig.returnType = ret) (hlk : meth.locks = false) {locs : List Loc} (X0 : Stand p l e room_1 s' m #[(.int sel), (.int shape), (.int pos), (.int ch), (.int ch2)] below meth c T locs 4 300) {h0 : Heap} (e0 : T.heap = h0) (hZ : Z.Warmed39 s'.vm) (hown : s'.vm.findClass "com/example/gridpost/gridpost/store/OperationKindFromWireNamePinLaw" = some m.cls) (n0 : Nat) (OL : Old Z n0 h0) (N0 : Fr n0 locs) (hB : own_FrH Z own_EL s s' h0) (SC : Sta Z Z.heap "java/lang/String" "COMPACT_STRINGS" "Z" (.int cz)) (hcz : ¬ cz = 0) (SF : Sta Z Z.heap "jdk/internal/util/Preconditions" "SIOOBE_FORMATTER" "Ljava/util/function/BiFunction;" fm) (S0 : Sta Z Z.heap "com/example/gridpost/gridpost/store/OperationKind" "START" "Lcom/example/gridpost/gridpost/store/OperationKind;" (.ref w0)) (W0 : Exa Z Z.heap w0 "com/example/gridpost/gridpost/store/OperationKind") (F0 : Fld Z Z.heap w0 "com/example/gridpost/gridpost/store/OperationKind" "wireName" "Ljava/lang/String;" (.ref s0)) (E0 : Exa Z Z.heap s0 "java/lang/String") (G0 : Fld Z Z.heap s0 "java/lang/String" "value" "[B" (.ref u0)) (D0 : Fld Z Z.heap s0 "java/lang/String" "coder" "B" (.int (0 : Int32))) (V0 : Arv Z Z.heap u0 k0 .byte (Int32.ofNat 5) (own_F 5 (fun j => [(115 : Int32), (116 : Int32), (97 : Int32), (114 : Int32), (116 : Int32)].getD j 0)) (.int (0 : Int32))) (S1 : Sta Z Z.heap "com/example/gridpost/gridpost/store/OperationKind" "ABORT" "Lcom/example/gridpost/gridpost/store/OperationKind;" (.ref w1)) (W1 : Exa Z Z.heap w1 "com/example/gridpost/gridpost/store/OperationKind") (F1 : Fld Z Z.heap w1 "com/example/gridpost/gridpost/store/OperationKind" "wireName" "Ljava/lang/String;" (.ref s1)) (E1 : Exa Z Z.heap s1 "java/lang/String") (G1 : Fld Z Z.heap s1 "java/lang/String" "value" "[B" (.ref u1)) (D1 : Fld Z Z.heap s1 "java/lang/String" "coder" "B" (.int (0 : Int32))) (V1 : Arv Z Z.heap u1 k1 .byte (Int32.ofNat 5) (own_F 5 (fun j => [(97 : Int32), (98 : Int32), (111 : Int32), (114 : Int32), (116 : Int32)].getD j 0)) (.int (0 : Int32))) (S2 : Sta Z Z.heap "com/example/gridpost/gridpost/store/OperationKind" "PAUSE" "Lcom/example/gridpost/gridpost/store/OperationKind;" (.ref w2)) (W2 : Exa Z Z.heap w2 "com/example/gridpost/gridpost/store/OperationKind") (F2 : Fld Z Z.heap w2 "com/example/gridpost/gridpost/store/OperationKind" "wireName" "Ljava/lang/String;" (.ref s2)) (E2 : Exa Z Z.heap s2 "java/lang/String") (G2 : Fld Z Z.heap s2 "java/lang/String" "value" "[B" (.ref u2)) (D2 : Fld Z Z.heap s2 "java/lang/String" "coder" "B" (.int (0 : Int32))) (V2 : Arv Z Z.heap u2 k2 .byte (Int32.ofNat 5) (own_F 5 (fun j => [(112 : Int32), (97 : Int32), (117 : Int32), (115 : Int32), (101 : Int32)].getD j 0)) (.int (0 : Int32))) (SV : Sta Z Z.heap "com/example/gridpost/gridpost/store/OperationKind" "$VALUES" "[Lcom/example/gridpost/gridpost/store/OperationKind;" (.ref va)) (EV : Exa Z Z.heap va "[Lcom/example/gridpost/gridpost/store/OperationKind;") (VV : Arv Z Z.heap va kva (.object "com/example/gridpost/gridpost/store/OperationKind") (3 : Int32) [.ref w0, .ref w1, .ref w2] .null) :
    OwnOk p e below (own_KH Z own_EL s (Q_rm0 n0) room_1.cells room_1.slots) (T.setTop (mkF m 43 #[.val (.int sel), .val (.int shape), .val (.int pos), .val (.int ch), .val (.int ch2), .val (.int bI), .val .null, .unset, .unset, .unset, .unset, .unset] [])) := by
  have Z0 : n0 ≤ h0.size := OL.1 ▸ OL.2.1
  show OwnOk p e below _ (T.setTop (mkF m 43 #[.val (.int sel), .val (.int shape), .val (.int pos), .val (.int ch), .val (.int ch2), .val (.int bI), .val .null, .unset, .unset, .unset, .unset, .unset] []))
  refine own_up (fun tx kx => XS.iconst X0.here hx rfl (hb hby at_43) kx) ?_
  show OwnOk p e below _ (T.setTop (mkF m 44 #[.val (.int sel), .val (.int shape), .val (.int pos), .val (.int ch), .val (.int ch2), .val (.int bI), .val .null, .unset, .unset, .unset, .unset, .unset] [(.int (5 : Int32))]))
  obtain ⟨T11, h11, k11, X11, e11, E11, A11, st11⟩ := newP (aty := .char) X0 hx hZ (wd_9 hw) e0 (g := (mkF m 44 #[.val (.int sel), .val (.int shape), .val (.int pos), .val (.int ch), .val (.int ch2), .val (.int bI), .val .null, .unset, .unset, .unset, .unset, .unset] [(.int (5 : Int32))])) rfl (hb hby at_44) rfl (by decide) (cap := 5) (by decide) (by decide) (by decide) (by decide)
  obtain ⟨b11, g11⟩ : ∃ z, z = h0.size := ⟨_, rfl⟩
  rw [← g11] at A11 st11
  have sz_b11 : h0.size ≤ b11 := Nat.le_of_eq g11.symm
  have n0_b11 : n0 ≤ b11 := Nat.le_trans (own_n0 OL) sz_b11
  have V_b11 : Arv Z h11 b11 k11 .char (5 : Int32) [(.int (0 : Int32)), (.int (0 : Int32)), (.int (0 : Int32)), (.int (0 : Int32)), (.int (0 : Int32))] (.int (0 : Int32)) := (Arv.new A11 (by decide)).pad (pad_rep [] (.int (0 : Int32)) 5)
  have OL13 := OL.ext E11
  have hB13 := hB.ext E11
  refine own_up st11 ?_
  show OwnOk p e below _ (T11.setTop (mkF m 46 #[.val (.int sel), .val (.int shape), .val (.int pos), .val (.int ch), .val (.int ch2), .val (.int bI), .val .null, .unset, .unset, .unset, .unset, .unset] [(.ref b11)]))
  refine own_up (fun tx kx => XS.astore X11.here hx rfl (hb hby at_46) rfl rfl (l' := #[.val (.int sel), .val (.int shape), .val (.int pos), .val (.int ch), .val (.int ch2), .val (.int bI), .val .null, .val (.ref b11), .unset, .unset, .unset, .unset]) rfl kx) ?_
  show OwnOk p e below _ (T11.setTop (mkF m 48 #[.val (.int sel), .val (.int shape), .val (.int pos), .val (.int ch), .val (.int ch2), .val (.int bI), .val .null, .val (.ref b11), .unset, .unset, .unset, .unset] []))
  refine own_up (fun tx kx => XS.aload X11.here hx rfl (hb hby at_48) rfl rfl kx) ?_
  show OwnOk p e below _ (T11.setTop (mkF m 50 #[.val (.int sel), .val (.int shape), .val (.int pos), .val (.int ch), .val (.int ch2), .val (.int bI), .val .null, .val (.ref b11), .unset, .unset, .unset, .unset] [(.ref b11)]))
  refine own_up (fun tx kx => XS.iconst X11.here hx rfl (hb hby at_50) kx) ?_
  show OwnOk p e below _ (T11.setTop (mkF m 51 #[.val (.int sel), .val (.int shape), .val (.int pos), .val (.int ch), .val (.int ch2), .val (.int bI), .val .null, .val (.ref b11), .unset, .unset, .unset, .unset] [(.int (0 : Int32)), (.ref b11)]))
  refine own_up (fun tx kx => XS.aload X11.here hx rfl (hb hby at_51) rfl rfl kx) ?_
  show OwnOk p e below _ (T11.setTop (mkF m 53 #[.val (.int sel), .val (.int shape), .val (.int pos), .val (.int ch), .val (.int ch2), .val (.int bI), .val .null, .val (.ref b11), .unset, .unset, .unset, .unset] [.null, (.int (0 : Int32)), (.ref b11)]))
  refine own_up (fun tx kx => XS.iconst X11.here hx rfl (hb hby at_53) kx) ?_
  show OwnOk p e below _ (T11.setTop (mkF m 54 #[.val (.int sel), .val (.int shape), .val (.int pos), .val (.int ch), .val (.int ch2), .val (.int bI), .val .null, .val (.ref b11), .unset, .unset, .unset, .unset] [(.int (0 : Int32)), .null, (.int (0 : Int32)), (.ref b11)]))
  refine own_up (fun tx kx => XS.iloadN X11.here hx rfl (hb hby at_54) rfl kx) ?_
  show OwnOk p e below _ (T11.setTop (mkF m 55 #[.val (.int sel), .val (.int shape), .val (.int pos), .val (.int ch), .val (.int ch2), .val (.int bI), .val .null, .val (.ref b11), .unset, .unset, .unset, .unset] [(.int ch), (.int (0 : Int32)), .null, (.int (0 : Int32)), (.ref b11)]))
  refine own_callS X11 hx hZ (y := (⟨"com/example/gridpost/gridpost/store/OperationKindFromWireNamePinLaw", "pick", "(Ljava/lang/String;II)C"⟩ : MethodName)) hown (wd_10 hw) (wd_11 hw) (wd_12 hw) (wd_13 hw) (by decide) (m_pickN l Z a0 hw (0 : Int32) ch h11 n0 OL13) e11 (argsL := [.null, (.int (0 : Int32)), (.int ch)]) (rest := [(.int (0 : Int32)), (.ref b11)]) (by rw [hml]; rfl) (lenOf pd_14 rfl) rfl rfl (W := 2) rfl (hb hby at_55) (by decide) (by decide) (by decide) (by decide) (fun T14 v14 L14 X14 hQ14 => ?_)
  obtain ⟨cc14, rfl, hc14, Nq14, hh14⟩ := hQ14
  have N14 := Fr.app N0 Nq14
  show OwnOk p e below _ (T14.setTop (mkF m 58 #[.val (.int sel), .val (.int shape), .val (.int pos), .val (.int ch), .val (.int ch2), .val (.int bI), .val .null, .val (.ref b11), .unset, .unset, .unset, .unset] [(.int cc14), (.int (0 : Int32)), (.ref b11)]))
  obtain ⟨cl15, Ar15, qc15, Sz15, Nn15, Hs15, Gf15⟩ := id V_b11
  have hin15 : ¬ ((0 : Int32) < 0 ∨ cl15.slots.size ≤ ((0 : Int32)).toNatClampNeg) := inb_of Sz15 ⟨by decide, by decide⟩
  obtain ⟨T16, h16, X16, e16, W16, st16⟩ := stC X14 hx hZ hh14 Ar15 (j := (0 : Int32)) hin15 (g := (mkF m 58 #[.val (.int sel), .val (.int shape), .val (.int pos), .val (.int ch), .val (.int ch2), .val (.int bI), .val .null, .val (.ref b11), .unset, .unset, .unset, .unset] [(.int cc14), (.int (0 : Int32)), (.ref b11)])) rfl rfl (hb hby at_58)
  have V_b11_16 : Arv Z h16 b11 k11 .char (5 : Int32) [(.int (nar .char cc14)), (.int (0 : Int32)), (.int (0 : Int32)), (.int (0 : Int32)), (.int (0 : Int32))] (.int (0 : Int32)) := Arv.set Ar15 qc15 Sz15 Nn15 Hs15 Gf15 (fits_nar_char _) W16 0 rfl (Nat.le_of_ble_eq_true rfl)
  have N16 := Fr.snoc X16 N14 n0_b11
  have OL17 := OL13.wr W16 n0_b11
  have hB17 := hB13.wr W16 (Safe.arr hZ.alike Ar15 (by decide))
  refine own_up st16 ?_
  show OwnOk p e below _ (T16.setTop (mkF m 59 #[.val (.int sel), .val (.int shape), .val (.int pos), .val (.int ch), .val (.int ch2), .val (.int bI), .val .null, .val (.ref b11), .unset, .unset, .unset, .unset] []))
  refine own_up (fun tx kx => XS.aload X16.here hx rfl (hb hby at_59) rfl rfl kx) ?_
  show OwnOk p e below _ (T16.setTop (mkF m 61 #[.val (.int sel), .val (.int shape), .val (.int pos), .val (.int ch), .val (.int ch2), .val (.int bI), .val .null, .val (.ref b11), .unset, .unset, .unset, .unset] [(.ref b11)]))
  refine own_up (fun tx kx => XS.iconst X16.here hx rfl (hb hby at_61) kx) ?_
  show OwnOk p e below _ (T16.setTop (mkF m 62 #[.val (.int sel), .val (.int shape), .val (.int pos), .val (.int ch), .val (.int ch2), .val (.int bI), .val .null, .val (.ref b11), .unset, .unset, .unset, .unset] [(.int (1 : Int32)), (.ref b11)]))
  refine own_up (fun tx kx => XS.aload X16.here hx rfl (hb hby at_62) rfl rfl kx) ?_
  show OwnOk p e below _ (T16.setTop (mkF m 64 #[.val (.int sel), .val (.int shape), .val (.int pos), .val (.int ch), .val (.int ch2), .val (.int bI), .val .null, .val (.ref b11), .unset, .unset, .unset, .unset] [.null, (.int (1 : Int32)), (.ref b11)]))
  refine own_up (fun tx kx => XS.iconst X16.here hx rfl (hb hby at_64) kx) ?_
  show OwnOk p e below _ (T16.setTop (mkF m 65 #[.val (.int sel), .val (.int shape), .val (.int pos), .val (.int ch), .val (.int ch2), .val (.int bI), .val .null, .val (.ref b11), .unset, .unset, .unset, .unset] [(.int (1 : Int32)), .null, (.int (1 : Int32)), (.ref b11)]))
  refine own_up (fun tx kx => XS.iloadN X16.here hx rfl (hb hby at_65) rfl kx) ?_
  show OwnOk p e below _ (T16.setTop (mkF m 66 #[.val (.int sel), .val (.int shape), .val (.int pos), .val (.int ch), .val (.int ch2), .val (.int bI), .val .null, .val (.ref b11), .unset, .unset, .unset, .unset] [(.int ch), (.int (1 : Int32)), .null, (.int (1 : Int32)), (.ref b11)]))
  refine own_up (fun tx kx => XS.bipush X16.here hx rfl (hb hby at_66) kx) ?_
  show OwnOk p e below _ (T16.setTop (mkF m 68 #[.val (.int sel), .val (.int shape), .val (.int pos), .val (.int ch), .val (.int ch2), .val (.int bI), .val .null, .val (.ref b11), .unset, .unset, .unset, .unset] [(.int (8 : Int32)), (.int ch), (.int (1 : Int32)), .null, (.int (1 : Int32)), (.ref b11)]))
  refine own_up (fun tx kx => XS.iushr X16.here hx rfl (hb hby at_68) rfl kx) ?_
  show OwnOk p e below _ (T16.setTop (mkF m 69 #[.val (.int sel), .val (.int shape), .val (.int pos), .val (.int ch), .val (.int ch2), .val (.int bI), .val .null, .val (.ref b11), .unset, .unset, .unset, .unset] [(.int ((ch.toUInt32 >>> ((8 : Int32) &&& 31).toUInt32).toInt32)), (.int (1 : Int32)), .null, (.int (1 : Int32)), (.ref b11)]))
  refine own_callS X16 hx hZ (y := (⟨"com/example/gridpost/gridpost/store/OperationKindFromWireNamePinLaw", "pick", "(Ljava/lang/String;II)C"⟩ : MethodName)) hown (wd_10 hw) (wd_11 hw) (wd_12 hw) (wd_13 hw) (by decide) (m_pickN l Z a0 hw (1 : Int32) ((ch.toUInt32 >>> ((8 : Int32) &&& 31).toUInt32).toInt32) h16 n0 OL17) e16 (argsL := [.null, (.int (1 : Int32)), (.int ((ch.toUInt32 >>> ((8 : Int32) &&& 31).toUInt32).toInt32))]) (rest := [(.int (1 : Int32)), (.ref b11)]) (by rw [hml]; rfl) (lenOf pd_14 rfl) rfl rfl (W := 2) rfl (hb hby at_69) (by decide) (by decide) (by decide) (by decide) (fun T18 v18 L18 X18 hQ18 => ?_)
  obtain ⟨cc18, rfl, hc18, Nq18, hh18⟩ := hQ18
  have N18 := Fr.app N16 Nq18
  show OwnOk p e below _ (T18.setTop (mkF m 72 #[.val (.int sel), .val (.int shape), .val (.int pos), .val (.int ch), .val (.int ch2), .val (.int bI), .val .null, .val (.ref b11), .unset, .unset, .unset, .unset] [(.int cc18), (.int (1 : Int32)), (.ref b11)]))
  obtain ⟨cl19, Ar19, qc19, Sz19, Nn19, Hs19, Gf19⟩ := id V_b11_16
  have hin19 : ¬ ((1 : Int32) < 0 ∨ cl19.slots.size ≤ ((1 : Int32)).toNatClampNeg) := inb_of Sz19 ⟨by decide, by decide⟩
  obtain ⟨T20, h20, X20, e20, W20, st20⟩ := stC X18 hx hZ hh18 Ar19 (j := (1 : Int32)) hin19 (g := (mkF m 72 #[.val (.int sel), .val (.int shape), .val (.int pos), .val (.int ch), .val (.int ch2), .val (.int bI), .val .null, .val (.ref b11), .unset, .unset, .unset, .unset] [(.int cc18), (.int (1 : Int32)), (.ref b11)])) rfl rfl (hb hby at_72)
  have V_b11_20 : Arv Z h20 b11 k11 .char (5 : Int32) [(.int (nar .char cc14)), (.int (nar .char cc18)), (.int (0 : Int32)), (.int (0 : Int32)), (.int (0 : Int32))] (.int (0 : Int32)) := Arv.set Ar19 qc19 Sz19 Nn19 Hs19 Gf19 (fits_nar_char _) W20 1 rfl (Nat.le_of_ble_eq_true rfl)
  have N20 := Fr.snoc X20 N18 n0_b11
  have OL21 := OL17.wr W20 n0_b11
  have hB21 := hB17.wr W20 (Safe.arr hZ.alike Ar19 (by decide))
  refine own_up st20 ?_
  show OwnOk p e below _ (T20.setTop (mkF m 73 #[.val (.int sel), .val (.int shape), .val (.int pos), .val (.int ch), .val (.int ch2), .val (.int bI), .val .null, .val (.ref b11), .unset, .unset, .unset, .unset] []))
  refine own_up (fun tx kx => XS.aload X20.here hx rfl (hb hby at_73) rfl rfl kx) ?_
  show OwnOk p e below _ (T20.setTop (mkF m 75 #[.val (.int sel), .val (.int shape), .val (.int pos), .val (.int ch), .val (.int ch2), .val (.int bI), .val .null, .val (.ref b11), .unset, .unset, .unset, .unset] [(.ref b11)]))
  refine own_up (fun tx kx => XS.iconst X20.here hx rfl (hb hby at_75) kx) ?_
  show OwnOk p e below _ (T20.setTop (mkF m 76 #[.val (.int sel), .val (.int shape), .val (.int pos), .val (.int ch), .val (.int ch2), .val (.int bI), .val .null, .val (.ref b11), .unset, .unset, .unset, .unset] [(.int (2 : Int32)), (.ref b11)]))
  refine own_up (fun tx kx => XS.aload X20.here hx rfl (hb hby at_76) rfl rfl kx) ?_
  show OwnOk p e below _ (T20.setTop (mkF m 78 #[.val (.int sel), .val (.int shape), .val (.int pos), .val (.int ch), .val (.int ch2), .val (.int bI), .val .null, .val (.ref b11), .unset, .unset, .unset, .unset] [.null, (.int (2 : Int32)), (.ref b11)]))
  refine own_up (fun tx kx => XS.iconst X20.here hx rfl (hb hby at_78) kx) ?_
  show OwnOk p e below _ (T20.setTop (mkF m 79 #[.val (.int sel), .val (.int shape), .val (.int pos), .val (.int ch), .val (.int ch2), .val (.int bI), .val .null, .val (.ref b11), .unset, .unset, .unset, .unset] [(.int (2 : Int32)), .null, (.int (2 : Int32)), (.ref b11)]))
  refine own_up (fun tx kx => XS.iloadN X20.here hx rfl (hb hby at_79) rfl kx) ?_
  show OwnOk p e below _ (T20.setTop (mkF m 80 #[.val (.int sel), .val (.int shape), .val (.int pos), .val (.int ch), .val (.int ch2), .val (.int bI), .val .null, .val (.ref b11), .unset, .unset, .unset, .unset] [(.int ch), (.int (2 : Int32)), .null, (.int (2 : Int32)), (.ref b11)]))
  refine own_up (fun tx kx => XS.bipush X20.here hx rfl (hb hby at_80) kx) ?_
  show OwnOk p e below _ (T20.setTop (mkF m 82 #[.val (.int sel), .val (.int shape), .val (.int pos), .val (.int ch), .val (.int ch2), .val (.int bI), .val .null, .val (.ref b11), .unset, .unset, .unset, .unset] [(.int (16 : Int32)), (.int ch), (.int (2 : Int32)), .null, (.int (2 : Int32)), (.ref b11)]))
  refine own_up (fun tx kx => XS.iushr X20.here hx rfl (hb hby at_82) rfl kx) ?_
  show OwnOk p e below _ (T20.setTop (mkF m 83 #[.val (.int sel), .val (.int shape), .val (.int pos), .val (.int ch), .val (.int ch2), .val (.int bI), .val .null, .val (.ref b11), .unset, .unset, .unset, .unset] [(.int ((ch.toUInt32 >>> ((16 : Int32) &&& 31).toUInt32).toInt32)), (.int (2 : Int32)), .null, (.int (2 : Int32)), (.ref b11)]))
  refine own_callS X20 hx hZ (y := (⟨"com/example/gridpost/gridpost/store/OperationKindFromWireNamePinLaw", "pick", "(Ljava/lang/String;II)C"⟩ : MethodName)) hown (wd_10 hw) (wd_11 hw) (wd_12 hw) (wd_13 hw) (by decide) (m_pickN l Z a0 hw (2 : Int32) ((ch.toUInt32 >>> ((16 : Int32) &&& 31).toUInt32).toInt32) h20 n0 OL21) e20 (argsL := [.null, (.int (2 : Int32)), (.int ((ch.toUInt32 >>> ((16 : Int32) &&& 31).toUInt32).toInt32))]) (rest := [(.int (2 : Int32)), (.ref b11)]) (by rw [hml]; rfl) (lenOf pd_14 rfl) rfl rfl (W := 2) rfl (hb hby at_83) (by decide) (by decide) (by decide) (by decide) (fun T22 v22 L22 X22 hQ22 => ?_)
  obtain ⟨cc22, rfl, hc22, Nq22, hh22⟩ := hQ22
  have N22 := Fr.app N20 Nq22
  show OwnOk p e below _ (T22.setTop (mkF m 86 #[.val (.int sel), .val (.int shape), .val (.int pos), .val (.int ch), .val (.int ch2), .val (.int bI), .val .null, .val (.ref b11), .unset, .unset, .unset, .unset] [(.int cc22), (.int (2 : Int32)), (.ref b11)]))
  obtain ⟨cl23, Ar23, qc23, Sz23, Nn23, Hs23, Gf23⟩ := id V_b11_20
  have hin23 : ¬ ((2 : Int32) < 0 ∨ cl23.slots.size ≤ ((2 : Int32)).toNatClampNeg) := inb_of Sz23 ⟨by decide, by decide⟩
  obtain ⟨T24, h24, X24, e24, W24, st24⟩ := stC X22 hx hZ hh22 Ar23 (j := (2 : Int32)) hin23 (g := (mkF m 86 #[.val (.int sel), .val (.int shape), .val (.int pos), .val (.int ch), .val (.int ch2), .val (.int bI), .val .null, .val (.ref b11), .unset, .unset, .unset, .unset] [(.int cc22), (.int (2 : Int32)), (.ref b11)])) rfl rfl (hb hby at_86)
  have V_b11_24 : Arv Z h24 b11 k11 .char (5 : Int32) [(.int (nar .char cc14)), (.int (nar .char cc18)), (.int (nar .char cc22)), (.int (0 : Int32)), (.int (0 : Int32))] (.int (0 : Int32)) := Arv.set Ar23 qc23 Sz23 Nn23 Hs23 Gf23 (fits_nar_char _) W24 2 rfl (Nat.le_of_ble_eq_true rfl)
  have N24 := Fr.snoc X24 N22 n0_b11
  have OL25 := OL21.wr W24 n0_b11
  have hB25 := hB21.wr W24 (Safe.arr hZ.alike Ar23 (by decide))
  refine own_up st24 ?_
  show OwnOk p e below _ (T24.setTop (mkF m 87 #[.val (.int sel), .val (.int shape), .val (.int pos), .val (.int ch), .val (.int ch2), .val (.int bI), .val .null, .val (.ref b11), .unset, .unset, .unset, .unset] []))
  refine own_up (fun tx kx => XS.aload X24.here hx rfl (hb hby at_87) rfl rfl kx) ?_
  show OwnOk p e below _ (T24.setTop (mkF m 89 #[.val (.int sel), .val (.int shape), .val (.int pos), .val (.int ch), .val (.int ch2), .val (.int bI), .val .null, .val (.ref b11), .unset, .unset, .unset, .unset] [(.ref b11)]))
  refine own_up (fun tx kx => XS.iconst X24.here hx rfl (hb hby at_89) kx) ?_
  show OwnOk p e below _ (T24.setTop (mkF m 90 #[.val (.int sel), .val (.int shape), .val (.int pos), .val (.int ch), .val (.int ch2), .val (.int bI), .val .null, .val (.ref b11), .unset, .unset, .unset, .unset] [(.int (3 : Int32)), (.ref b11)]))
  refine own_up (fun tx kx => XS.aload X24.here hx rfl (hb hby at_90) rfl rfl kx) ?_
  show OwnOk p e below _ (T24.setTop (mkF m 92 #[.val (.int sel), .val (.int shape), .val (.int pos), .val (.int ch), .val (.int ch2), .val (.int bI), .val .null, .val (.ref b11), .unset, .unset, .unset, .unset] [.null, (.int (3 : Int32)), (.ref b11)]))
  refine own_up (fun tx kx => XS.iconst X24.here hx rfl (hb hby at_92) kx) ?_
  show OwnOk p e below _ (T24.setTop (mkF m 93 #[.val (.int sel), .val (.int shape), .val (.int pos), .val (.int ch), .val (.int ch2), .val (.int bI), .val .null, .val (.ref b11), .unset, .unset, .unset, .unset] [(.int (3 : Int32)), .null, (.int (3 : Int32)), (.ref b11)]))
  refine own_up (fun tx kx => XS.iloadN X24.here hx rfl (hb hby at_93) rfl kx) ?_
  show OwnOk p e below _ (T24.setTop (mkF m 94 #[.val (.int sel), .val (.int shape), .val (.int pos), .val (.int ch), .val (.int ch2), .val (.int bI), .val .null, .val (.ref b11), .unset, .unset, .unset, .unset] [(.int ch), (.int (3 : Int32)), .null, (.int (3 : Int32)), (.ref b11)]))
  refine own_up (fun tx kx => XS.bipush X24.here hx rfl (hb hby at_94) kx) ?_
  show OwnOk p e below _ (T24.setTop (mkF m 96 #[.val (.int sel), .val (.int shape), .val (.int pos), .val (.int ch), .val (.int ch2), .val (.int bI), .val .null, .val (.ref b11), .unset, .unset, .unset, .unset] [(.int (24 : Int32)), (.int ch), (.int (3 : Int32)), .null, (.int (3 : Int32)), (.ref b11)]))
  refine own_up (fun tx kx => XS.iushr X24.here hx rfl (hb hby at_96) rfl kx) ?_
  show OwnOk p e below _ (T24.setTop (mkF m 97 #[.val (.int sel), .val (.int shape), .val (.int pos), .val (.int ch), .val (.int ch2), .val (.int bI), .val .null, .val (.ref b11), .unset, .unset, .unset, .unset] [(.int ((ch.toUInt32 >>> ((24 : Int32) &&& 31).toUInt32).toInt32)), (.int (3 : Int32)), .null, (.int (3 : Int32)), (.ref b11)]))
  refine own_callS X24 hx hZ (y := (⟨"com/example/gridpost/gridpost/store/OperationKindFromWireNamePinLaw", "pick", "(Ljava/lang/String;II)C"⟩ : MethodName)) hown (wd_10 hw) (wd_11 hw) (wd_12 hw) (wd_13 hw) (by decide) (m_pickN l Z a0 hw (3 : Int32) ((ch.toUInt32 >>> ((24 : Int32) &&& 31).toUInt32).toInt32) h24 n0 OL25) e24 (argsL := [.null, (.int (3 : Int32)), (.int ((ch.toUInt32 >>> ((24 : Int32) &&& 31).toUInt32).toInt32))]) (rest := [(.int (3 : Int32)), (.ref b11)]) (by rw [hml]; rfl) (lenOf pd_14 rfl) rfl rfl (W := 2) rfl (hb hby at_97) (by decide) (by decide) (by decide) (by decide) (fun T26 v26 L26 X26 hQ26 => ?_)
  obtain ⟨cc26, rfl, hc26, Nq26, hh26⟩ := hQ26
  have N26 := Fr.app N24 Nq26
  show OwnOk p e below _ (T26.setTop (mkF m 100 #[.val (.int sel), .val (.int shape), .val (.int pos), .val (.int ch), .val (.int ch2), .val (.int bI), .val .null, .val (.ref b11), .unset, .unset, .unset, .unset] [(.int cc26), (.int (3 : Int32)), (.ref b11)]))
  obtain ⟨cl27, Ar27, qc27, Sz27, Nn27, Hs27, Gf27⟩ := id V_b11_24
  have hin27 : ¬ ((3 : Int32) < 0 ∨ cl27.slots.size ≤ ((3 : Int32)).toNatClampNeg) := inb_of Sz27 ⟨by decide, by decide⟩
  obtain ⟨T28, h28, X28, e28, W28, st28⟩ := stC X26 hx hZ hh26 Ar27 (j := (3 : Int32)) hin27 (g := (mkF m 100 #[.val (.int sel), .val (.int shape), .val (.int pos), .val (.int ch), .val (.int ch2), .val (.int bI), .val .null, .val (.ref b11), .unset, .unset, .unset, .unset] [(.int cc26), (.int (3 : Int32)), (.ref b11)])) rfl rfl (hb hby at_100)
  have V_b11_28 : Arv Z h28 b11 k11 .char (5 : Int32) [(.int (nar .char cc14)), (.int (nar .char cc18)), (.int (nar .char cc22)), (.int (nar .char cc26)), (.int (0 : Int32))] (.int (0 : Int32)) := Arv.set Ar27 qc27 Sz27 Nn27 Hs27 Gf27 (fits_nar_char _) W28 3 rfl (Nat.le_of_ble_eq_true rfl)
  have N28 := Fr.snoc X28 N26 n0_b11
  have OL29 := OL25.wr W28 n0_b11
  have hB29 := hB25.wr W28 (Safe.arr hZ.alike Ar27 (by decide))
  refine own_up st28 ?_
  show OwnOk p e below _ (T28.setTop (mkF m 101 #[.val (.int sel), .val (.int shape), .val (.int pos), .val (.int ch), .val (.int ch2), .val (.int bI), .val .null, .val (.ref b11), .unset, .unset, .unset, .unset] []))
  refine own_up (fun tx kx => XS.aload X28.here hx rfl (hb hby at_101) rfl rfl kx) ?_
  show OwnOk p e below _ (T28.setTop (mkF m 103 #[.val (.int sel), .val (.int shape), .val (.int pos), .val (.int ch), .val (.int ch2), .val (.int bI), .val .null, .val (.ref b11), .unset, .unset, .unset, .unset] [(.ref b11)]))
  refine own_up (fun tx kx => XS.iconst X28.here hx rfl (hb hby at_103) kx) ?_
  show OwnOk p e below _ (T28.setTop (mkF m 104 #[.val (.int sel), .val (.int shape), .val (.int pos), .val (.int ch), .val (.int ch2), .val (.int bI), .val .null, .val (.ref b11), .unset, .unset, .unset, .unset] [(.int (4 : Int32)), (.ref b11)]))
  refine own_up (fun tx kx => XS.aload X28.here hx rfl (hb hby at_104) rfl rfl kx) ?_
  show OwnOk p e below _ (T28.setTop (mkF m 106 #[.val (.int sel), .val (.int shape), .val (.int pos), .val (.int ch), .val (.int ch2), .val (.int bI), .val .null, .val (.ref b11), .unset, .unset, .unset, .unset] [.null, (.int (4 : Int32)), (.ref b11)]))
  refine own_up (fun tx kx => XS.iconst X28.here hx rfl (hb hby at_106) kx) ?_
  show OwnOk p e below _ (T28.setTop (mkF m 107 #[.val (.int sel), .val (.int shape), .val (.int pos), .val (.int ch), .val (.int ch2), .val (.int bI), .val .null, .val (.ref b11), .unset, .unset, .unset, .unset] [(.int (4 : Int32)), .null, (.int (4 : Int32)), (.ref b11)]))
  refine own_up (fun tx kx => XS.iload X28.here hx rfl (hb hby at_107) rfl kx) ?_
  show OwnOk p e below _ (T28.setTop (mkF m 109 #[.val (.int sel), .val (.int shape), .val (.int pos), .val (.int ch), .val (.int ch2), .val (.int bI), .val .null, .val (.ref b11), .unset, .unset, .unset, .unset] [(.int ch2), (.int (4 : Int32)), .null, (.int (4 : Int32)), (.ref b11)]))
  refine own_callS X28 hx hZ (y := (⟨"com/example/gridpost/gridpost/store/OperationKindFromWireNamePinLaw", "pick", "(Ljava/lang/String;II)C"⟩ : MethodName)) hown (wd_10 hw) (wd_11 hw) (wd_12 hw) (wd_13 hw) (by decide) (m_pickN l Z a0 hw (4 : Int32) ch2 h28 n0 OL29) e28 (argsL := [.null, (.int (4 : Int32)), (.int ch2)]) (rest := [(.int (4 : Int32)), (.ref b11)]) (by rw [hml]; rfl) (lenOf pd_14 rfl) rfl rfl (W := 2) rfl (hb hby at_109) (by decide) (by decide) (by decide) (by decide) (fun T30 v30 L30 X30 hQ30 => ?_)
  obtain ⟨cc30, rfl, hc30, Nq30, hh30⟩ := hQ30
  have N30 := Fr.app N28 Nq30
  show OwnOk p e below _ (T30.setTop (mkF m 112 #[.val (.int sel), .val (.int shape), .val (.int pos), .val (.int ch), .val (.int ch2), .val (.int bI), .val .null, .val (.ref b11), .unset, .unset, .unset, .unset] [(.int cc30), (.int (4 : Int32)), (.ref b11)]))
  obtain ⟨cl31, Ar31, qc31, Sz31, Nn31, Hs31, Gf31⟩ := id V_b11_28
  have hin31 : ¬ ((4 : Int32) < 0 ∨ cl31.slots.size ≤ ((4 : Int32)).toNatClampNeg) := inb_of Sz31 ⟨by decide, by decide⟩
  obtain ⟨T32, h32, X32, e32, W32, st32⟩ := stC X30 hx hZ hh30 Ar31 (j := (4 : Int32)) hin31 (g := (mkF m 112 #[.val (.int sel), .val (.int shape), .val (.int pos), .val (.int ch), .val (.int ch2), .val (.int bI), .val .null, .val (.ref b11), .unset, .unset, .unset, .unset] [(.int cc30), (.int (4 : Int32)), (.ref b11)])) rfl rfl (hb hby at_112)
  have V_b11_32 : Arv Z h32 b11 k11 .char (5 : Int32) [(.int (nar .char cc14)), (.int (nar .char cc18)), (.int (nar .char cc22)), (.int (nar .char cc26)), (.int (nar .char cc30))] (.int (0 : Int32)) := Arv.set Ar31 qc31 Sz31 Nn31 Hs31 Gf31 (fits_nar_char _) W32 4 rfl (Nat.le_of_ble_eq_true rfl)
  have N32 := Fr.snoc X32 N30 n0_b11
  have OL33 := OL29.wr W32 n0_b11
  have hB33 := hB29.wr W32 (Safe.arr hZ.alike Ar31 (by decide))
  refine own_up st32 ?_
  show OwnOk p e below _ (T32.setTop (mkF m 113 #[.val (.int sel), .val (.int shape), .val (.int pos), .val (.int ch), .val (.int ch2), .val (.int bI), .val .null, .val (.ref b11), .unset, .unset, .unset, .unset] []))
  refine own_up (fun tx kx => XS.iloadN X32.here hx rfl (hb hby at_113) rfl kx) ?_
  show OwnOk p e below _ (T32.setTop (mkF m 114 #[.val (.int sel), .val (.int shape), .val (.int pos), .val (.int ch), .val (.int ch2), .val (.int bI), .val .null, .val (.ref b11), .unset, .unset, .unset, .unset] [(.int pos)]))
  refine own_up (fun tx kx => X32.ldcInt hx hown (mvT hZ (wd_0 hw)) (g := (mkF m 114 #[.val (.int sel), .val (.int shape), .val (.int pos), .val (.int ch), .val (.int ch2), .val (.int bI), .val .null, .val (.ref b11), .unset, .unset, .unset, .unset] [(.int pos)])) rfl (hb hby at_114) _ kx) ?_
  show OwnOk p e below _ (T32.setTop (mkF m 116 #[.val (.int sel), .val (.int shape), .val (.int pos), .val (.int ch), .val (.int ch2), .val (.int bI), .val .null, .val (.ref b11), .unset, .unset, .unset, .unset] [(.int (2147483647 : Int32)), (.int pos)]))
  refine own_up (fun tx kx => XS.iand X32.here hx rfl (hb hby at_116) rfl kx) ?_
  show OwnOk p e below _ (T32.setTop (mkF m 117 #[.val (.int sel), .val (.int shape), .val (.int pos), .val (.int ch), .val (.int ch2), .val (.int bI), .val .null, .val (.ref b11), .unset, .unset, .unset, .unset] [(.int (pos &&& (2147483647 : Int32)))]))
  refine own_up (fun tx kx => XS.bipush X32.here hx rfl (hb hby at_117) kx) ?_
  show OwnOk p e below _ (T32.setTop (mkF m 119 #[.val (.int sel), .val (.int shape), .val (.int pos), .val (.int ch), .val (.int ch2), .val (.int bI), .val .null, .val (.ref b11), .unset, .unset, .unset, .unset] [(.int (10 : Int32)), (.int (pos &&& (2147483647 : Int32)))]))
  refine own_up (fun tx kx => Jvm.RoadKit.iremM (g := (mkF m 119 #[.val (.int sel), .val (.int shape), .val (.int pos), .val (.int ch), .val (.int ch2), .val (.int bI), .val .null, .val (.ref b11), .unset, .unset, .unset, .unset] [(.int (10 : Int32)), (.int (pos &&& (2147483647 : Int32)))])) X32 hx rfl (hb hby at_119) rfl (by decide) kx) ?_
  show OwnOk p e below _ (T32.setTop (mkF m 120 #[.val (.int sel), .val (.int shape), .val (.int pos), .val (.int ch), .val (.int ch2), .val (.int bI), .val .null, .val (.ref b11), .unset, .unset, .unset, .unset] [(.int ((pos &&& (2147483647 : Int32)) % (10 : Int32)))]))
  obtain ⟨mi, hmi, emi⟩ := own_idx pos 10 (by decide) (by decide)
  have emi : (pos &&& (2147483647 : Int32)) % (10 : Int32) = Int32.ofNat mi := emi
  rw [emi]
  show OwnOk p e below _ (T32.setTop (mkF m 120 #[.val (.int sel), .val (.int shape), .val (.int pos), .val (.int ch), .val (.int ch2), .val (.int bI), .val .null, .val (.ref b11), .unset, .unset, .unset, .unset] [(.int (Int32.ofNat mi))]))
  refine own_up (fun tx kx => XS.istore X32.here hx rfl (hb hby at_120) rfl (l' := #[.val (.int sel), .val (.int shape), .val (.int pos), .val (.int ch), .val (.int ch2), .val (.int bI), .val .null, .val (.ref b11), .val (.int (Int32.ofNat mi)), .unset, .unset, .unset]) rfl kx) ?_
  show OwnOk p e below _ (T32.setTop (mkF m 122 #[.val (.int sel), .val (.int shape), .val (.int pos), .val (.int ch), .val (.int ch2), .val (.int bI), .val .null, .val (.ref b11), .val (.int (Int32.ofNat mi)), .unset, .unset, .unset] []))
  refine own_up (fun tx kx => XS.iload X32.here hx rfl (hb hby at_122) rfl kx) ?_
  show OwnOk p e below _ (T32.setTop (mkF m 124 #[.val (.int sel), .val (.int shape), .val (.int pos), .val (.int ch), .val (.int ch2), .val (.int bI), .val .null, .val (.ref b11), .val (.int (Int32.ofNat mi)), .unset, .unset, .unset] [(.int (Int32.ofNat mi))]))
  refine own_up (fun tx kx => XS.iconst X32.here hx rfl (hb hby at_124) kx) ?_
  show OwnOk p e below _ (T32.setTop (mkF m 125 #[.val (.int sel), .val (.int shape), .val (.int pos), .val (.int ch), .val (.int ch2), .val (.int bI), .val .null, .val (.ref b11), .val (.int (Int32.ofNat mi)), .unset, .unset, .unset] [(.int (5 : Int32)), (.int (Int32.ofNat mi))]))
  by_cases h5 : (Int32.ofNat mi) < (5 : Int32)
  · refine own_up (fun tx kx => XS.icmpNo X32.here hx rfl (hb hby at_125) rfl (tlt h5).2.1 kx) ?_
    show OwnOk p e below _ (T32.setTop (mkF m 128 #[.val (.int sel), .val (.int shape), .val (.int pos), .val (.int ch), .val (.int ch2), .val (.int bI), .val .null, .val (.ref b11), .val (.int (Int32.ofNat mi)), .unset, .unset, .unset] []))
    have hm5 : mi < 5 := Nat.lt_of_not_le fun q => own_nlt (i := 5) q (by omega) h5
    have hm : mi = 0 ∨ mi = 1 ∨ mi = 2 ∨ mi = 3 ∨ mi = 4 := by omega
    rcases hm with rfl | rfl | rfl | rfl | rfl
    · show OwnOk p e below _ (T32.setTop (mkF m 128 #[.val (.int sel), .val (.int shape), .val (.int pos), .val (.int ch), .val (.int ch2), .val (.int bI), .val .null, .val (.ref b11), .val (.int (0 : Int32)), .unset, .unset, .unset] []))
      refine own_up (fun tx kx => XS.aload X32.here hx rfl (hb hby at_128) rfl rfl kx) ?_
      show OwnOk p e below _ (T32.setTop (mkF m 130 #[.val (.int sel), .val (.int shape), .val (.int pos), .val (.int ch), .val (.int ch2), .val (.int bI), .val .null, .val (.ref b11), .val (.int (0 : Int32)), .unset, .unset, .unset] [(.ref b11)]))
      refine own_up (fun tx kx => XS.iload X32.here hx rfl (hb hby at_130) rfl kx) ?_
      show OwnOk p e below _ (T32.setTop (mkF m 132 #[.val (.int sel), .val (.int shape), .val (.int pos), .val (.int ch), .val (.int ch2), .val (.int bI), .val .null, .val (.ref b11), .val (.int (0 : Int32)), .unset, .unset, .unset] [(.int (0 : Int32)), (.ref b11)]))
      refine own_up (fun tx kx => XS.iload X32.here hx rfl (hb hby at_132) rfl kx) ?_
      show OwnOk p e below _ (T32.setTop (mkF m 134 #[.val (.int sel), .val (.int shape), .val (.int pos), .val (.int ch), .val (.int ch2), .val (.int bI), .val .null, .val (.ref b11), .val (.int (0 : Int32)), .unset, .unset, .unset] [(.int ch2), (.int (0 : Int32)), (.ref b11)]))
      refine own_up (fun tx kx => XS.bipush X32.here hx rfl (hb hby at_134) kx) ?_
      show OwnOk p e below _ (T32.setTop (mkF m 136 #[.val (.int sel), .val (.int shape), .val (.int pos), .val (.int ch), .val (.int ch2), .val (.int bI), .val .null, .val (.ref b11), .val (.int (0 : Int32)), .unset, .unset, .unset] [(.int (8 : Int32)), (.int ch2), (.int (0 : Int32)), (.ref b11)]))
      refine own_up (fun tx kx => XS.iushr X32.here hx rfl (hb hby at_136) rfl kx) ?_
      show OwnOk p e below _ (T32.setTop (mkF m 137 #[.val (.int sel), .val (.int shape), .val (.int pos), .val (.int ch), .val (.int ch2), .val (.int bI), .val .null, .val (.ref b11), .val (.int (0 : Int32)), .unset, .unset, .unset] [(.int ((ch2.toUInt32 >>> ((8 : Int32) &&& 31).toUInt32).toInt32)), (.int (0 : Int32)), (.ref b11)]))
      refine own_up (fun tx kx => XS.sipush X32.here hx rfl (hb hby at_137) kx) ?_
      show OwnOk p e below _ (T32.setTop (mkF m 140 #[.val (.int sel), .val (.int shape), .val (.int pos), .val (.int ch), .val (.int ch2), .val (.int bI), .val .null, .val (.ref b11), .val (.int (0 : Int32)), .unset, .unset, .unset] [(.int (255 : Int32)), (.int ((ch2.toUInt32 >>> ((8 : Int32) &&& 31).toUInt32).toInt32)), (.int (0 : Int32)), (.ref b11)]))
      refine own_up (fun tx kx => XS.iand X32.here hx rfl (hb hby at_140) rfl kx) ?_
      show OwnOk p e below _ (T32.setTop (mkF m 141 #[.val (.int sel), .val (.int shape), .val (.int pos), .val (.int ch), .val (.int ch2), .val (.int bI), .val .null, .val (.ref b11), .val (.int (0 : Int32)), .unset, .unset, .unset] [(.int (((ch2.toUInt32 >>> ((8 : Int32) &&& 31).toUInt32).toInt32) &&& (255 : Int32))), (.int (0 : Int32)), (.ref b11)]))
      refine own_up (fun tx kx => XS.i2c X32.here hx rfl (hb hby at_141) rfl kx) ?_
      show OwnOk p e below _ (T32.setTop (mkF m 142 #[.val (.int sel), .val (.int shape), .val (.int pos), .val (.int ch), .val (.int ch2), .val (.int bI), .val .null, .val (.ref b11), .val (.int (0 : Int32)), .unset, .unset, .unset] [(.int ((((ch2.toUInt32 >>> ((8 : Int32) &&& 31).toUInt32).toInt32) &&& (255 : Int32)).toUInt32.toUInt16.toUInt32.toInt32)), (.int (0 : Int32)), (.ref b11)]))
      obtain ⟨cl34, Ar34, qc34, Sz34, Nn34, Hs34, Gf34⟩ := id V_b11_32
      have hin34 : ¬ ((0 : Int32) < 0 ∨ cl34.slots.size ≤ ((0 : Int32)).toNatClampNeg) := inb_of Sz34 ⟨by decide, by decide⟩
      obtain ⟨T35, h35, X35, e35, W35, st35⟩ := stC X32 hx hZ e32 Ar34 (j := (0 : Int32)) hin34 (g := (mkF m 142 #[.val (.int sel), .val (.int shape), .val (.int pos), .val (.int ch), .val (.int ch2), .val (.int bI), .val .null, .val (.ref b11), .val (.int (0 : Int32)), .unset, .unset, .unset] [(.int ((((ch2.toUInt32 >>> ((8 : Int32) &&& 31).toUInt32).toInt32) &&& (255 : Int32)).toUInt32.toUInt16.toUInt32.toInt32)), (.int (0 : Int32)), (.ref b11)])) rfl rfl (hb hby at_142)
      have V_b11_35 : Arv Z h35 b11 k11 .char (5 : Int32) [(.int (nar .char ((((ch2.toUInt32 >>> ((8 : Int32) &&& 31).toUInt32).toInt32) &&& (255 : Int32)).toUInt32.toUInt16.toUInt32.toInt32))), (.int (nar .char cc18)), (.int (nar .char cc22)), (.int (nar .char cc26)), (.int (nar .char cc30))] (.int (0 : Int32)) := Arv.set Ar34 qc34 Sz34 Nn34 Hs34 Gf34 (fits_nar_char _) W35 0 rfl (Nat.le_of_ble_eq_true rfl)
      have N35 := Fr.snoc X35 N32 n0_b11
      have OL36 := OL33.wr W35 n0_b11
      have hB36 := hB33.wr W35 (Safe.arr hZ.alike Ar34 (by decide))
      refine own_up st35 ?_
      show OwnOk p e below _ (T35.setTop (mkF m 143 #[.val (.int sel), .val (.int shape), .val (.int pos), .val (.int ch), .val (.int ch2), .val (.int bI), .val .null, .val (.ref b11), .val (.int (0 : Int32)), .unset, .unset, .unset] []))
      exact law_143 l Z a0 hw sel shape pos ch ch2 bI (0 : Int32) .null b11 k11 cz w0 w1 w2 s0 s1 s2 u0 u1 u2 va k0 k1 k2 kva (nar .char ((((ch2.toUInt32 >>> ((8 : Int32) &&& 31).toUInt32).toInt32) &&& (255 : Int32)).toUInt32.toUInt16.toUInt32.toInt32)) (nar .char cc18) (nar .char cc22) (nar .char cc26) (nar .char cc30) hx hby hml hret hlk (X35.mono (Nat.le_of_ble_eq_true rfl) (Nat.le_of_ble_eq_true rfl)) e35 hZ hown n0 OL36 N35 hB36 SC hcz S0 W0 F0 E0 G0 D0 V0 S1 W1 F1 E1 G1 D1 V1 S2 W2 F2 E2 G2 D2 V2 SV EV VV V_b11_35 (own_chy ((ch2.toUInt32 >>> ((8 : Int32) &&& 31).toUInt32).toInt32)) (own_ncl hc18) (own_ncl hc22) (own_ncl hc26) (own_ncl hc30)
    · show OwnOk p e below _ (T32.setTop (mkF m 128 #[.val (.int sel), .val (.int shape), .val (.int pos), .val (.int ch), .val (.int ch2), .val (.int bI), .val .null, .val (.ref b11), .val (.int (1 : Int32)), .unset, .unset, .unset] []))
      refine own_up (fun tx kx => XS.aload X32.here hx rfl (hb hby at_128) rfl rfl kx) ?_
      show OwnOk p e below _ (T32.setTop (mkF m 130 #[.val (.int sel), .val (.int shape), .val (.int pos), .val (.int ch), .val (.int ch2), .val (.int bI), .val .null, .val (.ref b11), .val (.int (1 : Int32)), .unset, .unset, .unset] [(.ref b11)]))
      refine own_up (fun tx kx => XS.iload X32.here hx rfl (hb hby at_130) rfl kx) ?_
      show OwnOk p e below _ (T32.setTop (mkF m 132 #[.val (.int sel), .val (.int shape), .val (.int pos), .val (.int ch), .val (.int ch2), .val (.int bI), .val .null, .val (.ref b11), .val (.int (1 : Int32)), .unset, .unset, .unset] [(.int (1 : Int32)), (.ref b11)]))
      refine own_up (fun tx kx => XS.iload X32.here hx rfl (hb hby at_132) rfl kx) ?_
      show OwnOk p e below _ (T32.setTop (mkF m 134 #[.val (.int sel), .val (.int shape), .val (.int pos), .val (.int ch), .val (.int ch2), .val (.int bI), .val .null, .val (.ref b11), .val (.int (1 : Int32)), .unset, .unset, .unset] [(.int ch2), (.int (1 : Int32)), (.ref b11)]))
      refine own_up (fun tx kx => XS.bipush X32.here hx rfl (hb hby at_134) kx) ?_
      show OwnOk p e below _ (T32.setTop (mkF m 136 #[.val (.int sel), .val (.int shape), .val (.int pos), .val (.int ch), .val (.int ch2), .val (.int bI), .val .null, .val (.ref b11), .val (.int (1 : Int32)), .unset, .unset, .unset] [(.int (8 : Int32)), (.int ch2), (.int (1 : Int32)), (.ref b11)]))
      refine own_up (fun tx kx => XS.iushr X32.here hx rfl (hb hby at_136) rfl kx) ?_
      show OwnOk p e below _ (T32.setTop (mkF m 137 #[.val (.int sel), .val (.int shape), .val (.int pos), .val (.int ch), .val (.int ch2), .val (.int bI), .val .null, .val (.ref b11), .val (.int (1 : Int32)), .unset, .unset, .unset] [(.int ((ch2.toUInt32 >>> ((8 : Int32) &&& 31).toUInt32).toInt32)), (.int (1 : Int32)), (.ref b11)]))
      refine own_up (fun tx kx => XS.sipush X32.here hx rfl (hb hby at_137) kx) ?_
      show OwnOk p e below _ (T32.setTop (mkF m 140 #[.val (.int sel), .val (.int shape), .val (.int pos), .val (.int ch), .val (.int ch2), .val (.int bI), .val .null, .val (.ref b11), .val (.int (1 : Int32)), .unset, .unset, .unset] [(.int (255 : Int32)), (.int ((ch2.toUInt32 >>> ((8 : Int32) &&& 31).toUInt32).toInt32)), (.int (1 : Int32)), (.ref b11)]))
      refine own_up (fun tx kx => XS.iand X32.here hx rfl (hb hby at_140) rfl kx) ?_
      show OwnOk p e below _ (T32.setTop (mkF m 141 #[.val (.int sel), .val (.int shape), .val (.int pos), .val (.int ch), .val (.int ch2), .val (.int bI), .val .null, .val (.ref b11), .val (.int (1 : Int32)), .unset, .unset, .unset] [(.int (((ch2.toUInt32 >>> ((8 : Int32) &&& 31).toUInt32).toInt32) &&& (255 : Int32))), (.int (1 : Int32)), (.ref b11)]))
      refine own_up (fun tx kx => XS.i2c X32.here hx rfl (hb hby at_141) rfl kx) ?_
      show OwnOk p e below _ (T32.setTop (mkF m 142 #[.val (.int sel), .val (.int shape), .val (.int pos), .val (.int ch), .val (.int ch2), .val (.int bI), .val .null, .val (.ref b11), .val (.int (1 : Int32)), .unset, .unset, .unset] [(.int ((((ch2.toUInt32 >>> ((8 : Int32) &&& 31).toUInt32).toInt32) &&& (255 : Int32)).toUInt32.toUInt16.toUInt32.toInt32)), (.int (1 : Int32)), (.ref b11)]))
      obtain ⟨cl37, Ar37, qc37, Sz37, Nn37, Hs37, Gf37⟩ := id V_b11_32
      have hin37 : ¬ ((1 : Int32) < 0 ∨ cl37.slots.size ≤ ((1 : Int32)).toNatClampNeg) := inb_of Sz37 ⟨by decide, by decide⟩
      obtain ⟨T38, h38, X38, e38, W38, st38⟩ := stC X32 hx hZ e32 Ar37 (j := (1 : Int32)) hin37 (g := (mkF m 142 #[.val (.int sel), .val (.int shape), .val (.int pos), .val (.int ch), .val (.int ch2), .val (.int bI), .val .null, .val (.ref b11), .val (.int (1 : Int32)), .unset, .unset, .unset] [(.int ((((ch2.toUInt32 >>> ((8 : Int32) &&& 31).toUInt32).toInt32) &&& (255 : Int32)).toUInt32.toUInt16.toUInt32.toInt32)), (.int (1 : Int32)), (.ref b11)])) rfl rfl (hb hby at_142)
      have V_b11_38 : Arv Z h38 b11 k11 .char (5 : Int32) [(.int (nar .char cc14)), (.int (nar .char ((((ch2.toUInt32 >>> ((8 : Int32) &&& 31).toUInt32).toInt32) &&& (255 : Int32)).toUInt32.toUInt16.toUInt32.toInt32))), (.int (nar .char cc22)), (.int (nar .char cc26)), (.int (nar .char cc30))] (.int (0 : Int32)) := Arv.set Ar37 qc37 Sz37 Nn37 Hs37 Gf37 (fits_nar_char _) W38 1 rfl (Nat.le_of_ble_eq_true rfl)
      have N38 := Fr.snoc X38 N32 n0_b11
      have OL39 := OL33.wr W38 n0_b11
      have hB39 := hB33.wr W38 (Safe.arr hZ.alike Ar37 (by decide))
      refine own_up st38 ?_
      show OwnOk p e below _ (T38.setTop (mkF m 143 #[.val (.int sel), .val (.int shape), .val (.int pos), .val (.int ch), .val (.int ch2), .val (.int bI), .val .null, .val (.ref b11), .val (.int (1 : Int32)), .unset, .unset, .unset] []))
      exact law_143 l Z a0 hw sel shape pos ch ch2 bI (1 : Int32) .null b11 k11 cz w0 w1 w2 s0 s1 s2 u0 u1 u2 va k0 k1 k2 kva (nar .char cc14) (nar .char ((((ch2.toUInt32 >>> ((8 : Int32) &&& 31).toUInt32).toInt32) &&& (255 : Int32)).toUInt32.toUInt16.toUInt32.toInt32)) (nar .char cc22) (nar .char cc26) (nar .char cc30) hx hby hml hret hlk (X38.mono (Nat.le_of_ble_eq_true rfl) (Nat.le_of_ble_eq_true rfl)) e38 hZ hown n0 OL39 N38 hB39 SC hcz S0 W0 F0 E0 G0 D0 V0 S1 W1 F1 E1 G1 D1 V1 S2 W2 F2 E2 G2 D2 V2 SV EV VV V_b11_38 (own_ncl hc14) (own_chy ((ch2.toUInt32 >>> ((8 : Int32) &&& 31).toUInt32).toInt32)) (own_ncl hc22) (own_ncl hc26) (own_ncl hc30)
    · show OwnOk p e below _ (T32.setTop (mkF m 128 #[.val (.int sel), .val (.int shape), .val (.int pos), .val (.int ch), .val (.int ch2), .val (.int bI), .val .null, .val (.ref b11), .val (.int (2 : Int32)), .unset, .unset, .unset] []))
      refine own_up (fun tx kx => XS.aload X32.here hx rfl (hb hby at_128) rfl rfl kx) ?_
      show OwnOk p e below _ (T32.setTop (mkF m 130 #[.val (.int sel), .val (.int shape), .val (.int pos), .val (.int ch), .val (.int ch2), .val (.int bI), .val .null, .val (.ref b11), .val (.int (2 : Int32)), .unset, .unset, .unset] [(.ref b11)]))
      refine own_up (fun tx kx => XS.iload X32.here hx rfl (hb hby at_130) rfl kx) ?_
      show OwnOk p e below _ (T32.setTop (mkF m 132 #[.val (.int sel), .val (.int shape), .val (.int pos), .val (.int ch), .val (.int ch2), .val (.int bI), .val .null, .val (.ref b11), .val (.int (2 : Int32)), .unset, .unset, .unset] [(.int (2 : Int32)), (.ref b11)]))
      refine own_up (fun tx kx => XS.iload X32.here hx rfl (hb hby at_132) rfl kx) ?_
      show OwnOk p e below _ (T32.setTop (mkF m 134 #[.val (.int sel), .val (.int shape), .val (.int pos), .val (.int ch), .val (.int ch2), .val (.int bI), .val .null, .val (.ref b11), .val (.int (2 : Int32)), .unset, .unset, .unset] [(.int ch2), (.int (2 : Int32)), (.ref b11)]))
      refine own_up (fun tx kx => XS.bipush X32.here hx rfl (hb hby at_134) kx) ?_
      show OwnOk p e below _ (T32.setTop (mkF m 136 #[.val (.int sel), .val (.int shape), .val (.int pos), .val (.int ch), .val (.int ch2), .val (.int bI), .val .null, .val (.ref b11), .val (.int (2 : Int32)), .unset, .unset, .unset] [(.int (8 : Int32)), (.int ch2), (.int (2 : Int32)), (.ref b11)]))
      refine own_up (fun tx kx => XS.iushr X32.here hx rfl (hb hby at_136) rfl kx) ?_
      show OwnOk p e below _ (T32.setTop (mkF m 137 #[.val (.int sel), .val (.int shape), .val (.int pos), .val (.int ch), .val (.int ch2), .val (.int bI), .val .null, .val (.ref b11), .val (.int (2 : Int32)), .unset, .unset, .unset] [(.int ((ch2.toUInt32 >>> ((8 : Int32) &&& 31).toUInt32).toInt32)), (.int (2 : Int32)), (.ref b11)]))
      refine own_up (fun tx kx => XS.sipush X32.here hx rfl (hb hby at_137) kx) ?_
      show OwnOk p e below _ (T32.setTop (mkF m 140 #[.val (.int sel), .val (.int shape), .val (.int pos), .val (.int ch), .val (.int ch2), .val (.int bI), .val .null, .val (.ref b11), .val (.int (2 : Int32)), .unset, .unset, .unset] [(.int (255 : Int32)), (.int ((ch2.toUInt32 >>> ((8 : Int32) &&& 31).toUInt32).toInt32)), (.int (2 : Int32)), (.ref b11)]))
      refine own_up (fun tx kx => XS.iand X32.here hx rfl (hb hby at_140) rfl kx) ?_
      show OwnOk p e below _ (T32.setTop (mkF m 141 #[.val (.int sel), .val (.int shape), .val (.int pos), .val (.int ch), .val (.int ch2), .val (.int bI), .val .null, .val (.ref b11), .val (.int (2 : Int32)), .unset, .unset, .unset] [(.int (((ch2.toUInt32 >>> ((8 : Int32) &&& 31).toUInt32).toInt32) &&& (255 : Int32))), (.int (2 : Int32)), (.ref b11)]))
      refine own_up (fun tx kx => XS.i2c X32.here hx rfl (hb hby at_141) rfl kx) ?_
      show OwnOk p e below _ (T32.setTop (mkF m 142 #[.val (.int sel), .val (.int shape), .val (.int pos), .val (.int ch), .val (.int ch2), .val (.int bI), .val .null, .val (.ref b11), .val (.int (2 : Int32)), .unset, .unset, .unset] [(.int ((((ch2.toUInt32 >>> ((8 : Int32) &&& 31).toUInt32).toInt32) &&& (255 : Int32)).toUInt32.toUInt16.toUInt32.toInt32)), (.int (2 : Int32)), (.ref b11)]))
      obtain ⟨cl40, Ar40, qc40, Sz40, Nn40, Hs40, Gf40⟩ := id V_b11_32
      have hin40 : ¬ ((2 : Int32) < 0 ∨ cl40.slots.size ≤ ((2 : Int32)).toNatClampNeg) := inb_of Sz40 ⟨by decide, by decide⟩
      obtain ⟨T41, h41, X41, e41, W41, st41⟩ := stC X32 hx hZ e32 Ar40 (j := (2 : Int32)) hin40 (g := (mkF m 142 #[.val (.int sel), .val (.int shape), .val (.int pos), .val (.int ch), .val (.int ch2), .val (.int bI), .val .null, .val (.ref b11), .val (.int (2 : Int32)), .unset, .unset, .unset] [(.int ((((ch2.toUInt32 >>> ((8 : Int32) &&& 31).toUInt32).toInt32) &&& (255 : Int32)).toUInt32.toUInt16.toUInt32.toInt32)), (.int (2 : Int32)), (.ref b11)])) rfl rfl (hb hby at_142)
      have V_b11_41 : Arv Z h41 b11 k11 .char (5 : Int32) [(.int (nar .char cc14)), (.int (nar .char cc18)), (.int (nar .char ((((ch2.toUInt32 >>> ((8 : Int32) &&& 31).toUInt32).toInt32) &&& (255 : Int32)).toUInt32.toUInt16.toUInt32.toInt32))), (.int (nar .char cc26)), (.int (nar .char cc30))] (.int (0 : Int32)) := Arv.set Ar40 qc40 Sz40 Nn40 Hs40 Gf40 (fits_nar_char _) W41 2 rfl (Nat.le_of_ble_eq_true rfl)
      have N41 := Fr.snoc X41 N32 n0_b11
      have OL42 := OL33.wr W41 n0_b11
      have hB42 := hB33.wr W41 (Safe.arr hZ.alike Ar40 (by decide))
      refine own_up st41 ?_
      show OwnOk p e below _ (T41.setTop (mkF m 143 #[.val (.int sel), .val (.int shape), .val (.int pos), .val (.int ch), .val (.int ch2), .val (.int bI), .val .null, .val (.ref b11), .val (.int (2 : Int32)), .unset, .unset, .unset] []))
      exact law_143 l Z a0 hw sel shape pos ch ch2 bI (2 : Int32) .null b11 k11 cz w0 w1 w2 s0 s1 s2 u0 u1 u2 va k0 k1 k2 kva (nar .char cc14) (nar .char cc18) (nar .char ((((ch2.toUInt32 >>> ((8 : Int32) &&& 31).toUInt32).toInt32) &&& (255 : Int32)).toUInt32.toUInt16.toUInt32.toInt32)) (nar .char cc26) (nar .char cc30) hx hby hml hret hlk (X41.mono (Nat.le_of_ble_eq_true rfl) (Nat.le_of_ble_eq_true rfl)) e41 hZ hown n0 OL42 N41 hB42 SC hcz S0 W0 F0 E0 G0 D0 V0 S1 W1 F1 E1 G1 D1 V1 S2 W2 F2 E2 G2 D2 V2 SV EV VV V_b11_41 (own_ncl hc14) (own_ncl hc18) (own_chy ((ch2.toUInt32 >>> ((8 : Int32) &&& 31).toUInt32).toInt32)) (own_ncl hc26) (own_ncl hc30)
    · show OwnOk p e below _ (T32.setTop (mkF m 128 #[.val (.int sel), .val (.int shape), .val (.int pos), .val (.int ch), .val (.int ch2), .val (.int bI), .val .null, .val (.ref b11), .val (.int (3 : Int32)), .unset, .unset, .unset] []))
      refine own_up (fun tx kx => XS.aload X32.here hx rfl (hb hby at_128) rfl rfl kx) ?_
      show OwnOk p e below _ (T32.setTop (mkF m 130 #[.val (.int sel), .val (.int shape), .val (.int pos), .val (.int ch), .val (.int ch2), .val (.int bI), .val .null, .val (.ref b11), .val (.int (3 : Int32)), .unset, .unset, .unset] [(.ref b11)]))
      refine own_up (fun tx kx => XS.iload X32.here hx rfl (hb hby at_130) rfl kx) ?_
      show OwnOk p e below _ (T32.setTop (mkF m 132 #[.val (.int sel), .val (.int shape), .val (.int pos), .val (.int ch), .val (.int ch2), .val (.int bI), .val .null, .val (.ref b11), .val (.int (3 : Int32)), .unset, .unset, .unset] [(.int (3 : Int32)), (.ref b11)]))
      refine own_up (fun tx kx => XS.iload X32.here hx rfl (hb hby at_132) rfl kx) ?_
      show OwnOk p e below _ (T32.setTop (mkF m 134 #[.val (.int sel), .val (.int shape), .val (.int pos), .val (.int ch), .val (.int ch2), .val (.int bI), .val .null, .val (.ref b11), .val (.int (3 : Int32)), .unset, .unset, .unset] [(.int ch2), (.int (3 : Int32)), (.ref b11)]))
      refine own_up (fun tx kx => XS.bipush X32.here hx rfl (hb hby at_134) kx) ?_
      show OwnOk p e below _ (T32.setTop (mkF m 136 #[.val (.int sel), .val (.int shape), .val (.int pos), .val (.int ch), .val (.int ch2), .val (.int bI), .val .null, .val (.ref b11), .val (.int (3 : Int32)), .unset, .unset, .unset] [(.int (8 : Int32)), (.int ch2), (.int (3 : Int32)), (.ref b11)]))
      refine own_up (fun tx kx => XS.iushr X32.here hx rfl (hb hby at_136) rfl kx) ?_
      show OwnOk p e below _ (T32.setTop (mkF m 137 #[.val (.int sel), .val (.int shape), .val (.int pos), .val (.int ch), .val (.int ch2), .val (.int bI), .val .null, .val (.ref b11), .val (.int (3 : Int32)), .unset, .unset, .unset] [(.int ((ch2.toUInt32 >>> ((8 : Int32) &&& 31).toUInt32).toInt32)), (.int (3 : Int32)), (.ref b11)]))
      refine own_up (fun tx kx => XS.sipush X32.here hx rfl (hb hby at_137) kx) ?_
      show OwnOk p e below _ (T32.setTop (mkF m 140 #[.val (.int sel), .val (.int shape), .val (.int pos), .val (.int ch), .val (.int ch2), .val (.int bI), .val .null, .val (.ref b11), .val (.int (3 : Int32)), .unset, .unset, .unset] [(.int (255 : Int32)), (.int ((ch2.toUInt32 >>> ((8 : Int32) &&& 31).toUInt32).toInt32)), (.int (3 : Int32)), (.ref b11)]))
      refine own_up (fun tx kx => XS.iand X32.here hx rfl (hb hby at_140) rfl kx) ?_
      show OwnOk p e below _ (T32.setTop (mkF m 141 #[.val (.int sel), .val (.int shape), .val (.int pos), .val (.int ch), .val (.int ch2), .val (.int bI), .val .null, .val (.ref b11), .val (.int (3 : Int32)), .unset, .unset, .unset] [(.int (((ch2.toUInt32 >>> ((8 : Int32) &&& 31).toUInt32).toInt32) &&& (255 : Int32))), (.int (3 : Int32)), (.ref b11)]))
      refine own_up (fun tx kx => XS.i2c X32.here hx rfl (hb hby at_141) rfl kx) ?_
      show OwnOk p e below _ (T32.setTop (mkF m 142 #[.val (.int sel), .val (.int shape), .val (.int pos), .val (.int ch), .val (.int ch2), .val (.int bI), .val .null, .val (.ref b11), .val (.int (3 : Int32)), .unset, .unset, .unset] [(.int ((((ch2.toUInt32 >>> ((8 : Int32) &&& 31).toUInt32).toInt32) &&& (255 : Int32)).toUInt32.toUInt16.toUInt32.toInt32)), (.int (3 : Int32)), (.ref b11)]))
      obtain ⟨cl43, Ar43, qc43, Sz43, Nn43, Hs43, Gf43⟩ := id V_b11_32
      have hin43 : ¬ ((3 : Int32) < 0 ∨ cl43.slots.size ≤ ((3 : Int32)).toNatClampNeg) := inb_of Sz43 ⟨by decide, by decide⟩
      obtain ⟨T44, h44, X44, e44, W44, st44⟩ := stC X32 hx hZ e32 Ar43 (j := (3 : Int32)) hin43 (g := (mkF m 142 #[.val (.int sel), .val (.int shape), .val (.int pos), .val (.int ch), .val (.int ch2), .val (.int bI), .val .null, .val (.ref b11), .val (.int (3 : Int32)), .unset, .unset, .unset] [(.int ((((ch2.toUInt32 >>> ((8 : Int32) &&& 31).toUInt32).toInt32) &&& (255 : Int32)).toUInt32.toUInt16.toUInt32.toInt32)), (.int (3 : Int32)), (.ref b11)])) rfl rfl (hb hby at_142)
      have V_b11_44 : Arv Z h44 b11 k11 .char (5 : Int32) [(.int (nar .char cc14)), (.int (nar .char cc18)), (.int (nar .char cc22)), (.int (nar .char ((((ch2.toUInt32 >>> ((8 : Int32) &&& 31).toUInt32).toInt32) &&& (255 : Int32)).toUInt32.toUInt16.toUInt32.toInt32))), (.int (nar .char cc30))] (.int (0 : Int32)) := Arv.set Ar43 qc43 Sz43 Nn43 Hs43 Gf43 (fits_nar_char _) W44 3 rfl (Nat.le_of_ble_eq_true rfl)
      have N44 := Fr.snoc X44 N32 n0_b11
      have OL45 := OL33.wr W44 n0_b11
      have hB45 := hB33.wr W44 (Safe.arr hZ.alike Ar43 (by decide))
      refine own_up st44 ?_
      show OwnOk p e below _ (T44.setTop (mkF m 143 #[.val (.int sel), .val (.int shape), .val (.int pos), .val (.int ch), .val (.int ch2), .val (.int bI), .val .null, .val (.ref b11), .val (.int (3 : Int32)), .unset, .unset, .unset] []))
      exact law_143 l Z a0 hw sel shape pos ch ch2 bI (3 : Int32) .null b11 k11 cz w0 w1 w2 s0 s1 s2 u0 u1 u2 va k0 k1 k2 kva (nar .char cc14) (nar .char cc18) (nar .char cc22) (nar .char ((((ch2.toUInt32 >>> ((8 : Int32) &&& 31).toUInt32).toInt32) &&& (255 : Int32)).toUInt32.toUInt16.toUInt32.toInt32)) (nar .char cc30) hx hby hml hret hlk (X44.mono (Nat.le_of_ble_eq_true rfl) (Nat.le_of_ble_eq_true rfl)) e44 hZ hown n0 OL45 N44 hB45 SC hcz S0 W0 F0 E0 G0 D0 V0 S1 W1 F1 E1 G1 D1 V1 S2 W2 F2 E2 G2 D2 V2 SV EV VV V_b11_44 (own_ncl hc14) (own_ncl hc18) (own_ncl hc22) (own_chy ((ch2.toUInt32 >>> ((8 : Int32) &&& 31).toUInt32).toInt32)) (own_ncl hc30)
    · show OwnOk p e below _ (T32.setTop (mkF m 128 #[.val (.int sel), .val (.int shape), .val (.int pos), .val (.int ch), .val (.int ch2), .val (.int bI), .val .null, .val (.ref b11), .val (.int (4 : Int32)), .unset, .unset, .unset] []))
      refine own_up (fun tx kx => XS.aload X32.here hx rfl (hb hby at_128) rfl rfl kx) ?_
      show OwnOk p e below _ (T32.setTop (mkF m 130 #[.val (.int sel), .val (.int shape), .val (.int pos), .val (.int ch), .val (.int ch2), .val (.int bI), .val .null, .val (.ref b11), .val (.int (4 : Int32)), .unset, .unset, .unset] [(.ref b11)]))
      refine own_up (fun tx kx => XS.iload X32.here hx rfl (hb hby at_130) rfl kx) ?_
      show OwnOk p e below _ (T32.setTop (mkF m 132 #[.val (.int sel), .val (.int shape), .val (.int pos), .val (.int ch), .val (.int ch2), .val (.int bI), .val .null, .val (.ref b11), .val (.int (4 : Int32)), .unset, .unset, .unset] [(.int (4 : Int32)), (.ref b11)]))
      refine own_up (fun tx kx => XS.iload X32.here hx rfl (hb hby at_132) rfl kx) ?_
      show OwnOk p e below _ (T32.setTop (mkF m 134 #[.val (.int sel), .val (.int shape), .val (.int pos), .val (.int ch), .val (.int ch2), .val (.int bI), .val .null, .val (.ref b11), .val (.int (4 : Int32)), .unset, .unset, .unset] [(.int ch2), (.int (4 : Int32)), (.ref b11)]))
      refine own_up (fun tx kx => XS.bipush X32.here hx rfl (hb hby at_134) kx) ?_
      show OwnOk p e below _ (T32.setTop (mkF m 136 #[.val (.int sel), .val (.int shape), .val (.int pos), .val (.int ch), .val (.int ch2), .val (.int bI), .val .null, .val (.ref b11), .val (.int (4 : Int32)), .unset, .unset, .unset] [(.int (8 : Int32)), (.int ch2), (.int (4 : Int32)), (.ref b11)]))
      refine own_up (fun tx kx => XS.iushr X32.here hx rfl (hb hby at_136) rfl kx) ?_
      show OwnOk p e below _ (T32.setTop (mkF m 137 #[.val (.int sel), .val (.int shape), .val (.int pos), .val (.int ch), .val (.int ch2), .val (.int bI), .val .null, .val (.ref b11), .val (.int (4 : Int32)), .unset, .unset, .unset] [(.int ((ch2.toUInt32 >>> ((8 : Int32) &&& 31).toUInt32).toInt32)), (.int (4 : Int32)), (.ref b11)]))
      refine own_up (fun tx kx => XS.sipush X32.here hx rfl (hb hby at_137) kx) ?_
      show OwnOk p e below _ (T32.setTop (mkF m 140 #[.val (.int sel), .val (.int shape), .val (.int pos), .val (.int ch), .val (.int ch2), .val (.int bI), .val .null, .val (.ref b11), .val (.int (4 : Int32)), .unset, .unset, .unset] [(.int (255 : Int32)), (.int ((ch2.toUInt32 >>> ((8 : Int32) &&& 31).toUInt32).toInt32)), (.int (4 : Int32)), (.ref b11)]))
      refine own_up (fun tx kx => XS.iand X32.here hx rfl (hb hby at_140) rfl kx) ?_
      show OwnOk p e below _ (T32.setTop (mkF m 141 #[.val (.int sel), .val (.int shape), .val (.int pos), .val (.int ch), .val (.int ch2), .val (.int bI), .val .null, .val (.ref b11), .val (.int (4 : Int32)), .unset, .unset, .unset] [(.int (((ch2.toUInt32 >>> ((8 : Int32) &&& 31).toUInt32).toInt32) &&& (255 : Int32))), (.int (4 : Int32)), (.ref b11)]))
      refine own_up (fun tx kx => XS.i2c X32.here hx rfl (hb hby at_141) rfl kx) ?_
      show OwnOk p e below _ (T32.setTop (mkF m 142 #[.val (.int sel), .val (.int shape), .val (.int pos), .val (.int ch), .val (.int ch2), .val (.int bI), .val .null, .val (.ref b11), .val (.int (4 : Int32)), .unset, .unset, .unset] [(.int ((((ch2.toUInt32 >>> ((8 : Int32) &&& 31).toUInt32).toInt32) &&& (255 : Int32)).toUInt32.toUInt16.toUInt32.toInt32)), (.int (4 : Int32)), (.ref b11)]))
      obtain ⟨cl46, Ar46, qc46, Sz46, Nn46, Hs46, Gf46⟩ := id V_b11_32
      have hin46 : ¬ ((4 : Int32) < 0 ∨ cl46.slots.size ≤ ((4 : Int32)).toNatClampNeg) := inb_of Sz46 ⟨by decide, by decide⟩
      obtain ⟨T47, h47, X47, e47, W47, st47⟩ := stC X32 hx hZ e32 Ar46 (j := (4 : Int32)) hin46 (g := (mkF m 142 #[.val (.int sel), .val (.int shape), .val (.int pos), .val (.int ch), .val (.int ch2), .val (.int bI), .val .null, .val (.ref b11), .val (.int (4 : Int32)), .unset, .unset, .unset] [(.int ((((ch2.toUInt32 >>> ((8 : Int32) &&& 31).toUInt32).toInt32) &&& (255 : Int32)).toUInt32.toUInt16.toUInt32.toInt32)), (.int (4 : Int32)), (.ref b11)])) rfl rfl (hb hby at_142)
      have V_b11_47 : Arv Z h47 b11 k11 .char (5 : Int32) [(.int (nar .char cc14)), (.int (nar .char cc18)), (.int (nar .char cc22)), (.int (nar .char cc26)), (.int (nar .char ((((ch2.toUInt32 >>> ((8 : Int32) &&& 31).toUInt32).toInt32) &&& (255 : Int32)).toUInt32.toUInt16.toUInt32.toInt32)))] (.int (0 : Int32)) := Arv.set Ar46 qc46 Sz46 Nn46 Hs46 Gf46 (fits_nar_char _) W47 4 rfl (Nat.le_of_ble_eq_true rfl)
      have N47 := Fr.snoc X47 N32 n0_b11
      have OL48 := OL33.wr W47 n0_b11
      have hB48 := hB33.wr W47 (Safe.arr hZ.alike Ar46 (by decide))
      refine own_up st47 ?_
      show OwnOk p e below _ (T47.setTop (mkF m 143 #[.val (.int sel), .val (.int shape), .val (.int pos), .val (.int ch), .val (.int ch2), .val (.int bI), .val .null, .val (.ref b11), .val (.int (4 : Int32)), .unset, .unset, .unset] []))
      exact law_143 l Z a0 hw sel shape pos ch ch2 bI (4 : Int32) .null b11 k11 cz w0 w1 w2 s0 s1 s2 u0 u1 u2 va k0 k1 k2 kva (nar .char cc14) (nar .char cc18) (nar .char cc22) (nar .char cc26) (nar .char ((((ch2.toUInt32 >>> ((8 : Int32) &&& 31).toUInt32).toInt32) &&& (255 : Int32)).toUInt32.toUInt16.toUInt32.toInt32)) hx hby hml hret hlk (X47.mono (Nat.le_of_ble_eq_true rfl) (Nat.le_of_ble_eq_true rfl)) e47 hZ hown n0 OL48 N47 hB48 SC hcz S0 W0 F0 E0 G0 D0 V0 S1 W1 F1 E1 G1 D1 V1 S2 W2 F2 E2 G2 D2 V2 SV EV VV V_b11_47 (own_ncl hc14) (own_ncl hc18) (own_ncl hc22) (own_ncl hc26) (own_chy ((ch2.toUInt32 >>> ((8 : Int32) &&& 31).toUInt32).toInt32))
  · refine own_up (fun tx kx => XS.icmpYes X32.here hx rfl (pc0 := 125) (pc' := 143) rfl (hb hby at_125) rfl (flt h5).2.1 (by decide) (by decide) kx) ?_
    show OwnOk p e below _ (T32.setTop (mkF m 143 #[.val (.int sel), .val (.int shape), .val (.int pos), .val (.int ch), .val (.int ch2), .val (.int bI), .val .null, .val (.ref b11), .val (.int (Int32.ofNat mi)), .unset, .unset, .unset] []))
    exact law_143 l Z a0 hw sel shape pos ch ch2 bI (Int32.ofNat mi) .null b11 k11 cz w0 w1 w2 s0 s1 s2 u0 u1 u2 va k0 k1 k2 kva (nar .char cc14) (nar .char cc18) (nar .char cc22) (nar .char cc26) (nar .char cc30) hx hby hml hret hlk (X32.mono (Nat.le_of_ble_eq_true rfl) (Nat.le_of_ble_eq_true rfl)) e32 hZ hown n0 OL33 N32 hB33 SC hcz S0 W0 F0 E0 G0 D0 V0 S1 W1 F1 E1 G1 D1 V1 S2 W2 F2 E2 G2 D2 V2 SV EV VV V_b11_32 (own_ncl hc14) (own_ncl hc18) (own_ncl hc22) (own_ncl hc26) (own_ncl hc30)
set_option maxRecDepth 65536 in
set_option maxHeartbeats 40000000 in
theorem rm0 (l : Launch) (Z : State) (a0 : Array Value) (hw : ∀ d ∈ tables_1, d.before a0 Z = true) (sel shape pos ch ch2 : Int32) (cz : Int32) (w0 w1 w2 s0 s1 s2 u0 u1 u2 va : Addr) (k0 k1 k2 kva : ClassId) (fm : Value) (hfm : fm.isRef = true) (h0 : Heap) (n0 : Nat) (OL : Old Z n0 h0) (SC : Sta Z Z.heap "java/lang/String" "COMPACT_STRINGS" "Z" (.int cz)) (hcz : ¬ cz = 0) (SF : Sta Z Z.heap "jdk/internal/util/Preconditions" "SIOOBE_FORMATTER" "Ljava/util/function/BiFunction;" fm) (S0 : Sta Z Z.heap "com/example/gridpost/gridpost/store/OperationKind" "START" "Lcom/example/gridpost/gridpost/store/OperationKind;" (.ref w0)) (W0 : Exa Z Z.heap w0 "com/example/gridpost/gridpost/store/OperationKind") (F0 : Fld Z Z.heap w0 "com/example/gridpost/gridpost/store/OperationKind" "wireName" "Ljava/lang/String;" (.ref s0)) (E0 : Exa Z Z.heap s0 "java/lang/String") (G0 : Fld Z Z.heap s0 "java/lang/String" "value" "[B" (.ref u0)) (D0 : Fld Z Z.heap s0 "java/lang/String" "coder" "B" (.int (0 : Int32))) (V0 : Arv Z Z.heap u0 k0 .byte (Int32.ofNat 5) (own_F 5 (fun j => [(115 : Int32), (116 : Int32), (97 : Int32), (114 : Int32), (116 : Int32)].getD j 0)) (.int (0 : Int32))) (S1 : Sta Z Z.heap "com/example/gridpost/gridpost/store/OperationKind" "ABORT" "Lcom/example/gridpost/gridpost/store/OperationKind;" (.ref w1)) (W1 : Exa Z Z.heap w1 "com/example/gridpost/gridpost/store/OperationKind") (F1 : Fld Z Z.heap w1 "com/example/gridpost/gridpost/store/OperationKind" "wireName" "Ljava/lang/String;" (.ref s1)) (E1 : Exa Z Z.heap s1 "java/lang/String") (G1 : Fld Z Z.heap s1 "java/lang/String" "value" "[B" (.ref u1)) (D1 : Fld Z Z.heap s1 "java/lang/String" "coder" "B" (.int (0 : Int32))) (V1 : Arv Z Z.heap u1 k1 .byte (Int32.ofNat 5) (own_F 5 (fun j => [(97 : Int32), (98 : Int32), (111 : Int32), (114 : Int32), (116 : Int32)].getD j 0)) (.int (0 : Int32))) (S2 : Sta Z Z.heap "com/example/gridpost/gridpost/store/OperationKind" "PAUSE" "Lcom/example/gridpost/gridpost/store/OperationKind;" (.ref w2)) (W2 : Exa Z Z.heap w2 "com/example/gridpost/gridpost/store/OperationKind") (F2 : Fld Z Z.heap w2 "com/example/gridpost/gridpost/store/OperationKind" "wireName" "Ljava/lang/String;" (.ref s2)) (E2 : Exa Z Z.heap s2 "java/lang/String") (G2 : Fld Z Z.heap s2 "java/lang/String" "value" "[B" (.ref u2)) (D2 : Fld Z Z.heap s2 "java/lang/String" "coder" "B" (.int (0 : Int32))) (V2 : Arv Z Z.heap u2 k2 .byte (Int32.ofNat 5) (own_F 5 (fun j => [(112 : Int32), (97 : Int32), (117 : Int32), (115 : Int32), (101 : Int32)].getD j 0)) (.int (0 : Int32))) (SV : Sta Z Z.heap "com/example/gridpost/gridpost/store/OperationKind" "$VALUES" "[Lcom/example/gridpost/gridpost/store/OperationKind;" (.ref va)) (EV : Exa Z Z.heap va "[Lcom/example/gridpost/gridpost/store/OperationKind;") (VV : Arv Z Z.heap va kva (.object "com/example/gridpost/gridpost/store/OperationKind") (3 : Int32) [.ref w0, .ref w1, .ref w2] .null) :
    own_MetH l Z own_EL [] x code maxLocals ret room_1 #[(.int sel), (.int shape), (.int pos), (.int ch), (.int ch2)] h0 (Q_rm0 n0) := by
  refine own_bodyH (L0 := #[.val (.int sel), .val (.int shape), .val (.int pos), .val (.int ch), .val (.int ch2), .unset, .unset, .unset, .unset, .unset, .unset, .unset]) (plainFor_of_name (by first | (simp [plainName, overriddenIn]; done) | decide +kernel)) (fun m => by first | (simp [entryFrame, mkF, argsToLocals, Value.category, maxLocals]; done) | rfl) ?_
  intro p e s m below meth c s₁ hx hby hml hZ hown hnm hret hlk X0 e0 hB hsf
  have hml : c.maxLocals = 12 := hml
  have N0 := Fr.nil n0
  have Z0 : n0 ≤ h0.size := OL.1 ▸ OL.2.1
  show OwnOk p e below _ (s₁.setTop (mkF m 0 #[.val (.int sel), .val (.int shape), .val (.int pos), .val (.int ch), .val (.int ch2), .unset, .unset, .unset, .unset, .unset, .unset, .unset] []))
  refine own_up (fun tx kx => XS.iloadN X0.here hx rfl (hb hby at_0) rfl kx) ?_
  show OwnOk p e below _ (s₁.setTop (mkF m 1 #[.val (.int sel), .val (.int shape), .val (.int pos), .val (.int ch), .val (.int ch2), .unset, .unset, .unset, .unset, .unset, .unset, .unset] [(.int sel)]))
  refine own_up (fun tx kx => X0.ldcInt hx hown (mvT hZ (wd_0 hw)) (g := (mkF m 1 #[.val (.int sel), .val (.int shape), .val (.int pos), .val (.int ch), .val (.int ch2), .unset, .unset, .unset, .unset, .unset, .unset, .unset] [(.int sel)])) rfl (hb hby at_1) _ kx) ?_
  show OwnOk p e below _ (s₁.setTop (mkF m 3 #[.val (.int sel), .val (.int shape), .val (.int pos), .val (.int ch), .val (.int ch2), .unset, .unset, .unset, .unset, .unset, .unset, .unset] [(.int (2147483647 : Int32)), (.int sel)]))
  refine own_up (fun tx kx => XS.iand X0.here hx rfl (hb hby at_3) rfl kx) ?_
  show OwnOk p e below _ (s₁.setTop (mkF m 4 #[.val (.int sel), .val (.int shape), .val (.int pos), .val (.int ch), .val (.int ch2), .unset, .unset, .unset, .unset, .unset, .unset, .unset] [(.int (sel &&& (2147483647 : Int32)))]))
  refine own_up (fun tx kx => XS.iconst X0.here hx rfl (hb hby at_4) kx) ?_
  show OwnOk p e below _ (s₁.setTop (mkF m 5 #[.val (.int sel), .val (.int shape), .val (.int pos), .val (.int ch), .val (.int ch2), .unset, .unset, .unset, .unset, .unset, .unset, .unset] [(.int (4 : Int32)), (.int (sel &&& (2147483647 : Int32)))]))
  obtain ⟨bi, hbi, ebi⟩ := own_idx sel 4 (by decide) (by decide)
  have ebi : (sel &&& (2147483647 : Int32)) % (4 : Int32) = Int32.ofNat bi := ebi
  refine own_up (fun tx kx => Jvm.RoadKit.iremM (g := (mkF m 5 #[.val (.int sel), .val (.int shape), .val (.int pos), .val (.int ch), .val (.int ch2), .unset, .unset, .unset, .unset, .unset, .unset, .unset] [(.int (4 : Int32)), (.int (sel &&& (2147483647 : Int32)))])) X0 hx rfl (hb hby at_5) rfl (by decide) kx) ?_
  show OwnOk p e below _ (s₁.setTop (mkF m 6 #[.val (.int sel), .val (.int shape), .val (.int pos), .val (.int ch), .val (.int ch2), .unset, .unset, .unset, .unset, .unset, .unset, .unset] [(.int ((sel &&& (2147483647 : Int32)) % (4 : Int32)))]))
  rw [ebi]
  show OwnOk p e below _ (s₁.setTop (mkF m 6 #[.val (.int sel), .val (.int shape), .val (.int pos), .val (.int ch), .val (.int ch2), .unset, .unset, .unset, .unset, .unset, .unset, .unset] [(.int (Int32.ofNat bi))]))
  refine own_up (fun tx kx => XS.istore X0.here hx rfl (hb hby at_6) rfl (l' := #[.val (.int sel), .val (.int shape), .val (.int pos), .val (.int ch), .val (.int ch2), .val (.int (Int32.ofNat bi)), .unset, .unset, .unset, .unset, .unset, .unset]) rfl kx) ?_
  show OwnOk p e below _ (s₁.setTop (mkF m 8 #[.val (.int sel), .val (.int shape), .val (.int pos), .val (.int ch), .val (.int ch2), .val (.int (Int32.ofNat bi)), .unset, .unset, .unset, .unset, .unset, .unset] []))
  refine own_up (fun tx kx => XS.iload X0.here hx rfl (hb hby at_8) rfl kx) ?_
  show OwnOk p e below _ (s₁.setTop (mkF m 10 #[.val (.int sel), .val (.int shape), .val (.int pos), .val (.int ch), .val (.int ch2), .val (.int (Int32.ofNat bi)), .unset, .unset, .unset, .unset, .unset, .unset] [(.int (Int32.ofNat bi))]))
  by_cases e0_ : (Int32.ofNat bi) = (0 : Int32)
  · refine own_up (fun tx kx => XS.ifNo X0.here hx rfl (hb hby at_10) rfl ((if0 _ _).trans (teq e0_).2) kx) ?_
    show OwnOk p e below _ (s₁.setTop (mkF m 13 #[.val (.int sel), .val (.int shape), .val (.int pos), .val (.int ch), .val (.int ch2), .val (.int (Int32.ofNat bi)), .unset, .unset, .unset, .unset, .unset, .unset] []))
    refine own_ldcH X0 hB hx hZ (own_ew hw) hown (by decide) (wd_1 hw) (own_wS hw) e0 (vs := own_F 5 (fun j => [(115 : Int32), (116 : Int32), (97 : Int32), (114 : Int32), (116 : Int32)].getD j 0)) (z := Int32.ofNat 5) ⟨by decide, by decide⟩ (by decide) (by decide) (hb hby at_13) (n := 20) (by decide) (by decide) (by decide) (by decide) (fun s11 ls11 lv11 kv11 T11 h11 X11 hB11 hZ11 hown11 e11 E11 xa11 fc11 fv11 av11 sf11 => ?_)
    have OL11 := OL.ext E11
    show OwnOk p e below _ (T11.setTop (mkF m 15 #[.val (.int sel), .val (.int shape), .val (.int pos), .val (.int ch), .val (.int ch2), .val (.int (Int32.ofNat bi)), .unset, .unset, .unset, .unset, .unset, .unset] [(.ref ls11)]))
    refine own_up (fun tx kx => XS.goto X11.here hx rfl (pc0 := 15) (pc' := 41) rfl (hb hby at_15) (by decide) (by decide) kx) ?_
    show OwnOk p e below _ (T11.setTop (mkF m 41 #[.val (.int sel), .val (.int shape), .val (.int pos), .val (.int ch), .val (.int ch2), .val (.int (Int32.ofNat bi)), .unset, .unset, .unset, .unset, .unset, .unset] [(.ref ls11)]))
    refine own_up (fun tx kx => XS.astore X11.here hx rfl (hb hby at_41) rfl rfl (l' := #[.val (.int sel), .val (.int shape), .val (.int pos), .val (.int ch), .val (.int ch2), .val (.int (Int32.ofNat bi)), .val (.ref ls11), .unset, .unset, .unset, .unset, .unset]) rfl kx) ?_
    show OwnOk p e below _ (T11.setTop (mkF m 43 #[.val (.int sel), .val (.int shape), .val (.int pos), .val (.int ch), .val (.int ch2), .val (.int (Int32.ofNat bi)), .val (.ref ls11), .unset, .unset, .unset, .unset, .unset] []))
    exact law_41 l Z a0 hw sel shape pos ch ch2 (Int32.ofNat bi) cz w0 w1 w2 s0 s1 s2 u0 u1 u2 va k0 k1 k2 kva fm hfm ls11 lv11 kv11 (fun j => [(115 : Int32), (116 : Int32), (97 : Int32), (114 : Int32), (116 : Int32)].getD j 0) hx hby hml hret hlk (X11.mono (Nat.le_of_ble_eq_true rfl) (Nat.le_of_ble_eq_true rfl)) e11 hZ11 hown11 n0 OL11 N0 hB11 SC hcz SF S0 W0 F0 E0 G0 D0 V0 S1 W1 F1 E1 G1 D1 V1 S2 W2 F2 E2 G2 D2 V2 SV EV VV xa11 fv11 fc11 av11
  · refine own_up (fun tx kx => XS.ifYes X0.here hx rfl (pc0 := 10) (pc' := 18) rfl (hb hby at_10) rfl ((if0 _ _).trans (feq e0_).2) (by decide) (by decide) kx) ?_
    show OwnOk p e below _ (s₁.setTop (mkF m 18 #[.val (.int sel), .val (.int shape), .val (.int pos), .val (.int ch), .val (.int ch2), .val (.int (Int32.ofNat bi)), .unset, .unset, .unset, .unset, .unset, .unset] []))
    refine own_up (fun tx kx => XS.iload X0.here hx rfl (hb hby at_18) rfl kx) ?_
    show OwnOk p e below _ (s₁.setTop (mkF m 20 #[.val (.int sel), .val (.int shape), .val (.int pos), .val (.int ch), .val (.int ch2), .val (.int (Int32.ofNat bi)), .unset, .unset, .unset, .unset, .unset, .unset] [(.int (Int32.ofNat bi))]))
    refine own_up (fun tx kx => XS.iconst X0.here hx rfl (hb hby at_20) kx) ?_
    show OwnOk p e below _ (s₁.setTop (mkF m 21 #[.val (.int sel), .val (.int shape), .val (.int pos), .val (.int ch), .val (.int ch2), .val (.int (Int32.ofNat bi)), .unset, .unset, .unset, .unset, .unset, .unset] [(.int (1 : Int32)), (.int (Int32.ofNat bi))]))
    by_cases e1_ : (Int32.ofNat bi) = (1 : Int32)
    · refine own_up (fun tx kx => XS.icmpNo X0.here hx rfl (hb hby at_21) rfl (teq e1_).2 kx) ?_
      show OwnOk p e below _ (s₁.setTop (mkF m 24 #[.val (.int sel), .val (.int shape), .val (.int pos), .val (.int ch), .val (.int ch2), .val (.int (Int32.ofNat bi)), .unset, .unset, .unset, .unset, .unset, .unset] []))
      refine own_ldcH X0 hB hx hZ (own_ew hw) hown (by decide) (wd_78 hw) (own_wS hw) e0 (vs := own_F 5 (fun j => [(97 : Int32), (98 : Int32), (111 : Int32), (114 : Int32), (116 : Int32)].getD j 0)) (z := Int32.ofNat 5) ⟨by decide, by decide⟩ (by decide) (by decide) (hb hby at_24) (n := 20) (by decide) (by decide) (by decide) (by decide) (fun s12 ls12 lv12 kv12 T12 h12 X12 hB12 hZ12 hown12 e12 E12 xa12 fc12 fv12 av12 sf12 => ?_)
      have OL12 := OL.ext E12
      show OwnOk p e below _ (T12.setTop (mkF m 26 #[.val (.int sel), .val (.int shape), .val (.int pos), .val (.int ch), .val (.int ch2), .val (.int (Int32.ofNat bi)), .unset, .unset, .unset, .unset, .unset, .unset] [(.ref ls12)]))
      refine own_up (fun tx kx => XS.goto X12.here hx rfl (pc0 := 26) (pc' := 41) rfl (hb hby at_26) (by decide) (by decide) kx) ?_
      show OwnOk p e below _ (T12.setTop (mkF m 41 #[.val (.int sel), .val (.int shape), .val (.int pos), .val (.int ch), .val (.int ch2), .val (.int (Int32.ofNat bi)), .unset, .unset, .unset, .unset, .unset, .unset] [(.ref ls12)]))
      refine own_up (fun tx kx => XS.astore X12.here hx rfl (hb hby at_41) rfl rfl (l' := #[.val (.int sel), .val (.int shape), .val (.int pos), .val (.int ch), .val (.int ch2), .val (.int (Int32.ofNat bi)), .val (.ref ls12), .unset, .unset, .unset, .unset, .unset]) rfl kx) ?_
      show OwnOk p e below _ (T12.setTop (mkF m 43 #[.val (.int sel), .val (.int shape), .val (.int pos), .val (.int ch), .val (.int ch2), .val (.int (Int32.ofNat bi)), .val (.ref ls12), .unset, .unset, .unset, .unset, .unset] []))
      exact law_41 l Z a0 hw sel shape pos ch ch2 (Int32.ofNat bi) cz w0 w1 w2 s0 s1 s2 u0 u1 u2 va k0 k1 k2 kva fm hfm ls12 lv12 kv12 (fun j => [(97 : Int32), (98 : Int32), (111 : Int32), (114 : Int32), (116 : Int32)].getD j 0) hx hby hml hret hlk (X12.mono (Nat.le_of_ble_eq_true rfl) (Nat.le_of_ble_eq_true rfl)) e12 hZ12 hown12 n0 OL12 N0 hB12 SC hcz SF S0 W0 F0 E0 G0 D0 V0 S1 W1 F1 E1 G1 D1 V1 S2 W2 F2 E2 G2 D2 V2 SV EV VV xa12 fv12 fc12 av12
    · refine own_up (fun tx kx => XS.icmpYes X0.here hx rfl (pc0 := 21) (pc' := 29) rfl (hb hby at_21) rfl (feq e1_).2 (by decide) (by decide) kx) ?_
      show OwnOk p e below _ (s₁.setTop (mkF m 29 #[.val (.int sel), .val (.int shape), .val (.int pos), .val (.int ch), .val (.int ch2), .val (.int (Int32.ofNat bi)), .unset, .unset, .unset, .unset, .unset, .unset] []))
      refine own_up (fun tx kx => XS.iload X0.here hx rfl (hb hby at_29) rfl kx) ?_
      show OwnOk p e below _ (s₁.setTop (mkF m 31 #[.val (.int sel), .val (.int shape), .val (.int pos), .val (.int ch), .val (.int ch2), .val (.int (Int32.ofNat bi)), .unset, .unset, .unset, .unset, .unset, .unset] [(.int (Int32.ofNat bi))]))
      refine own_up (fun tx kx => XS.iconst X0.here hx rfl (hb hby at_31) kx) ?_
      show OwnOk p e below _ (s₁.setTop (mkF m 32 #[.val (.int sel), .val (.int shape), .val (.int pos), .val (.int ch), .val (.int ch2), .val (.int (Int32.ofNat bi)), .unset, .unset, .unset, .unset, .unset, .unset] [(.int (2 : Int32)), (.int (Int32.ofNat bi))]))
      by_cases e2_ : (Int32.ofNat bi) = (2 : Int32)
      · refine own_up (fun tx kx => XS.icmpNo X0.here hx rfl (hb hby at_32) rfl (teq e2_).2 kx) ?_
        show OwnOk p e below _ (s₁.setTop (mkF m 35 #[.val (.int sel), .val (.int shape), .val (.int pos), .val (.int ch), .val (.int ch2), .val (.int (Int32.ofNat bi)), .unset, .unset, .unset, .unset, .unset, .unset] []))
        refine own_ldcH X0 hB hx hZ (own_ew hw) hown (by decide) (wd_79 hw) (own_wS hw) e0 (vs := own_F 5 (fun j => [(112 : Int32), (97 : Int32), (117 : Int32), (115 : Int32), (101 : Int32)].getD j 0)) (z := Int32.ofNat 5) ⟨by decide, by decide⟩ (by decide) (by decide) (hb hby at_35) (n := 20) (by decide) (by decide) (by decide) (by decide) (fun s13 ls13 lv13 kv13 T13 h13 X13 hB13 hZ13 hown13 e13 E13 xa13 fc13 fv13 av13 sf13 => ?_)
        have OL13 := OL.ext E13
        show OwnOk p e below _ (T13.setTop (mkF m 37 #[.val (.int sel), .val (.int shape), .val (.int pos), .val (.int ch), .val (.int ch2), .val (.int (Int32.ofNat bi)), .unset, .unset, .unset, .unset, .unset, .unset] [(.ref ls13)]))
        refine own_up (fun tx kx => XS.goto X13.here hx rfl (pc0 := 37) (pc' := 41) rfl (hb hby at_37) (by decide) (by decide) kx) ?_
        show OwnOk p e below _ (T13.setTop (mkF m 41 #[.val (.int sel), .val (.int shape), .val (.int pos), .val (.int ch), .val (.int ch2), .val (.int (Int32.ofNat bi)), .unset, .unset, .unset, .unset, .unset, .unset] [(.ref ls13)]))
        refine own_up (fun tx kx => XS.astore X13.here hx rfl (hb hby at_41) rfl rfl (l' := #[.val (.int sel), .val (.int shape), .val (.int pos), .val (.int ch), .val (.int ch2), .val (.int (Int32.ofNat bi)), .val (.ref ls13), .unset, .unset, .unset, .unset, .unset]) rfl kx) ?_
        show OwnOk p e below _ (T13.setTop (mkF m 43 #[.val (.int sel), .val (.int shape), .val (.int pos), .val (.int ch), .val (.int ch2), .val (.int (Int32.ofNat bi)), .val (.ref ls13), .unset, .unset, .unset, .unset, .unset] []))
        exact law_41 l Z a0 hw sel shape pos ch ch2 (Int32.ofNat bi) cz w0 w1 w2 s0 s1 s2 u0 u1 u2 va k0 k1 k2 kva fm hfm ls13 lv13 kv13 (fun j => [(112 : Int32), (97 : Int32), (117 : Int32), (115 : Int32), (101 : Int32)].getD j 0) hx hby hml hret hlk (X13.mono (Nat.le_of_ble_eq_true rfl) (Nat.le_of_ble_eq_true rfl)) e13 hZ13 hown13 n0 OL13 N0 hB13 SC hcz SF S0 W0 F0 E0 G0 D0 V0 S1 W1 F1 E1 G1 D1 V1 S2 W2 F2 E2 G2 D2 V2 SV EV VV xa13 fv13 fc13 av13
      · refine own_up (fun tx kx => XS.icmpYes X0.here hx rfl (pc0 := 32) (pc' := 40) rfl (hb hby at_32) rfl (feq e2_).2 (by decide) (by decide) kx) ?_
        show OwnOk p e below _ (s₁.setTop (mkF m 40 #[.val (.int sel), .val (.int shape), .val (.int pos), .val (.int ch), .val (.int ch2), .val (.int (Int32.ofNat bi)), .unset, .unset, .unset, .unset, .unset, .unset] []))
        refine own_up (fun tx kx => XS.aconstNull X0.here hx rfl (hb hby at_40) kx) ?_
        show OwnOk p e below _ (s₁.setTop (mkF m 41 #[.val (.int sel), .val (.int shape), .val (.int pos), .val (.int ch), .val (.int ch2), .val (.int (Int32.ofNat bi)), .unset, .unset, .unset, .unset, .unset, .unset] [.null]))
        refine own_up (fun tx kx => XS.astore X0.here hx rfl (hb hby at_41) rfl rfl (l' := #[.val (.int sel), .val (.int shape), .val (.int pos), .val (.int ch), .val (.int ch2), .val (.int (Int32.ofNat bi)), .val .null, .unset, .unset, .unset, .unset, .unset]) rfl kx) ?_
        show OwnOk p e below _ (s₁.setTop (mkF m 43 #[.val (.int sel), .val (.int shape), .val (.int pos), .val (.int ch), .val (.int ch2), .val (.int (Int32.ofNat bi)), .val .null, .unset, .unset, .unset, .unset, .unset] []))
        exact law_41n l Z a0 hw sel shape pos ch ch2 (Int32.ofNat bi) cz w0 w1 w2 s0 s1 s2 u0 u1 u2 va k0 k1 k2 kva fm hfm hx hby hml hret hlk (X0.mono (Nat.le_of_ble_eq_true rfl) (Nat.le_of_ble_eq_true rfl)) e0 hZ hown n0 OL N0 hB SC hcz SF S0 W0 F0 E0 G0 D0 V0 S1 W1 F1 E1 G1 D1 V1 S2 W2 F2 E2 G2 D2 V2 SV EV VV
set_option maxRecDepth 65536 in
set_option maxHeartbeats 40000000 in
theorem comes_1 {Post : Tables → Env → Array Value → State → Outcome → State → Prop} (hpost : ∀ tb e args s v u, (limb_1_1.after args s (.returned v) u = true ∧ limb_1_2.after args s (.returned v) u = true ∧ True) → ReturnedEndW s (.returned v) u (Jvm.fieldLocs frame_1_writes args s ++ Jvm.arrayLocs frame_1_arrays args s ++ Jvm.staticLocs frame_1_statics s) 32 4224 → Post tb e args s (.returned v) u) :
    ArmFor flags0 classFile x code maxLocals ret World_1 tables_1 room_1 Calls_1 rest_1 Pre_1 Post := by
  intro l hfl _ _ p e ha hc hk s m args below hf hA hF happ hP
  obtain ⟨hcalls, hrest, hpre⟩ := hP
  obtain ⟨-, -, -, hnamed, -, -, -, hat⟩ := (Spec.applies_iff hf).mp happ
  obtain ⟨hg, hn⟩ := and_e (Cond.before_iff.mp (show (Jvm.Cond.and given_1 narrow_1).before args s = true from hpre))
  obtain ⟨g0, gr0⟩ := and_e hg
  obtain ⟨w_0, w_1, w_2, w_3, w_4, rfl⟩ : ∃ w_0 w_1 w_2 w_3 w_4 : Value, args = #[w_0, w_1, w_2, w_3, w_4] := by
    have hs : args.size = 5 := by simpa [Cond.value, given_1] using g0
    obtain ⟨L⟩ := args
    match L, hs with
    | [w_0, w_1, w_2, w_3, w_4], _ => exact ⟨w_0, w_1, w_2, w_3, w_4, rfl⟩
  have hw := fun d (hd : d ∈ tables_1) => atoms_spec (ws := Jvm.Cond.code x code maxLocals ret :: tables_1) hat d (List.mem_cons_of_mem _ hd)
  have hfit : Fit s := fun {y c} hc i hi => by
    obtain ⟨ha, rfl⟩ := Array.getElem?_eq_some_iff.mp hc
    have q := List.all_eq_true.mp ((Array.all_eq_true_iff_forall_mem.mp hF) _ (Array.getElem_mem ha)) i (List.mem_range.mpr hi)
    simpa [Array.getElem?_eq_getElem hi] using q
  obtain ⟨gi0, gr1⟩ := and_e gr0
  obtain ⟨i0, ei0⟩ := is_v gi0
  obtain rfl : w_0 = (.int i0) := Option.some.inj ei0
  obtain ⟨gi1, gr2⟩ := and_e gr1
  obtain ⟨i1, ei1⟩ := is_v gi1
  obtain rfl : w_1 = (.int i1) := Option.some.inj ei1
  obtain ⟨gi2, gr3⟩ := and_e gr2
  obtain ⟨i2, ei2⟩ := is_v gi2
  obtain rfl : w_2 = (.int i2) := Option.some.inj ei2
  obtain ⟨gi3, gr4⟩ := and_e gr3
  obtain ⟨i3, ei3⟩ := is_v gi3
  obtain rfl : w_3 = (.int i3) := Option.some.inj ei3
  obtain ⟨i4, ei4⟩ := is_v gr4
  obtain rfl : w_4 = (.int i4) := Option.some.inj ei4
  obtain ⟨hsets, hown0⟩ := atoms_of _ (rest_1_c_eq ▸ (show rest_1_c.before _ s = true from hrest))
  have n5 := not_v (Cond.before_iff.mp (hsets _ (List.mem_of_getElem? (i := 2) rfl)))
  obtain ⟨cz, e10⟩ := is_v (Cond.before_iff.mp (hsets _ (List.mem_of_getElem? (i := 1) rfl)))
  have SC : Sta s s.heap "java/lang/String" "COMPACT_STRINGS" "Z" (.int cz) := Sta.start e10 (Or.inl (hsets _ (List.mem_of_getElem? (i := 0) rfl)))
  have hcz : ¬ cz = 0 := gotF (Cond.eq_ints e10 (Term.int_eval (0))) n5
  obtain ⟨fm, ef, hfm⟩ := isR_v (Cond.before_iff.mp (hsets _ (List.mem_of_getElem? (i := 8) rfl)))
  have SF := Sta.start ef (Or.inl (hsets _ (List.mem_of_getElem? (i := 7) rfl)))
  obtain ⟨y0, r0⟩ := and_e hn
  obtain ⟨y1, r1⟩ := and_e r0
  obtain ⟨y2, r2⟩ := and_e r1
  obtain ⟨y3, r3⟩ := and_e r2
  obtain ⟨y4, r4⟩ := and_e r3
  obtain ⟨y5, r5⟩ := and_e r4
  obtain ⟨y6, r6⟩ := and_e r5
  obtain ⟨y7, r7⟩ := and_e r6
  obtain ⟨y8, r8⟩ := and_e r7
  obtain ⟨y9, r9⟩ := and_e r8
  obtain ⟨y10, r10⟩ := and_e r9
  obtain ⟨y11, r11⟩ := and_e r10
  obtain ⟨y12, r12⟩ := and_e r11
  obtain ⟨y13, r13⟩ := and_e r12
  obtain ⟨y14, r14⟩ := and_e r13
  obtain ⟨y15, r15⟩ := and_e r14
  obtain ⟨y16, r16⟩ := and_e r15
  obtain ⟨y17, r17⟩ := and_e r16
  obtain ⟨y18, r18⟩ := and_e r17
  obtain ⟨y19, r19⟩ := and_e r18
  obtain ⟨y20, r20⟩ := and_e r19
  obtain ⟨y21, r21⟩ := and_e r20
  obtain ⟨y22, r22⟩ := and_e r21
  obtain ⟨y23, r23⟩ := and_e r22
  obtain ⟨y24, r24⟩ := and_e r23
  obtain ⟨y25, r25⟩ := and_e r24
  obtain ⟨y26, r26⟩ := and_e r25
  obtain ⟨y27, r27⟩ := and_e r26
  obtain ⟨y28, r28⟩ := and_e r27
  obtain ⟨y29, r29⟩ := and_e r28
  obtain ⟨y30, r30⟩ := and_e r29
  obtain ⟨y31, r31⟩ := and_e r30
  obtain ⟨y32, r32⟩ := and_e r31
  obtain ⟨y33, r33⟩ := and_e r32
  obtain ⟨y34, r34⟩ := and_e r33
  have y35 := r34
  obtain ⟨va, eva⟩ := arr_v y0
  have EV := Exa.start eva y1
  have SV := Sta.start eva (Or.inr ⟨(wd_42 hw), (wd_48 hw)⟩)
  obtain ⟨w0, ew0⟩ := exa_v y3
  have W0 := Exa.start ew0 y3
  have S0 := Sta.start ew0 (Or.inr ⟨(wd_42 hw), (wd_56 hw)⟩)
  obtain ⟨s0, es0⟩ := exa_v y9
  have F0 : Fld s s.heap w0 "com/example/gridpost/gridpost/store/OperationKind" "wireName" "Ljava/lang/String;" (.ref s0) := Fld.start (by rw [← fld_at ew0]; exact es0)
  obtain ⟨u0, k0, E0, G0, D0, V0⟩ := own_str5 hfit es0 y9 y10 y11 y12 y21 y22 y23 y24 y25
  obtain ⟨w1, ew1⟩ := exa_v y5
  have W1 := Exa.start ew1 y5
  have S1 := Sta.start ew1 (Or.inr ⟨(wd_42 hw), (wd_57 hw)⟩)
  obtain ⟨s1, es1⟩ := exa_v y13
  have F1 : Fld s s.heap w1 "com/example/gridpost/gridpost/store/OperationKind" "wireName" "Ljava/lang/String;" (.ref s1) := Fld.start (by rw [← fld_at ew1]; exact es1)
  obtain ⟨u1, k1, E1, G1, D1, V1⟩ := own_str5 hfit es1 y13 y14 y15 y16 y26 y27 y28 y29 y30
  obtain ⟨w2, ew2⟩ := exa_v y7
  have W2 := Exa.start ew2 y7
  have S2 := Sta.start ew2 (Or.inr ⟨(wd_42 hw), (wd_58 hw)⟩)
  obtain ⟨s2, es2⟩ := exa_v y17
  have F2 : Fld s s.heap w2 "com/example/gridpost/gridpost/store/OperationKind" "wireName" "Ljava/lang/String;" (.ref s2) := Fld.start (by rw [← fld_at ew2]; exact es2)
  obtain ⟨u2, k2, E2, G2, D2, V2⟩ := own_str5 hfit es2 y17 y18 y19 y20 y31 y32 y33 y34 y35
  obtain ⟨kva, VV⟩ := own_arr0 (n := 3) (vs := [.ref w0, .ref w1, .ref w2]) (dv := .null) hfit eva y0 (by decide) y2 rfl (fun cl hc => ⟨own_elR eva ew0 hc y4, own_elR eva ew1 hc y6, own_elR eva ew2 hc y8, trivial⟩)
  obtain ⟨n, o, h1, h2, h3, _, L, rfl, ⟨rfl, N⟩, -, hq⟩ := (rm0 l s _ hw i0 i1 i2 i3 i4 cz w0 w1 w2 s0 s1 s2 u0 u1 u2 va k0 k1 k2 kva fm hfm s.heap s.heap.size (Old.start s) SC hcz SF S0 W0 F0 E0 G0 D0 V0 S1 W1 F1 E1 G1 D1 V1 S2 W2 F2 E2 G2 D2 V2 SV EV VV) tables_1 p e ha hc hk s m _ below hf ((Spec.applies_iff_loose hf).mp happ).1 ⟨rfl, State.Warmed39.refl s, rfl, CHv.start (own_ew hw) hcalls.1 (hsets _ (List.mem_of_getElem? (i := 2) rfl)) (wd_4 hw) (wd_3 hw), own_saf0⟩ trivial
  refine ⟨n, _, h1, h2, h3, hpost _ _ _ _ _ _ ⟨Cond.after_iff.mpr rfl, Cond.after_iff.mpr (eq_i res_at (Term.int_eval (1)) rfl), trivial⟩ ⟨hq.1, hq.2.1, hq.2.2.1, (hq.2.2.2.sift fun y hy => Or.inr (N y hy)).mono (by decide) (by decide)⟩⟩
theorem main_1_1 : Claimed_1_1 := comes_1 fun _ _ _ _ _ _ h hF => ⟨h.1, hF⟩
theorem main_1_2 : Claimed_1_2 := comes_1 fun _ _ _ _ _ _ h hF => ⟨h.2.1, hF⟩
end Jvm.Pilot.@@N@@
namespace Jvm.Pilot.@@N@@
open Jvm Jvm.ClassFile Sem Op Lib Jvm.Free Jvm.Stand Jvm.Pilot.@@N@@.Jvm.D
/-! MADE BY PROGRAM (witnessworld.py) out of the Statement's table words and the real class files: 22 classes; the members and pool entries that the words name. The judged class is class 1, her method 1. -/
namespace start1
open Jvm.ClassFile
def u (s : String) : CpInfo := .utf8 (stringToUtf16 s)
/-- a pool by its gaps: so many unusable entries, then the entry; so many at the end -/
def gap : Nat → List CpInfo → List CpInfo
  | 0, r => r
  | n + 1, r => .unusable :: gap n r
def poolList (es : List (Nat × CpInfo)) (last : Nat) : List CpInfo := es.foldr (fun e r => gap e.1 (e.2 :: r)) (gap last [])
def pool (es : List (Nat × CpInfo)) (last : Nat) : Array CpInfo := ⟨poolList es last⟩
def fileOf (pool : Array CpInfo) (this : Nat) (attrs : Array Attribute := #[]) (ms : Array MethodInfo := #[]) (fl : Nat := 33) (sup : Nat := 0) (ifs : Array Nat := #[]) (fds : Array FieldInfo := #[]) : ClassFile where
  minorVersion := 0
  majorVersion := 65
  constantPool := pool
  accessFlags := fl
  thisClass := this
  superClass := sup
  interfaces := ifs
  fields := fds
  methods := ms
  attributes := attrs
def plain (name : String) (sup : Option ClassId) : Class where
  name := name
  kind := .ordinary
  loader := none
  accessFlags := 33
  super := sup
  interfaces := #[]
  cf := none
  fields := #[]
  methods := #[]
  instanceTypes := #[]
  staticTypes := #[]
  resolved := #[]
  callSites := []
  init := .initialized
  statics := none
  mirror := none

def pool0 : Array CpInfo := pool [(5, u "<init>"), (0, u "()V"), (1, .class_ 10), (1, u "java/lang/Object"), (85, u "clone"), (0, u "()Ljava/lang/Object;")] 26

def k0c0 : Code := { maxStack := 0, maxLocals := 1, code := object_method_1_code, exceptionTable := #[], attributes := #[] }
def k0m0 : Method := { name := "<init>", desc := "()V", sig := { parameters := [], returnType := none }, accessFlags := 1, code := some k0c0 }
def k0m1 : Method := { name := "clone", desc := "()Ljava/lang/Object;", sig := { parameters := [], returnType := some (.object "java/lang/Object") }, accessFlags := 260, code := none }
/-- java/lang/Object -/
def k0 : Class := { plain "java/lang/Object" none with
  accessFlags := 33
  interfaces := #[]
  cf := some (fileOf pool0 8 #[] #[{ accessFlags := 1, nameIndex := 5, descriptorIndex := 6, attributes := #[] }, { accessFlags := 260, nameIndex := 96, descriptorIndex := 97, attributes := #[] }] 33 0 #[] #[])
  fields := #[]
  methods := #[k0m0, k0m1]
  instanceTypes := #[]
  staticTypes := #[]
  resolved := Array.replicate 124 none
  statics := none }

def pool1 : Array CpInfo := pool [(2, .class_ 4), (1, u "java/lang/Object"), (0, u "<init>"), (0, u "()V"), (0, .integer 2147483647), (0, .string 9), (0, u "start"), (0, .string 11), (0, u "abort"), (0, .string 13), (0, u "pause"), (0, .methodref 15 16), (0, .class_ 17), (0, .nameAndType 18 19), (0, u "com/example/gridpost/gridpost/store/OperationKindFromWireNamePinLaw"), (0, u "pick"), (0, u "(Ljava/lang/String;II)C"), (0, .class_ 21), (0, u "java/lang/String"), (0, .methodref 20 23), (0, .nameAndType 5 24), (0, u "([C)V"), (0, .string 26), (0, u ""), (0, .methodref 28 29), (0, .class_ 30), (0, .nameAndType 31 32), (0, u "com/example/gridpost/gridpost/store/OperationKind"), (0, u "fromWireName"), (0, u "(Ljava/lang/String;)Lcom/example/gridpost/gridpost/store/OperationKind;"), (0, .methodref 15 34), (0, .nameAndType 35 32), (0, u "expected"), (0, .methodref 20 37), (0, .nameAndType 38 39), (0, u "charAt"), (0, u "(I)C"), (0, .methodref 20 41), (0, .nameAndType 42 43), (0, u "equals"), (0, u "(Ljava/lang/Object;)Z"), (0, .fieldref 28 45), (0, .nameAndType 46 47), (0, u "START"), (0, u "Lcom/example/gridpost/gridpost/store/OperationKind;"), (0, .fieldref 28 49), (0, .nameAndType 50 47), (0, u "ABORT"), (0, .fieldref 28 52), (0, .nameAndType 53 47), (0, u "PAUSE"), (2, u "law"), (0, u "(IIIII)Z")] 5

def k1m0 : Method := { name := "<init>", desc := "()V", sig := { parameters := [], returnType := none }, accessFlags := 1, code := none }
def k1c1 : Code := { maxStack := 6, maxLocals := 12, code := code, exceptionTable := #[], attributes := #[] }
def k1m1 : Method := { name := "law", desc := "(IIIII)Z", sig := { parameters := [.int, .int, .int, .int, .int], returnType := some .boolean }, accessFlags := 9, code := some k1c1 }
def k1c2 : Code := { maxStack := 2, maxLocals := 3, code := method_3_code, exceptionTable := #[], attributes := #[] }
def k1m2 : Method := { name := "pick", desc := "(Ljava/lang/String;II)C", sig := { parameters := [(.object "java/lang/String"), .int, .int], returnType := some .char }, accessFlags := 10, code := some k1c2 }
def k1c3 : Code := { maxStack := 2, maxLocals := 1, code := method_4_code, exceptionTable := #[], attributes := #[] }
def k1m3 : Method := { name := "expected", desc := "(Ljava/lang/String;)Lcom/example/gridpost/gridpost/store/OperationKind;", sig := { parameters := [(.object "java/lang/String")], returnType := some (.object "com/example/gridpost/gridpost/store/OperationKind") }, accessFlags := 10, code := some k1c3 }
/-- com/example/gridpost/gridpost/store/OperationKindFromWireNamePinLaw -/
def k1 : Class := { plain "com/example/gridpost/gridpost/store/OperationKindFromWireNamePinLaw" (some 0) with
  accessFlags := 49
  interfaces := #[]
  cf := some (fileOf pool1 15 #[] #[{ accessFlags := 1, nameIndex := 5, descriptorIndex := 6, attributes := #[] }, { accessFlags := 9, nameIndex := 56, descriptorIndex := 57, attributes := #[] }, { accessFlags := 10, nameIndex := 18, descriptorIndex := 19, attributes := #[] }, { accessFlags := 10, nameIndex := 35, descriptorIndex := 32, attributes := #[] }] 49 2 #[] #[])
  fields := #[]
  methods := #[k1m0, k1m1, k1m2, k1m3]
  instanceTypes := #[]
  staticTypes := #[]
  resolved := Array.replicate 63 none
  statics := none }

def pool2 : Array CpInfo := pool [(1, .class_ 2), (0, u "java/io/Serializable"), (0, .class_ 4), (0, u "java/lang/Object")] 2

/-- java/io/Serializable -/
def k2 : Class := { plain "java/io/Serializable" (some 0) with
  accessFlags := 1537
  interfaces := #[]
  cf := some (fileOf pool2 1 #[] #[] 1537 3 #[] #[])
  fields := #[]
  methods := #[]
  instanceTypes := #[]
  staticTypes := #[]
  resolved := Array.replicate 7 none
  statics := none }

def pool3 : Array CpInfo := pool [(1, .class_ 2), (0, u "java/lang/Comparable"), (0, .class_ 4), (0, u "java/lang/Object")] 7

/-- java/lang/Comparable -/
def k3 : Class := { plain "java/lang/Comparable" (some 0) with
  accessFlags := 1537
  interfaces := #[]
  cf := some (fileOf pool3 1 #[] #[] 1537 3 #[] #[])
  fields := #[]
  methods := #[]
  instanceTypes := #[]
  staticTypes := #[]
  resolved := Array.replicate 12 none
  statics := none }

def pool4 : Array CpInfo := pool [(2, .class_ 4), (1, u "java/lang/CharSequence"), (42, .class_ 48), (0, u "java/lang/CharSequence$1CodePointIterator"), (10, .class_ 60), (0, u "java/lang/CharSequence$1CharIterator"), (5, .class_ 67), (0, u "java/lang/Object")] 63

/-- java/lang/CharSequence -/
def k4 : Class := { plain "java/lang/CharSequence" (some 0) with
  accessFlags := 1537
  interfaces := #[]
  cf := some (fileOf pool4 2 #[.nestMembers #[47, 59]] #[] 1537 66 #[] #[])
  fields := #[]
  methods := #[]
  instanceTypes := #[]
  staticTypes := #[]
  resolved := Array.replicate 131 none
  statics := none }

def pool5 : Array CpInfo := pool [(1, .class_ 2), (0, u "java/lang/constant/Constable"), (0, .class_ 4), (0, u "java/lang/Object")] 6

/-- java/lang/constant/Constable -/
def k5 : Class := { plain "java/lang/constant/Constable" (some 0) with
  accessFlags := 1537
  interfaces := #[]
  cf := some (fileOf pool5 1 #[] #[] 1537 3 #[] #[])
  fields := #[]
  methods := #[]
  instanceTypes := #[]
  staticTypes := #[]
  resolved := Array.replicate 11 none
  statics := none }

def pool6 : Array CpInfo := pool [(1, .class_ 2), (0, u "java/lang/constant/ConstantDesc"), (0, .class_ 4), (0, u "java/lang/Object")] 32

/-- java/lang/constant/ConstantDesc -/
def k6 : Class := { plain "java/lang/constant/ConstantDesc" (some 0) with
  accessFlags := 1537
  interfaces := #[]
  cf := some (fileOf pool6 1 #[] #[] 1537 3 #[] #[])
  fields := #[]
  methods := #[]
  instanceTypes := #[]
  staticTypes := #[]
  resolved := Array.replicate 37 none
  statics := none }

def pool7 : Array CpInfo := pool [(1, .methodref 2 3), (0, .class_ 4), (0, .nameAndType 5 6), (0, u "java/lang/Object"), (0, u "<init>"), (0, u "()V"), (2, .fieldref 10 11), (0, .class_ 12), (0, .nameAndType 13 14), (0, u "java/lang/String"), (0, u "value"), (0, u "[B"), (0, .fieldref 10 16), (0, .nameAndType 17 18), (0, u "coder"), (0, u "B"), (2, u "hash"), (0, u "I"), (2, u "hashIsZero"), (0, u "Z"), (0, .methodref 10 28), (0, .nameAndType 5 29), (0, u "([CIILjava/lang/Void;)V"), (8, .fieldref 10 39), (0, .nameAndType 40 26), (0, u "COMPACT_STRINGS"), (1, .class_ 44), (1, u "java/lang/StringUTF16"), (0, u "compress"), (1, .methodref 42 48), (0, .nameAndType 49 50), (0, u "coderFromArrayLen"), (0, u "([BI)B"), (56, .class_ 109), (1, u "java/lang/StringLatin1"), (32, u "()Z"), (34, .methodref 42 178), (0, .nameAndType 45 179), (0, u "([CII)[B"), (183, u "([BI)C"), (27, u "(II)V"), (35, u "(I)C"), (64, .methodref 10 493), (0, .nameAndType 494 142), (0, u "isLatin1"), (0, .methodref 107 496), (0, .nameAndType 497 363), (0, u "charAt"), (3, u "checkIndex"), (39, .methodref 107 542), (0, .nameAndType 543 544), (0, u "equals"), (0, u "([B[B)Z"), (28, u "(Ljava/lang/Object;)Z"), (1, .class_ 576), (0, u "java/lang/CharSequence"), (22, u "CASE_INSENSITIVE_ORDER"), (0, u "Ljava/util/Comparator;"), (409, u "([C)V"), (42, .fieldref 1054 1055), (0, .class_ 1056), (0, .nameAndType 1057 1058), (0, u "jdk/internal/util/Preconditions"), (0, u "SIOOBE_FORMATTER"), (0, u "Ljava/util/function/BiFunction;"), (0, .methodref 1054 1060), (0, .nameAndType 501 1061), (0, u "(IILjava/util/function/BiFunction;)I"), (39, u "serialPersistentFields"), (0, u "[Ljava/io/ObjectStreamField;"), (0, .class_ 1104), (0, u "java/lang/String$CaseInsensitiveComparator"), (1, .class_ 1107), (0, u "java/io/Serializable"), (0, .class_ 1109), (0, u "java/lang/Comparable"), (0, .class_ 1111), (0, u "java/lang/constant/Constable"), (0, .class_ 1113), (0, u "java/lang/constant/ConstantDesc"), (2, u "serialVersionUID"), (0, u "J"), (3, u "REPL"), (0, u "C"), (2, u "LATIN1"), (1, u "UTF16")] 323

def k7m0 : Method := { name := "<init>", desc := "()V", sig := { parameters := [], returnType := none }, accessFlags := 1, code := none }
def k7c1 : Code := { maxStack := 5, maxLocals := 2, code := jdk_42_method_3_code, exceptionTable := #[], attributes := #[] }
def k7m1 : Method := { name := "<init>", desc := "([C)V", sig := { parameters := [(.array .char)], returnType := none }, accessFlags := 1, code := some k7c1 }
def k7c2 : Code := { maxStack := 2, maxLocals := 2, code := jdk_42_method_56_code, exceptionTable := #[], attributes := #[] }
def k7m2 : Method := { name := "charAt", desc := "(I)C", sig := { parameters := [.int], returnType := some .char }, accessFlags := 1, code := some k7c2 }
def k7c3 : Code := { maxStack := 2, maxLocals := 3, code := jdk_42_method_66_code, exceptionTable := #[], attributes := #[] }
def k7m3 : Method := { name := "equals", desc := "(Ljava/lang/Object;)Z", sig := { parameters := [(.object "java/lang/Object")], returnType := some .boolean }, accessFlags := 1, code := some k7c3 }
def k7c4 : Code := { maxStack := 4, maxLocals := 6, code := jdk_42_method_149_code, exceptionTable := #[], attributes := #[] }
def k7m4 : Method := { name := "<init>", desc := "([CIILjava/lang/Void;)V", sig := { parameters := [(.array .char), .int, .int, (.object "java/lang/Void")], returnType := none }, accessFlags := 2, code := some k7c4 }
def k7c5 : Code := { maxStack := 1, maxLocals := 1, code := jdk_42_method_154_code, exceptionTable := #[], attributes := #[] }
def k7m5 : Method := { name := "isLatin1", desc := "()Z", sig := { parameters := [], returnType := some .boolean }, accessFlags := 0, code := some k7c5 }
def k7c6 : Code := { maxStack := 3, maxLocals := 2, code := jdk_42_method_155_code, exceptionTable := #[], attributes := #[] }
def k7m6 : Method := { name := "checkIndex", desc := "(II)V", sig := { parameters := [.int, .int], returnType := none }, accessFlags := 8, code := some k7c6 }
/-- java/lang/String -/
def k7 : Class := { plain "java/lang/String" (some 0) with
  accessFlags := 49
  interfaces := #[2, 3, 4, 5, 6]
  cf := some (fileOf pool7 10 #[.nestMembers #[1103]] #[{ accessFlags := 1, nameIndex := 5, descriptorIndex := 6, attributes := #[] }, { accessFlags := 1, nameIndex := 5, descriptorIndex := 1010, attributes := #[] }, { accessFlags := 1, nameIndex := 497, descriptorIndex := 427, attributes := #[] }, { accessFlags := 1, nameIndex := 543, descriptorIndex := 573, attributes := #[] }, { accessFlags := 2, nameIndex := 5, descriptorIndex := 29, attributes := #[] }, { accessFlags := 0, nameIndex := 494, descriptorIndex := 142, attributes := #[] }, { accessFlags := 8, nameIndex := 501, descriptorIndex := 391, attributes := #[] }] 49 2 #[1106, 1108, 575, 1110, 1112] #[{ accessFlags := 18, nameIndex := 13, descriptorIndex := 14, attributes := #[] }, { accessFlags := 18, nameIndex := 17, descriptorIndex := 18, attributes := #[] }, { accessFlags := 2, nameIndex := 21, descriptorIndex := 22, attributes := #[] }, { accessFlags := 2, nameIndex := 25, descriptorIndex := 26, attributes := #[] }, { accessFlags := 26, nameIndex := 1116, descriptorIndex := 1117, attributes := #[] }, { accessFlags := 24, nameIndex := 40, descriptorIndex := 26, attributes := #[] }, { accessFlags := 26, nameIndex := 1101, descriptorIndex := 1102, attributes := #[] }, { accessFlags := 26, nameIndex := 1121, descriptorIndex := 1122, attributes := #[] }, { accessFlags := 25, nameIndex := 599, descriptorIndex := 600, attributes := #[] }, { accessFlags := 24, nameIndex := 1125, descriptorIndex := 18, attributes := #[] }, { accessFlags := 24, nameIndex := 1127, descriptorIndex := 18, attributes := #[] }])
  fields := #[{ name := "value", type := (.array .byte), accessFlags := 18, slot := 0, constantValue := 0 }, { name := "coder", type := .byte, accessFlags := 18, slot := 1, constantValue := 0 }, { name := "hash", type := .int, accessFlags := 2, slot := 2, constantValue := 0 }, { name := "hashIsZero", type := .boolean, accessFlags := 2, slot := 3, constantValue := 0 }, { name := "serialVersionUID", type := .long, accessFlags := 26, slot := 0, constantValue := 0 }, { name := "COMPACT_STRINGS", type := .boolean, accessFlags := 24, slot := 1, constantValue := 0 }, { name := "serialPersistentFields", type := (.array (.object "java/io/ObjectStreamField")), accessFlags := 26, slot := 2, constantValue := 0 }, { name := "REPL", type := .char, accessFlags := 26, slot := 3, constantValue := 0 }, { name := "CASE_INSENSITIVE_ORDER", type := (.object "java/util/Comparator"), accessFlags := 25, slot := 4, constantValue := 0 }, { name := "LATIN1", type := .byte, accessFlags := 24, slot := 5, constantValue := 0 }, { name := "UTF16", type := .byte, accessFlags := 24, slot := 6, constantValue := 0 }]
  methods := #[k7m0, k7m1, k7m2, k7m3, k7m4, k7m5, k7m6]
  instanceTypes := #[(.array .byte), .byte, .int, .boolean]
  staticTypes := #[.long, .boolean, (.array (.object "java/io/ObjectStreamField")), .char, (.object "java/util/Comparator"), .byte, .byte]
  resolved := Array.replicate 1451 none
  statics := some 0 }

def pool8 : Array CpInfo := pool [(1, .class_ 2), (0, u "java/lang/String"), (1, .class_ 6), (1, u "java/lang/Object"), (0, u "<init>"), (0, u "()V"), (0, .methodref 1 10), (0, .nameAndType 11 12), (0, u "checkIndex"), (0, u "(II)V"), (1, .class_ 16), (1, u "java/lang/StringLatin1"), (36, u "([BI)C"), (67, u "$assertionsDisabled"), (0, u "Z"), (98, .class_ 223), (1, u "java/lang/StringLatin1$LinesSpliterator"), (28, u "charAt"), (28, u "equals"), (0, u "([B[B)Z"), (107, .class_ 391), (0, u "java/lang/StringLatin1$CharsSpliterator")] 3

def k8m0 : Method := { name := "<init>", desc := "()V", sig := { parameters := [], returnType := none }, accessFlags := 0, code := none }
def k8c1 : Code := { maxStack := 2, maxLocals := 2, code := jdk_43_method_2_code, exceptionTable := #[], attributes := #[] }
def k8m1 : Method := { name := "charAt", desc := "([BI)C", sig := { parameters := [(.array .byte), .int], returnType := some .char }, accessFlags := 9, code := some k8c1 }
def k8c2 : Code := { maxStack := 3, maxLocals := 3, code := jdk_43_method_13_code, exceptionTable := #[], attributes := #[] }
def k8m2 : Method := { name := "equals", desc := "([B[B)Z", sig := { parameters := [(.array .byte), (.array .byte)], returnType := some .boolean }, accessFlags := 9, code := some k8c2 }
/-- java/lang/StringLatin1 -/
def k8 : Class := { plain "java/lang/StringLatin1" (some 0) with
  accessFlags := 48
  interfaces := #[]
  cf := some (fileOf pool8 14 #[.nestMembers #[390, 221]] #[{ accessFlags := 0, nameIndex := 7, descriptorIndex := 8, attributes := #[] }, { accessFlags := 9, nameIndex := 252, descriptorIndex := 53, attributes := #[] }, { accessFlags := 9, nameIndex := 281, descriptorIndex := 282, attributes := #[] }] 48 4 #[] #[{ accessFlags := 4120, nameIndex := 121, descriptorIndex := 122, attributes := #[] }])
  fields := #[{ name := "$assertionsDisabled", type := .boolean, accessFlags := 4120, slot := 0, constantValue := 0 }]
  methods := #[k8m0, k8m1, k8m2]
  instanceTypes := #[]
  staticTypes := #[.boolean]
  resolved := Array.replicate 395 none
  statics := none }

def pool9 : Array CpInfo := pool [(2, .class_ 4), (1, u "java/lang/Object"), (0, u "<init>"), (0, u "()V"), (17, .class_ 26), (1, u "jdk/internal/util/Preconditions"), (6, u "checkIndex"), (21, .class_ 56), (0, u "jdk/internal/util/Preconditions$4"), (57, .class_ 115), (0, u "jdk/internal/util/Preconditions$1"), (7, u "SIOOBE_FORMATTER"), (0, u "Ljava/util/function/BiFunction;"), (0, .class_ 126), (0, u "jdk/internal/util/Preconditions$2"), (3, u "AIOOBE_FORMATTER"), (0, .class_ 132), (0, u "jdk/internal/util/Preconditions$3"), (3, u "IOOBE_FORMATTER"), (41, u "(IILjava/util/function/BiFunction;)I")] 15

def k9m0 : Method := { name := "<init>", desc := "()V", sig := { parameters := [], returnType := none }, accessFlags := 1, code := none }
def k9c1 : Code := { maxStack := 3, maxLocals := 3, code := jdk_41_method_11_code, exceptionTable := #[], attributes := #[] }
def k9m1 : Method := { name := "checkIndex", desc := "(IILjava/util/function/BiFunction;)I", sig := { parameters := [.int, .int, (.object "java/util/function/BiFunction")], returnType := some .int }, accessFlags := 9, code := some k9c1 }
/-- jdk/internal/util/Preconditions -/
def k9 : Class := { plain "jdk/internal/util/Preconditions" (some 0) with
  accessFlags := 33
  interfaces := #[]
  cf := some (fileOf pool9 24 #[.nestMembers #[55, 131, 125, 114]] #[{ accessFlags := 1, nameIndex := 5, descriptorIndex := 6, attributes := #[] }, { accessFlags := 9, nameIndex := 33, descriptorIndex := 178, attributes := #[] }] 33 2 #[] #[{ accessFlags := 25, nameIndex := 123, descriptorIndex := 124, attributes := #[] }, { accessFlags := 25, nameIndex := 130, descriptorIndex := 124, attributes := #[] }, { accessFlags := 25, nameIndex := 136, descriptorIndex := 124, attributes := #[] }])
  fields := #[{ name := "SIOOBE_FORMATTER", type := (.object "java/util/function/BiFunction"), accessFlags := 25, slot := 0, constantValue := 0 }, { name := "AIOOBE_FORMATTER", type := (.object "java/util/function/BiFunction"), accessFlags := 25, slot := 1, constantValue := 0 }, { name := "IOOBE_FORMATTER", type := (.object "java/util/function/BiFunction"), accessFlags := 25, slot := 2, constantValue := 0 }]
  methods := #[k9m0, k9m1]
  instanceTypes := #[]
  staticTypes := #[(.object "java/util/function/BiFunction"), (.object "java/util/function/BiFunction"), (.object "java/util/function/BiFunction")]
  resolved := Array.replicate 194 none
  statics := some 1 }

def pool10 : Array CpInfo := pool [(2, .class_ 4), (1, u "java/lang/Enum"), (0, u "name"), (0, u "Ljava/lang/String;"), (2, u "ordinal"), (0, u "I"), (1, .class_ 14), (1, u "java/lang/Object"), (4, u "hash"), (86, .class_ 108), (1, u "java/lang/Enum$EnumDesc"), (2, .class_ 112), (0, u "java/lang/constant/Constable"), (0, .class_ 114), (0, u "java/lang/Comparable"), (0, .class_ 116), (0, u "java/io/Serializable")] 87

/-- java/lang/Enum -/
def k10 : Class := { plain "java/lang/Enum" (some 0) with
  accessFlags := 1057
  interfaces := #[5, 3, 2]
  cf := some (fileOf pool10 2 #[.nestMembers #[106]] #[] 1057 12 #[111, 113, 115] #[{ accessFlags := 18, nameIndex := 5, descriptorIndex := 6, attributes := #[] }, { accessFlags := 18, nameIndex := 9, descriptorIndex := 10, attributes := #[] }, { accessFlags := 2, nameIndex := 19, descriptorIndex := 10, attributes := #[] }])
  fields := #[{ name := "name", type := (.object "java/lang/String"), accessFlags := 18, slot := 0, constantValue := 0 }, { name := "ordinal", type := .int, accessFlags := 18, slot := 1, constantValue := 0 }, { name := "hash", type := .int, accessFlags := 2, slot := 2, constantValue := 0 }]
  methods := #[]
  instanceTypes := #[(.object "java/lang/String"), .int, .int]
  staticTypes := #[]
  resolved := Array.replicate 204 none
  statics := none }

def pool11 : Array CpInfo := pool [(1, .class_ 2), (0, u "com/example/gridpost/gridpost/store/OperationKind"), (2, u "START"), (0, u "Lcom/example/gridpost/gridpost/store/OperationKind;"), (2, u "ABORT"), (2, u "PAUSE"), (0, .fieldref 1 14), (0, .nameAndType 15 16), (0, u "$VALUES"), (0, u "[Lcom/example/gridpost/gridpost/store/OperationKind;"), (0, .methodref 18 19), (0, .class_ 16), (0, .nameAndType 20 21), (0, u "clone"), (0, u "()Ljava/lang/Object;"), (1, .class_ 25), (1, u "java/lang/Enum"), (6, .fieldref 1 33), (0, .nameAndType 34 35), (0, u "wireName"), (0, u "Ljava/lang/String;"), (0, .methodref 1 37), (0, .nameAndType 38 39), (0, u "values"), (0, u "()[Lcom/example/gridpost/gridpost/store/OperationKind;"), (0, .methodref 41 42), (0, .class_ 43), (0, .nameAndType 44 45), (0, u "java/lang/String"), (0, u "equals"), (0, u "(Ljava/lang/Object;)Z"), (17, u "(Ljava/lang/String;)Lcom/example/gridpost/gridpost/store/OperationKind;"), (4, u "fromWireName")] 6

def k11c0 : Code := { maxStack := 1, maxLocals := 0, code := prog_40_method_1_code, exceptionTable := #[], attributes := #[] }
def k11m0 : Method := { name := "values", desc := "()[Lcom/example/gridpost/gridpost/store/OperationKind;", sig := { parameters := [], returnType := some (.array (.object "com/example/gridpost/gridpost/store/OperationKind")) }, accessFlags := 9, code := some k11c0 }
def k11c1 : Code := { maxStack := 2, maxLocals := 5, code := prog_40_method_5_code, exceptionTable := #[], attributes := #[] }
def k11m1 : Method := { name := "fromWireName", desc := "(Ljava/lang/String;)Lcom/example/gridpost/gridpost/store/OperationKind;", sig := { parameters := [(.object "java/lang/String")], returnType := some (.object "com/example/gridpost/gridpost/store/OperationKind") }, accessFlags := 9, code := some k11c1 }
/-- com/example/gridpost/gridpost/store/OperationKind -/
def k11 : Class := { plain "com/example/gridpost/gridpost/store/OperationKind" (some 10) with
  accessFlags := 16433
  interfaces := #[]
  cf := some (fileOf pool11 1 #[] #[{ accessFlags := 9, nameIndex := 38, descriptorIndex := 39, attributes := #[] }, { accessFlags := 9, nameIndex := 68, descriptorIndex := 63, attributes := #[] }] 16433 23 #[] #[{ accessFlags := 16409, nameIndex := 5, descriptorIndex := 6, attributes := #[] }, { accessFlags := 16409, nameIndex := 9, descriptorIndex := 6, attributes := #[] }, { accessFlags := 16409, nameIndex := 12, descriptorIndex := 6, attributes := #[] }, { accessFlags := 18, nameIndex := 34, descriptorIndex := 35, attributes := #[] }, { accessFlags := 4122, nameIndex := 15, descriptorIndex := 16, attributes := #[] }])
  fields := #[{ name := "START", type := (.object "com/example/gridpost/gridpost/store/OperationKind"), accessFlags := 16409, slot := 0, constantValue := 0 }, { name := "ABORT", type := (.object "com/example/gridpost/gridpost/store/OperationKind"), accessFlags := 16409, slot := 1, constantValue := 0 }, { name := "PAUSE", type := (.object "com/example/gridpost/gridpost/store/OperationKind"), accessFlags := 16409, slot := 2, constantValue := 0 }, { name := "wireName", type := (.object "java/lang/String"), accessFlags := 18, slot := 3, constantValue := 0 }, { name := "$VALUES", type := (.array (.object "com/example/gridpost/gridpost/store/OperationKind")), accessFlags := 4122, slot := 3, constantValue := 0 }]
  methods := #[k11m0, k11m1]
  instanceTypes := #[(.object "java/lang/String"), .int, .int, (.object "java/lang/String")]
  staticTypes := #[(.object "com/example/gridpost/gridpost/store/OperationKind"), (.object "com/example/gridpost/gridpost/store/OperationKind"), (.object "com/example/gridpost/gridpost/store/OperationKind"), (.array (.object "com/example/gridpost/gridpost/store/OperationKind"))]
  resolved := Array.replicate 75 none
  statics := some 2 }

def pool12 : Array CpInfo := pool [(1, .class_ 2), (0, u "java/lang/Cloneable"), (0, .class_ 4), (0, u "java/lang/Object")] 2

/-- java/lang/Cloneable -/
def k12 : Class := { plain "java/lang/Cloneable" (some 0) with
  accessFlags := 1537
  interfaces := #[]
  cf := some (fileOf pool12 1 #[] #[] 1537 3 #[] #[])
  fields := #[]
  methods := #[]
  instanceTypes := #[]
  staticTypes := #[]
  resolved := Array.replicate 7 none
  statics := none }

def pool13 : Array CpInfo := pool [(6, .class_ 8), (1, u "java/lang/Object"), (0, u "<init>"), (0, u "()V"), (1, .class_ 14), (1, u "java/lang/StringUTF16"), (31, u "$assertionsDisabled"), (0, u "Z"), (13, u "HI_BYTE_SHIFT"), (0, u "I"), (2, u "LO_BYTE_SHIFT"), (49, .methodref 12 116), (0, .nameAndType 117 118), (0, u "compress"), (0, u "([CI[BII)I"), (3, u "([CII)[B"), (138, u "coderFromArrayLen"), (0, u "([BI)B"), (106, .class_ 371), (1, u "java/lang/StringUTF16$LinesSpliterator"), (58, u "MAX_LENGTH"), (196, .class_ 628), (0, u "java/lang/StringUTF16$CodePointsSpliterator"), (0, .class_ 630), (0, u "java/lang/StringUTF16$CharsSpliterator")] 4

def k13m0 : Method := { name := "<init>", desc := "()V", sig := { parameters := [], returnType := none }, accessFlags := 0, code := none }
def k13c1 : Code := { maxStack := 2, maxLocals := 2, code := jdk_52_method_15_code, exceptionTable := #[], attributes := #[] }
def k13m1 : Method := { name := "coderFromArrayLen", desc := "([BI)B", sig := { parameters := [(.array .byte), .int], returnType := some .byte }, accessFlags := 8, code := some k13c1 }
def k13c2 : Code := { maxStack := 5, maxLocals := 6, code := jdk_52_method_16_code, exceptionTable := #[], attributes := #[] }
def k13m2 : Method := { name := "compress", desc := "([CII)[B", sig := { parameters := [(.array .char), .int, .int], returnType := some (.array .byte) }, accessFlags := 9, code := some k13c2 }
def k13c3 : Code := { maxStack := 3, maxLocals := 7, code := jdk_52_method_21_code, exceptionTable := #[], attributes := #[] }
def k13m3 : Method := { name := "compress", desc := "([CI[BII)I", sig := { parameters := [(.array .char), .int, (.array .byte), .int, .int], returnType := some .int }, accessFlags := 9, code := some k13c3 }
/-- java/lang/StringUTF16 -/
def k13 : Class := { plain "java/lang/StringUTF16" (some 0) with
  accessFlags := 48
  interfaces := #[]
  cf := some (fileOf pool13 12 #[.nestMembers #[627, 629, 369]] #[{ accessFlags := 0, nameIndex := 9, descriptorIndex := 10, attributes := #[] }, { accessFlags := 8, nameIndex := 261, descriptorIndex := 262, attributes := #[] }, { accessFlags := 9, nameIndex := 117, descriptorIndex := 122, attributes := #[] }, { accessFlags := 9, nameIndex := 117, descriptorIndex := 118, attributes := #[] }] 48 6 #[] #[{ accessFlags := 26, nameIndex := 61, descriptorIndex := 62, attributes := #[] }, { accessFlags := 26, nameIndex := 65, descriptorIndex := 62, attributes := #[] }, { accessFlags := 24, nameIndex := 430, descriptorIndex := 62, attributes := #[] }, { accessFlags := 4120, nameIndex := 46, descriptorIndex := 47, attributes := #[] }])
  fields := #[{ name := "HI_BYTE_SHIFT", type := .int, accessFlags := 26, slot := 0, constantValue := 0 }, { name := "LO_BYTE_SHIFT", type := .int, accessFlags := 26, slot := 1, constantValue := 0 }, { name := "MAX_LENGTH", type := .int, accessFlags := 24, slot := 2, constantValue := 0 }, { name := "$assertionsDisabled", type := .boolean, accessFlags := 4120, slot := 3, constantValue := 0 }]
  methods := #[k13m0, k13m1, k13m2, k13m3]
  instanceTypes := #[]
  staticTypes := #[.int, .int, .int, .boolean]
  resolved := Array.replicate 635 none
  statics := none }

def pool14 : Array CpInfo := pool [(9, u "<init>"), (6, .class_ 18), (1, u "java/lang/Object"), (0, u "()V"), (1, .class_ 23), (1, u "jdk/internal/util/ArraysSupport"), (0, u "LOG2_ARRAY_LONG_INDEX_SCALE"), (0, u "I"), (2, u "U"), (0, u "Ljdk/internal/misc/Unsafe;"), (8, u "BIG_ENDIAN"), (0, u "Z"), (8, u "LOG2_BYTE_BIT_SIZE"), (4, u "LOG2_ARRAY_INT_INDEX_SCALE"), (54, u "JLA"), (0, u "Ljdk/internal/access/JavaLangAccess;"), (11, u "LOG2_ARRAY_BOOLEAN_INDEX_SCALE"), (9, u "LOG2_ARRAY_BYTE_INDEX_SCALE"), (5, u "LOG2_ARRAY_CHAR_INDEX_SCALE"), (5, u "LOG2_ARRAY_SHORT_INDEX_SCALE"), (18, u "LOG2_ARRAY_FLOAT_INDEX_SCALE"), (24, u "LOG2_ARRAY_DOUBLE_INDEX_SCALE"), (89, u "T_BOOLEAN"), (2, u "T_CHAR"), (1, u "T_FLOAT"), (1, u "T_DOUBLE"), (1, u "T_BYTE"), (1, u "T_SHORT"), (1, u "T_INT"), (1, u "T_LONG"), (1, u "SOFT_MAX_ARRAY_LENGTH")] 83

def k14m0 : Method := { name := "<init>", desc := "()V", sig := { parameters := [], returnType := none }, accessFlags := 2, code := none }
/-- jdk/internal/util/ArraysSupport -/
def k14 : Class := { plain "jdk/internal/util/ArraysSupport" (some 0) with
  accessFlags := 33
  interfaces := #[]
  cf := some (fileOf pool14 21 #[] #[{ accessFlags := 2, nameIndex := 9, descriptorIndex := 19, attributes := #[] }] 33 16 #[] #[{ accessFlags := 24, nameIndex := 28, descriptorIndex := 29, attributes := #[] }, { accessFlags := 26, nameIndex := 38, descriptorIndex := 39, attributes := #[] }, { accessFlags := 25, nameIndex := 121, descriptorIndex := 25, attributes := #[] }, { accessFlags := 25, nameIndex := 131, descriptorIndex := 25, attributes := #[] }, { accessFlags := 25, nameIndex := 137, descriptorIndex := 25, attributes := #[] }, { accessFlags := 25, nameIndex := 143, descriptorIndex := 25, attributes := #[] }, { accessFlags := 25, nameIndex := 53, descriptorIndex := 25, attributes := #[] }, { accessFlags := 25, nameIndex := 24, descriptorIndex := 25, attributes := #[] }, { accessFlags := 25, nameIndex := 162, descriptorIndex := 25, attributes := #[] }, { accessFlags := 25, nameIndex := 187, descriptorIndex := 25, attributes := #[] }, { accessFlags := 26, nameIndex := 48, descriptorIndex := 25, attributes := #[] }, { accessFlags := 25, nameIndex := 277, descriptorIndex := 25, attributes := #[] }, { accessFlags := 25, nameIndex := 280, descriptorIndex := 25, attributes := #[] }, { accessFlags := 25, nameIndex := 282, descriptorIndex := 25, attributes := #[] }, { accessFlags := 25, nameIndex := 284, descriptorIndex := 25, attributes := #[] }, { accessFlags := 25, nameIndex := 286, descriptorIndex := 25, attributes := #[] }, { accessFlags := 25, nameIndex := 288, descriptorIndex := 25, attributes := #[] }, { accessFlags := 25, nameIndex := 290, descriptorIndex := 25, attributes := #[] }, { accessFlags := 25, nameIndex := 292, descriptorIndex := 25, attributes := #[] }, { accessFlags := 26, nameIndex := 108, descriptorIndex := 109, attributes := #[] }, { accessFlags := 25, nameIndex := 294, descriptorIndex := 25, attributes := #[] }])
  fields := #[{ name := "U", type := (.object "jdk/internal/misc/Unsafe"), accessFlags := 24, slot := 0, constantValue := 0 }, { name := "BIG_ENDIAN", type := .boolean, accessFlags := 26, slot := 1, constantValue := 0 }, { name := "LOG2_ARRAY_BOOLEAN_INDEX_SCALE", type := .int, accessFlags := 25, slot := 2, constantValue := 0 }, { name := "LOG2_ARRAY_BYTE_INDEX_SCALE", type := .int, accessFlags := 25, slot := 3, constantValue := 0 }, { name := "LOG2_ARRAY_CHAR_INDEX_SCALE", type := .int, accessFlags := 25, slot := 4, constantValue := 0 }, { name := "LOG2_ARRAY_SHORT_INDEX_SCALE", type := .int, accessFlags := 25, slot := 5, constantValue := 0 }, { name := "LOG2_ARRAY_INT_INDEX_SCALE", type := .int, accessFlags := 25, slot := 6, constantValue := 0 }, { name := "LOG2_ARRAY_LONG_INDEX_SCALE", type := .int, accessFlags := 25, slot := 7, constantValue := 0 }, { name := "LOG2_ARRAY_FLOAT_INDEX_SCALE", type := .int, accessFlags := 25, slot := 8, constantValue := 0 }, { name := "LOG2_ARRAY_DOUBLE_INDEX_SCALE", type := .int, accessFlags := 25, slot := 9, constantValue := 0 }, { name := "LOG2_BYTE_BIT_SIZE", type := .int, accessFlags := 26, slot := 10, constantValue := 0 }, { name := "T_BOOLEAN", type := .int, accessFlags := 25, slot := 11, constantValue := 0 }, { name := "T_CHAR", type := .int, accessFlags := 25, slot := 12, constantValue := 0 }, { name := "T_FLOAT", type := .int, accessFlags := 25, slot := 13, constantValue := 0 }, { name := "T_DOUBLE", type := .int, accessFlags := 25, slot := 14, constantValue := 0 }, { name := "T_BYTE", type := .int, accessFlags := 25, slot := 15, constantValue := 0 }, { name := "T_SHORT", type := .int, accessFlags := 25, slot := 16, constantValue := 0 }, { name := "T_INT", type := .int, accessFlags := 25, slot := 17, constantValue := 0 }, { name := "T_LONG", type := .int, accessFlags := 25, slot := 18, constantValue := 0 }, { name := "JLA", type := (.object "jdk/internal/access/JavaLangAccess"), accessFlags := 26, slot := 19, constantValue := 0 }, { name := "SOFT_MAX_ARRAY_LENGTH", type := .int, accessFlags := 25, slot := 20, constantValue := 0 }]
  methods := #[k14m0]
  instanceTypes := #[]
  staticTypes := #[(.object "jdk/internal/misc/Unsafe"), .boolean, .int, .int, .int, .int, .int, .int, .int, .int, .int, .int, .int, .int, .int, .int, .int, .int, .int, (.object "jdk/internal/access/JavaLangAccess"), .int]
  resolved := Array.replicate 378 none
  statics := none }

/-- the primitive byte -/
def k15 : Class := { plain "byte" none with kind := .primitive 'B', accessFlags := 0x411 }
/-- [B -/
def k16 : Class := { plain "[B" (some 0) with kind := .array 15 .byte, interfaces := #[12, 2], accessFlags := 1041 }

/-- the primitive char -/
def k17 : Class := { plain "char" none with kind := .primitive 'C', accessFlags := 0x411 }
/-- [C -/
def k18 : Class := { plain "[C" (some 0) with kind := .array 17 .char, interfaces := #[12, 2], accessFlags := 1041 }

/-- the primitive int -/
def k19 : Class := { plain "int" none with kind := .primitive 'I', accessFlags := 0x411 }
/-- [I -/
def k20 : Class := { plain "[I" (some 0) with kind := .array 19 .int, interfaces := #[12, 2], accessFlags := 1041 }

/-- [Lcom/example/gridpost/gridpost/store/OperationKind; -/
def k21 : Class := { plain "[Lcom/example/gridpost/gridpost/store/OperationKind;" (some 0) with kind := .array 11 (.object "com/example/gridpost/gridpost/store/OperationKind"), interfaces := #[12, 2], accessFlags := 1041 }

def heap : Heap := #[{ cls := 7, slots := #[.long 0, .int 1, .null, .int 0, .null, .int 0, .int 0], vm := .statics 7 },
  { cls := 9, slots := #[.null, .null, .null], vm := .statics 9 },
  { cls := 11, slots := #[.ref 4, .ref 5, .ref 6, .ref 3], vm := .statics 11 },
  { cls := 21, slots := #[.ref 4, .ref 5, .ref 6], vm := .none },
  { cls := 11, slots := #[.null, .int 0, .int 0, .ref 7], vm := .none },
  { cls := 11, slots := #[.null, .int 1, .int 0, .ref 8], vm := .none },
  { cls := 11, slots := #[.null, .int 2, .int 0, .ref 9], vm := .none },
  { cls := 7, slots := #[.ref 10, .int 0, .int 0, .int 0], vm := .none },
  { cls := 7, slots := #[.ref 11, .int 0, .int 0, .int 0], vm := .none },
  { cls := 7, slots := #[.ref 12, .int 0, .int 0, .int 0], vm := .none },
  { cls := 16, slots := #[.int 115, .int 116, .int 97, .int 114, .int 116], vm := .none },
  { cls := 16, slots := #[.int 97, .int 98, .int 111, .int 114, .int 116], vm := .none },
  { cls := 16, slots := #[.int 112, .int 97, .int 117, .int 115, .int 101], vm := .none }]
def classes : Array Class := #[k0, k1, k2, k3, k4, k5, k6, k7, k8, k9, k10, k11, k12, k13, k14, k15, k16, k17, k18, k19, k20, k21]
def interned : List (Array UInt16 × Addr) := []
def slotsUsed : Nat := 56
def theMethod : MethodId := ⟨1, 1⟩
def args0 : Array Value := #[.int 5, .int 6, .int 7, .int 8, .int 9]
def aboutOver (below : List Frame) : State where
  vm := { classes := classes, interned := interned.toArray }
  heap := heap
  slotsUsed := slotsUsed
  threads := #[{ frames := .invoking theMethod args0 :: below }]
def below0 : List Frame := [.native { method := ⟨0, 0⟩, args := #[] }]
def about1 : State := aboutOver below0
def p0 : Program := .bare "" "" ""
def e0 : Env := launch0.env 0 0 0
theorem w_frames : about1.frames = Frame.invoking theMethod args0 :: below0 := rfl
set_option maxRecDepth 65536 in
theorem w_args : argsFit about1.vm theMethod args0 = true := by decide +kernel
set_option maxRecDepth 65536 in
theorem w_heap : heapFits about1 = true := by decide +kernel
set_option maxRecDepth 65536 in
theorem w_runnable : about1.curStatus? = some .runnable := by decide +kernel
set_option maxRecDepth 65536 in
theorem w_alone : about1.alone = true := by decide +kernel
set_option maxRecDepth 65536 in
theorem w_named : about1.methodNamed? x = some theMethod := by decide +kernel
set_option maxRecDepth 65536 in
theorem w_hears : about1.hears theMethod below0 = true := by decide +kernel
set_option maxRecDepth 65536 in
theorem w_ripe : about1.ripe theMethod args0 below0 = true := by decide +kernel
theorem w_running : about1.status = .running := rfl
set_option maxRecDepth 65536 in
theorem w_room : about1.hasRoom e0.platform room_1 = true :=
  launch0.hasRoom_least _ room_1 (by decide +kernel) (by decide +kernel) (by decide +kernel) (by decide +kernel) (by decide +kernel) (by decide +kernel)
theorem allAtoms_all (ts : List Jvm.Cond) (a : Array Jvm.Value) (st : Jvm.State) : (allAtoms ts).before a st = ts.all (fun c => c.before a st) := by
  induction ts with
  | nil => rfl
  | cons c t ih =>
    show (Jvm.Cond.and c (allAtoms t)).before a st = _
    rw [Jvm.Cond.before_and, ih, List.all_cons]
def words1 : List Jvm.Cond := Jvm.Cond.code x code maxLocals ret :: tables_1
/-- a 'code' word, met by the world's own term for the bytes: nothing is compared byte by byte -/
theorem code_word {y : MethodName} {bytes : ByteArray} {mx : Nat} {rt : Option FieldType} {a : Array Value} {s : State} {m : MethodId} {meth : Method} {c : Code} (h1 : s.methodNamed? y = some m) (h2 : s.vm.method? m = some meth) (h3 : meth.code = some c) (h4 : c.code = bytes)
    (h5 : (c.maxLocals == mx && c.exceptionTable.isEmpty && decide (c.maxStack ≤ mostOperands) && decide (meth.sig.returnType = rt) && !meth.locks && decide (parseMethodDescriptor y.desc = some meth.sig)) = true) : (Jvm.Cond.code y bytes mx rt).before a s = true := by
  simp only [Bool.and_eq_true, beq_iff_eq, Bool.not_eq_true', decide_eq_true_eq] at h5
  obtain ⟨⟨⟨⟨⟨g1, g2⟩, g3⟩, g4⟩, g5⟩, g6⟩ := h5
  simp [Cond.before, Cond.holds, Cond.value, h1, h2, h3, h4, g1, g2, g3, g4, g5, g6]
def isCode : Jvm.Cond → Bool
  | .code _ _ _ _ => true
  | _ => false
theorem all_split {L : List Jvm.Cond} {P : Jvm.Cond → Bool} (h1 : L.all (fun c => isCode c || P c) = true) (h2 : ∀ c ∈ L.filter isCode, P c = true) : L.all P = true := by
  refine List.all_eq_true.mpr fun c hc => ?_
  have h := List.all_eq_true.mp h1 c hc
  rcases Bool.eq_false_or_eq_true (isCode c) with hi | hi
  · exact h2 c (List.mem_filter.mpr ⟨hc, hi⟩)
  · simpa [hi] using h
set_option maxRecDepth 65536 in
theorem w_c0 : (Jvm.Cond.code x code maxLocals ret).before args0 about1 = true := code_word (m := ⟨1, 1⟩) (meth := k1m1) (c := k1c1) (by decide +kernel) rfl rfl rfl (by decide +kernel)
set_option maxRecDepth 65536 in
theorem w_c1 : (Jvm.Cond.code ({ cls := "com/example/gridpost/gridpost/store/OperationKindFromWireNamePinLaw", name := "pick", desc := "(Ljava/lang/String;II)C" } : Jvm.MethodName) method_3_code (3 : Nat) (Option.some Jvm.ClassFile.FieldType.char)).before args0 about1 = true := code_word (m := ⟨1, 2⟩) (meth := k1m2) (c := k1c2) (by decide +kernel) rfl rfl rfl (by decide +kernel)
set_option maxRecDepth 65536 in
theorem w_c2 : (Jvm.Cond.code ({ cls := "java/lang/String", name := "charAt", desc := "(I)C" } : Jvm.MethodName) jdk_42_method_56_code (2 : Nat) (Option.some Jvm.ClassFile.FieldType.char)).before args0 about1 = true := code_word (m := ⟨7, 2⟩) (meth := k7m2) (c := k7c2) (by decide +kernel) rfl rfl rfl (by decide +kernel)
set_option maxRecDepth 65536 in
theorem w_c3 : (Jvm.Cond.code ({ cls := "java/lang/String", name := "isLatin1", desc := "()Z" } : Jvm.MethodName) jdk_42_method_154_code (1 : Nat) (Option.some Jvm.ClassFile.FieldType.boolean)).before args0 about1 = true := code_word (m := ⟨7, 5⟩) (meth := k7m5) (c := k7c5) (by decide +kernel) rfl rfl rfl (by decide +kernel)
set_option maxRecDepth 65536 in
theorem w_c4 : (Jvm.Cond.code ({ cls := "java/lang/StringLatin1", name := "charAt", desc := "([BI)C" } : Jvm.MethodName) jdk_43_method_2_code (2 : Nat) (Option.some Jvm.ClassFile.FieldType.char)).before args0 about1 = true := code_word (m := ⟨8, 1⟩) (meth := k8m1) (c := k8c1) (by decide +kernel) rfl rfl rfl (by decide +kernel)
set_option maxRecDepth 65536 in
theorem w_c5 : (Jvm.Cond.code ({ cls := "java/lang/String", name := "checkIndex", desc := "(II)V" } : Jvm.MethodName) jdk_42_method_155_code (2 : Nat) (Option.none : Option Jvm.ClassFile.FieldType)).before args0 about1 = true := code_word (m := ⟨7, 6⟩) (meth := k7m6) (c := k7c6) (by decide +kernel) rfl rfl rfl (by decide +kernel)
set_option maxRecDepth 65536 in
theorem w_c6 : (Jvm.Cond.code ({ cls := "jdk/internal/util/Preconditions", name := "checkIndex", desc := "(IILjava/util/function/BiFunction;)I" } : Jvm.MethodName) jdk_41_method_11_code (3 : Nat) (Option.some Jvm.ClassFile.FieldType.int)).before args0 about1 = true := code_word (m := ⟨9, 1⟩) (meth := k9m1) (c := k9c1) (by decide +kernel) rfl rfl rfl (by decide +kernel)
set_option maxRecDepth 65536 in
theorem w_c7 : (Jvm.Cond.code ({ cls := "com/example/gridpost/gridpost/store/OperationKind", name := "fromWireName", desc := "(Ljava/lang/String;)Lcom/example/gridpost/gridpost/store/OperationKind;" } : Jvm.MethodName) prog_40_method_5_code (5 : Nat) (Option.some (Jvm.ClassFile.FieldType.object "com/example/gridpost/gridpost/store/OperationKind"))).before args0 about1 = true := code_word (m := ⟨11, 1⟩) (meth := k11m1) (c := k11c1) (by decide +kernel) rfl rfl rfl (by decide +kernel)
set_option maxRecDepth 65536 in
theorem w_c8 : (Jvm.Cond.code ({ cls := "com/example/gridpost/gridpost/store/OperationKind", name := "values", desc := "()[Lcom/example/gridpost/gridpost/store/OperationKind;" } : Jvm.MethodName) prog_40_method_1_code (0 : Nat) (Option.some (Jvm.ClassFile.FieldType.array (Jvm.ClassFile.FieldType.object "com/example/gridpost/gridpost/store/OperationKind")))).before args0 about1 = true := code_word (m := ⟨11, 0⟩) (meth := k11m0) (c := k11c0) (by decide +kernel) rfl rfl rfl (by decide +kernel)
set_option maxRecDepth 65536 in
theorem w_c9 : (Jvm.Cond.code ({ cls := "java/lang/String", name := "equals", desc := "(Ljava/lang/Object;)Z" } : Jvm.MethodName) jdk_42_method_66_code (3 : Nat) (Option.some Jvm.ClassFile.FieldType.boolean)).before args0 about1 = true := code_word (m := ⟨7, 3⟩) (meth := k7m3) (c := k7c3) (by decide +kernel) rfl rfl rfl (by decide +kernel)
set_option maxRecDepth 65536 in
theorem w_c10 : (Jvm.Cond.code ({ cls := "java/lang/StringLatin1", name := "equals", desc := "([B[B)Z" } : Jvm.MethodName) jdk_43_method_13_code (3 : Nat) (Option.some Jvm.ClassFile.FieldType.boolean)).before args0 about1 = true := code_word (m := ⟨8, 2⟩) (meth := k8m2) (c := k8c2) (by decide +kernel) rfl rfl rfl (by decide +kernel)
set_option maxRecDepth 65536 in
theorem w_c11 : (Jvm.Cond.code ({ cls := "com/example/gridpost/gridpost/store/OperationKindFromWireNamePinLaw", name := "expected", desc := "(Ljava/lang/String;)Lcom/example/gridpost/gridpost/store/OperationKind;" } : Jvm.MethodName) method_4_code (1 : Nat) (Option.some (Jvm.ClassFile.FieldType.object "com/example/gridpost/gridpost/store/OperationKind"))).before args0 about1 = true := code_word (m := ⟨1, 3⟩) (meth := k1m3) (c := k1c3) (by decide +kernel) rfl rfl rfl (by decide +kernel)
set_option maxRecDepth 65536 in
theorem w_c12 : (Jvm.Cond.code ({ cls := "java/lang/String", name := "<init>", desc := "([C)V" } : Jvm.MethodName) jdk_42_method_3_code (2 : Nat) (Option.none : Option Jvm.ClassFile.FieldType)).before args0 about1 = true := code_word (m := ⟨7, 1⟩) (meth := k7m1) (c := k7c1) (by decide +kernel) rfl rfl rfl (by decide +kernel)
set_option maxRecDepth 65536 in
theorem w_c13 : (Jvm.Cond.code ({ cls := "java/lang/String", name := "<init>", desc := "([CIILjava/lang/Void;)V" } : Jvm.MethodName) jdk_42_method_149_code (6 : Nat) (Option.none : Option Jvm.ClassFile.FieldType)).before args0 about1 = true := code_word (m := ⟨7, 4⟩) (meth := k7m4) (c := k7c4) (by decide +kernel) rfl rfl rfl (by decide +kernel)
set_option maxRecDepth 65536 in
theorem w_c14 : (Jvm.Cond.code ({ cls := "java/lang/Object", name := "<init>", desc := "()V" } : Jvm.MethodName) object_method_1_code (1 : Nat) (Option.none : Option Jvm.ClassFile.FieldType)).before args0 about1 = true := code_word (m := ⟨0, 0⟩) (meth := k0m0) (c := k0c0) (by decide +kernel) rfl rfl rfl (by decide +kernel)
set_option maxRecDepth 65536 in
theorem w_c15 : (Jvm.Cond.code ({ cls := "java/lang/StringUTF16", name := "compress", desc := "([CII)[B" } : Jvm.MethodName) jdk_52_method_16_code (6 : Nat) (Option.some (Jvm.ClassFile.FieldType.array Jvm.ClassFile.FieldType.byte))).before args0 about1 = true := code_word (m := ⟨13, 2⟩) (meth := k13m2) (c := k13c2) (by decide +kernel) rfl rfl rfl (by decide +kernel)
set_option maxRecDepth 65536 in
theorem w_c16 : (Jvm.Cond.code ({ cls := "java/lang/StringUTF16", name := "compress", desc := "([CI[BII)I" } : Jvm.MethodName) jdk_52_method_21_code (7 : Nat) (Option.some Jvm.ClassFile.FieldType.int)).before args0 about1 = true := code_word (m := ⟨13, 3⟩) (meth := k13m3) (c := k13c3) (by decide +kernel) rfl rfl rfl (by decide +kernel)
set_option maxRecDepth 65536 in
theorem w_c17 : (Jvm.Cond.code ({ cls := "java/lang/StringUTF16", name := "coderFromArrayLen", desc := "([BI)B" } : Jvm.MethodName) jdk_52_method_15_code (2 : Nat) (Option.some Jvm.ClassFile.FieldType.byte)).before args0 about1 = true := code_word (m := ⟨13, 1⟩) (meth := k13m1) (c := k13c1) (by decide +kernel) rfl rfl rfl (by decide +kernel)
def codes1 : List Jvm.Cond := [Jvm.Cond.code x code maxLocals ret, Jvm.Cond.code ({ cls := "com/example/gridpost/gridpost/store/OperationKindFromWireNamePinLaw", name := "pick", desc := "(Ljava/lang/String;II)C" } : Jvm.MethodName) method_3_code (3 : Nat) (Option.some Jvm.ClassFile.FieldType.char), Jvm.Cond.code ({ cls := "java/lang/String", name := "charAt", desc := "(I)C" } : Jvm.MethodName) jdk_42_method_56_code (2 : Nat) (Option.some Jvm.ClassFile.FieldType.char), Jvm.Cond.code ({ cls := "java/lang/String", name := "isLatin1", desc := "()Z" } : Jvm.MethodName) jdk_42_method_154_code (1 : Nat) (Option.some Jvm.ClassFile.FieldType.boolean), Jvm.Cond.code ({ cls := "java/lang/StringLatin1", name := "charAt", desc := "([BI)C" } : Jvm.MethodName) jdk_43_method_2_code (2 : Nat) (Option.some Jvm.ClassFile.FieldType.char), Jvm.Cond.code ({ cls := "java/lang/String", name := "checkIndex", desc := "(II)V" } : Jvm.MethodName) jdk_42_method_155_code (2 : Nat) (Option.none : Option Jvm.ClassFile.FieldType), Jvm.Cond.code ({ cls := "jdk/internal/util/Preconditions", name := "checkIndex", desc := "(IILjava/util/function/BiFunction;)I" } : Jvm.MethodName) jdk_41_method_11_code (3 : Nat) (Option.some Jvm.ClassFile.FieldType.int), Jvm.Cond.code ({ cls := "com/example/gridpost/gridpost/store/OperationKind", name := "fromWireName", desc := "(Ljava/lang/String;)Lcom/example/gridpost/gridpost/store/OperationKind;" } : Jvm.MethodName) prog_40_method_5_code (5 : Nat) (Option.some (Jvm.ClassFile.FieldType.object "com/example/gridpost/gridpost/store/OperationKind")), Jvm.Cond.code ({ cls := "com/example/gridpost/gridpost/store/OperationKind", name := "values", desc := "()[Lcom/example/gridpost/gridpost/store/OperationKind;" } : Jvm.MethodName) prog_40_method_1_code (0 : Nat) (Option.some (Jvm.ClassFile.FieldType.array (Jvm.ClassFile.FieldType.object "com/example/gridpost/gridpost/store/OperationKind"))), Jvm.Cond.code ({ cls := "java/lang/String", name := "equals", desc := "(Ljava/lang/Object;)Z" } : Jvm.MethodName) jdk_42_method_66_code (3 : Nat) (Option.some Jvm.ClassFile.FieldType.boolean), Jvm.Cond.code ({ cls := "java/lang/StringLatin1", name := "equals", desc := "([B[B)Z" } : Jvm.MethodName) jdk_43_method_13_code (3 : Nat) (Option.some Jvm.ClassFile.FieldType.boolean), Jvm.Cond.code ({ cls := "com/example/gridpost/gridpost/store/OperationKindFromWireNamePinLaw", name := "expected", desc := "(Ljava/lang/String;)Lcom/example/gridpost/gridpost/store/OperationKind;" } : Jvm.MethodName) method_4_code (1 : Nat) (Option.some (Jvm.ClassFile.FieldType.object "com/example/gridpost/gridpost/store/OperationKind")), Jvm.Cond.code ({ cls := "java/lang/String", name := "<init>", desc := "([C)V" } : Jvm.MethodName) jdk_42_method_3_code (2 : Nat) (Option.none : Option Jvm.ClassFile.FieldType), Jvm.Cond.code ({ cls := "java/lang/String", name := "<init>", desc := "([CIILjava/lang/Void;)V" } : Jvm.MethodName) jdk_42_method_149_code (6 : Nat) (Option.none : Option Jvm.ClassFile.FieldType), Jvm.Cond.code ({ cls := "java/lang/Object", name := "<init>", desc := "()V" } : Jvm.MethodName) object_method_1_code (1 : Nat) (Option.none : Option Jvm.ClassFile.FieldType), Jvm.Cond.code ({ cls := "java/lang/StringUTF16", name := "compress", desc := "([CII)[B" } : Jvm.MethodName) jdk_52_method_16_code (6 : Nat) (Option.some (Jvm.ClassFile.FieldType.array Jvm.ClassFile.FieldType.byte)), Jvm.Cond.code ({ cls := "java/lang/StringUTF16", name := "compress", desc := "([CI[BII)I" } : Jvm.MethodName) jdk_52_method_21_code (7 : Nat) (Option.some Jvm.ClassFile.FieldType.int), Jvm.Cond.code ({ cls := "java/lang/StringUTF16", name := "coderFromArrayLen", desc := "([BI)B" } : Jvm.MethodName) jdk_52_method_15_code (2 : Nat) (Option.some Jvm.ClassFile.FieldType.byte)]
set_option maxRecDepth 65536 in
theorem codes_eq : words1.filter isCode = codes1 := rfl
theorem w_codes : ∀ c ∈ words1.filter isCode, c.before args0 about1 = true := by
  rw [codes_eq]
  intro c hc
  simp only [codes1, List.mem_cons, List.not_mem_nil, or_false] at hc
  rcases hc with rfl | rfl | rfl | rfl | rfl | rfl | rfl | rfl | rfl | rfl | rfl | rfl | rfl | rfl | rfl | rfl | rfl | rfl
  · exact w_c0
  · exact w_c1
  · exact w_c2
  · exact w_c3
  · exact w_c4
  · exact w_c5
  · exact w_c6
  · exact w_c7
  · exact w_c8
  · exact w_c9
  · exact w_c10
  · exact w_c11
  · exact w_c12
  · exact w_c13
  · exact w_c14
  · exact w_c15
  · exact w_c16
  · exact w_c17
set_option maxRecDepth 65536 in
theorem w_t1 : (words1.take 24).all (fun c => isCode c || c.before args0 about1) = true := by decide +kernel
set_option maxRecDepth 65536 in
theorem w_t2 : ((words1.drop 24).take 24).all (fun c => isCode c || c.before args0 about1) = true := by decide +kernel
set_option maxRecDepth 65536 in
theorem w_t3 : (((words1.drop 24).drop 24).take 24).all (fun c => isCode c || c.before args0 about1) = true := by decide +kernel
set_option maxRecDepth 65536 in
theorem w_t4 : ((((words1.drop 24).drop 24).drop 24).take 24).all (fun c => isCode c || c.before args0 about1) = true := by decide +kernel
set_option maxRecDepth 65536 in
theorem w_t5 : ((((words1.drop 24).drop 24).drop 24).drop 24).all (fun c => isCode c || c.before args0 about1) = true := by decide +kernel
theorem w_tables : (allAtoms (Jvm.Cond.code x code maxLocals ret :: tables_1)).before args0 about1 = true := by
  rw [allAtoms_all]
  show words1.all (fun c => c.before args0 about1) = true
  refine all_split ?_ w_codes
  rw [← List.take_append_drop 24 words1, List.all_append, w_t1, ← List.take_append_drop 24 (words1.drop 24), List.all_append, w_t2, ← List.take_append_drop 24 ((words1.drop 24).drop 24), List.all_append, w_t3, ← List.take_append_drop 24 (((words1.drop 24).drop 24).drop 24), List.all_append, w_t4, w_t5]
  rfl
set_option maxRecDepth 65536 in
theorem w_rest : rest_1_c.before args0 about1 = true := by decide +kernel
set_option maxRecDepth 65536 in
theorem w_case : (Jvm.Cond.and given_1 narrow_1).before args0 about1 = true := by decide +kernel
set_option maxRecDepth 65536 in
theorem w_consts : constsHeld consts_1 about1 := Jvm.Lit.constsHeldB_iff.mp (by decide +kernel)
theorem w_applies : (headSpec (Jvm.Cond.code x code maxLocals ret :: tables_1) room_1).applies x e0.platform about1 = true :=
  (Spec.applies_iff w_frames).mpr ⟨w_running, w_runnable, w_alone, w_named, w_hears, w_ripe, w_room, w_tables⟩
theorem atStart : AtStart classFile x code maxLocals ret World_1 tables_1 room_1 Calls_1 rest_1 Pre_1 launch0 p0 e0 about1 theMethod args0 below0 :=
  ⟨lists_1, trivial, launch0.admits_env _ _ _, launch0.least_env, fairChoices_fair.cas, fairChoices_fair.clock, w_frames, w_args, w_heap, w_applies, ⟨w_consts, trivial⟩, w_rest, w_case⟩
end start1
theorem witness_1 : WitnessClaimed_1 := ⟨start1.p0, start1.e0, start1.about1, start1.theMethod, start1.args0, start1.below0, start1.atStart⟩
end Jvm.Pilot.@@N@@
