import JvmDerived
import JvmDerived.Pilot.@@N@@Statement
import JvmDerived.Pilot.@@N@@Code
set_option linter.unusedVariables false
set_option linter.unusedSimpArgs false
namespace Jvm.RoadKit
open Sem ClassFile Op Lib Jvm.Stand Jvm.Free Jvm.LawKit
section Own
variable {p : Program} {l : Launch} {e : Env} {R : Room} {s s' : State} {m : MethodId} {args : Array Value} {below : List Frame} {meth : Method} {c : Code} {T : State} {locs : List Loc} {cells slots : Nat} {Z : State} {a0 : Array Value} {h : Heap} {K : Outcome → State → Prop} {Q : Option Value → Heap → List Loc → Prop}
/-- from the state A the run comes to an end that K allows -/
def OwnOk (p : Program) (e : Env) (below : List Frame) (K : Outcome → State → Prop) (A : State) : Prop :=
  ∃ s₂ o, Steps p.tables e below A s₂ ∧ s₂.status = .running ∧ Ended s₂ below o ∧ K o s₂
theorem own_up {A B : State} (h : ∀ t, Steps p.tables e below B t → Steps p.tables e below A t) (k : OwnOk p e below K B) : OwnOk p e below K A := by
  obtain ⟨s₂, o, h1, h2⟩ := k
  exact ⟨s₂, o, h _ h1, h2⟩
theorem own_to {A B : State} (h : Steps p.tables e below A B) (k : OwnOk p e below K B) : OwnOk p e below K A := own_up (fun _ q => h.trans q) k
theorem own_rem64 (x y : Int64) : x - (x / y) * y = x % y := by
  apply Int64.toInt_inj.mp
  have h1 := Int64.le_toInt (x % y)
  have h2 := Int64.toInt_lt (x % y)
  rw [Int64.toInt_sub, Int64.toInt_mul, Int64.toInt_div, Int.bmod_mul_bmod, Int.sub_bmod_bmod, Int.mul_comm (x.toInt.tdiv y.toInt), ← Int.tmod_def, ← Int64.toInt_mod]
  exact Int.bmod_eq_of_le_mul_two (by omega) (by omega)
theorem own_ldiv {g : JFrame} {target : State} (X : Stand p l e R s m args below meth c T locs cells slots) (hx : p.tables.exec = Jvm.exec) (hg : g.method = m) {x y : Int64} {rest : List Value} (hd : decode c.code g.pc = .ok (.ldiv, 1)) (hs : g.stack = .long y :: .long x :: rest) (hy : y ≠ 0)
    (hr : Steps p.tables e below (T.setTop { g with pc := g.pc + 1, stack := .long (x / y) :: rest }) target) : Steps p.tables e below (T.setTop g) target := by
  have h := X.here
  subst hg
  jvm_step h [h.top, hx, hd, hs, hy, ldiv.wp_sem]
  exact hr
theorem own_lrem {g : JFrame} {target : State} (X : Stand p l e R s m args below meth c T locs cells slots) (hx : p.tables.exec = Jvm.exec) (hg : g.method = m) {x y : Int64} {rest : List Value} (hd : decode c.code g.pc = .ok (.lrem, 1)) (hs : g.stack = .long y :: .long x :: rest) (hy : y ≠ 0)
    (hr : Steps p.tables e below (T.setTop { g with pc := g.pc + 1, stack := .long (x % y) :: rest }) target) : Steps p.tables e below (T.setTop g) target := by
  have h := X.here
  rw [← own_rem64] at hr
  subst hg
  jvm_step h [h.top, hx, hd, hs, hy, lrem.wp_sem]
  exact hr
theorem own_ar {h1 h2 : Heap} {b : Addr} {cl : Cell} (q : h1 = h2) (r : h2[b]? = some cl) : h1[b]? = some cl := by rw [q]; exact r
theorem own_n0 {n0 : Nat} (X : Old Z n0 h) : n0 ≤ h.size := X.1 ▸ X.2.1
theorem own_ref_eq {a b : Addr} (q : a = b) : Value.ref a = Value.ref b := congrArg Value.ref q
theorem own_ref_ne {a b : Addr} (q : ¬ a = b) : ¬ Value.ref a = Value.ref b := fun r => q (Value.ref.inj r)
theorem own_jtlt {x y : Int64} (h : x < y) : ifCond.holds .lt (lcmpW x y) = true ∧ ifCond.holds .ge (lcmpW x y) = false ∧ ifCond.holds .gt (lcmpW y x) = true ∧ ifCond.holds .le (lcmpW y x) = false := by
  have q1 : lcmpW x y < 0 := by rw [lcW]; exact (lc_lt x y).mpr h
  have q2 : (0 : Int32) < lcmpW y x := by rw [lcW]; exact (lc_gt y x).mpr h
  exact ⟨(if0 _ _).trans (tlt q1).1, (if0 _ _).trans (tlt q1).2.1, (if0 _ _).trans (tlt q2).2.2.1, (if0 _ _).trans (tlt q2).2.2.2⟩
theorem own_jflt {x y : Int64} (h : ¬ x < y) : ifCond.holds .lt (lcmpW x y) = false ∧ ifCond.holds .ge (lcmpW x y) = true ∧ ifCond.holds .gt (lcmpW y x) = false ∧ ifCond.holds .le (lcmpW y x) = true := by
  have q1 : ¬ lcmpW x y < 0 := by rw [lcW]; exact fun q => h ((lc_lt x y).mp q)
  have q2 : ¬ (0 : Int32) < lcmpW y x := by rw [lcW]; exact fun q => h ((lc_gt y x).mp q)
  exact ⟨(if0 _ _).trans (flt q1).1, (if0 _ _).trans (flt q1).2.1, (if0 _ _).trans (flt q2).2.2.1, (if0 _ _).trans (flt q2).2.2.2⟩
theorem own_jteq {x y : Int64} (h : x = y) : ifCond.holds .eq (lcmpW x y) = true ∧ ifCond.holds .ne (lcmpW x y) = false := by
  have q1 : lcmpW x y = 0 := by rw [lcW]; exact (lc_eq x y).mpr h
  exact ⟨(if0 _ _).trans (teq q1).1, (if0 _ _).trans (teq q1).2⟩
theorem own_jfeq {x y : Int64} (h : ¬ x = y) : ifCond.holds .eq (lcmpW x y) = false ∧ ifCond.holds .ne (lcmpW x y) = true := by
  have q1 : ¬ lcmpW x y = 0 := by rw [lcW]; exact fun q => h ((lc_eq x y).mp q)
  exact ⟨(if0 _ _).trans (feq q1).1, (if0 _ _).trans (feq q1).2⟩
theorem own_fldEq {t : Term} {a : Addr} {C n d : String} {z : Int32} (ev : t.eval args Z none [] Z = some (.ref a)) (q : (Cond.eq (.field t C n d) (.int z)).value args Z none Z [] = some true) : Fld Z Z.heap a C n d (.int z) := by
  obtain ⟨x, y, h1, h2, h3, h4⟩ := cmp_v (Or.inl q)
  have e2 : y = .int z := by simpa [Term.eval] using h2.symm
  subst e2
  obtain ⟨w, rfl⟩ := h4
  have hw : w = z := by
    have q' := q
    rw [Cond.eq_ints h1 h2] at q'
    exact of_decide_eq_true (Option.some.inj q')
  subst hw
  rw [fld_at ev] at h1
  exact Fld.start h1
/-- the end of a body that interns nothing -/
def own_K (s : State) (Q : Option Value → Heap → List Loc → Prop) (k n : Nat) (o : Outcome) (u : State) : Prop := ∃ v L, o = .returned v ∧ Q v u.heap L ∧ FrameEnd s o u L k n
/-- a body's contract -/
def own_Met (l : Launch) (Z : State) (y : MethodName) (bytes : ByteArray) (maxL : Nat) (ret : Option FieldType) (rm : Room) (as' : Array Value) (h0 : Heap) (Q : Option Value → Heap → List Loc → Prop) : Prop :=
  ∀ ws, MetFree l y (head1 (Cond.code y bytes maxL ret :: ws) rm) (fun a U => a = as' ∧ Z.Warmed39 U.vm ∧ U.heap = h0) (fun _ _ _ _ _ => True) (fun _ U o U' => own_K U Q rm.cells rm.slots o U')
theorem own_body {y : MethodName} {bytes : ByteArray} {maxL : Nat} {ret : Option FieldType} {rm : Room} {as' : Array Value} {L0 : Array Slot}
    (hpl : plainFor y = true) (ef : ∀ m, entryFrame m as' maxL = mkF m 0 L0 [])
    (body : ∀ (p : Program) (e : Env) (s : State) (m : MethodId) (below : List Frame) (meth : Method) (c : Code) (s₁ : State), p.tables.exec = Jvm.exec → c.code = bytes → c.maxLocals = maxL → Z.Warmed39 s.vm → s.vm.findClass y.cls = some m.cls → meth.name = y.name → meth.sig.returnType = ret → meth.locks = false →
      Stand p l e rm s m as' below meth c s₁ [] 0 0 → s₁.heap = h → OwnOk p e below (own_K s Q rm.cells rm.slots) (s₁.setTop (mkF m 0 L0 []))) :
    own_Met l Z y bytes maxL ret rm as' h Q := by
  intro ws
  refine MetFree.of_bodySF hpl hisR ?_
  intro p e s m args below meth c s₁ Bd hml0 hP hK
  obtain ⟨rfl, hZ, hh⟩ := hP
  have q := body p e s m below meth c s₁ Bd.exec Bd.bytes hml0 hZ (findClass_of_methodNamed Bd.named) (name_of_methodNamed Bd.named Bd.method).1 Bd.returns Bd.notSynchronized (Stand.of_body Bd) (by rw [← hh, Bd.state]; rfl)
  rw [← ef] at q
  exact q
theorem own_ret (X : Stand p l e R s m args below meth c T locs cells slots) {F : JFrame} {v : Option Value} (hv : meth.sig.returnType = none → v = none) (hlk : meth.locks = false)
    (st : ∀ fs, (∀ (f : JFrame) (acts : List Action), f.method = m → f.locked = none → f.entered = [] → (doReturn e (T.setTop f) acts v).1 = T.setFrames fs) → Steps p.tables e below (T.setTop F) (T.setFrames fs))
    (eT : T.heap = h) (hQ : Q v h locs) {k n : Nat} (hk : cells ≤ k) (hn : slots ≤ n) : OwnOk p e below (own_K s Q k n) (T.setTop F) := by
  obtain ⟨fs, hr, hrun, hended, hW, hsame⟩ := X.leave hv hlk
  refine ⟨_, _, st fs hr, hrun, hended, v, locs, rfl, ?_, ⟨_, rfl⟩, hW, hsame.mono hk hn⟩
  show Q v T.heap locs
  rw [eT]; exact hQ
theorem own_retN (X : Stand p l e R s m args below meth c T locs cells slots) (hx : p.tables.exec = Jvm.exec) {t : FieldType} (hret : meth.sig.returnType = some t) (ht : t = .boolean ∨ t = .byte ∨ t = .char ∨ t = .short) (hlk : meth.locks = false)
    {pc : Nat} {Ls : Array Slot} {z z' : Int32} {rest : List Value} (hd : decode c.code pc = .ok (.ireturn, 1)) (hz : nar t z = z') (eT : T.heap = h) {k n : Nat} (hk : cells ≤ k) (hn : slots ≤ n) (hQ : Q (some (.int z')) h locs) :
    OwnOk p e below (own_K s Q k n) (T.setTop (mkF m pc Ls (.int z :: rest))) := by
  subst hz
  exact own_ret X (fun q => by rw [hret] at q; cases q) hlk (fun fs hr => retN X hx hret ht hd hr) eT hQ hk hn
theorem own_retI (X : Stand p l e R s m args below meth c T locs cells slots) (hx : p.tables.exec = Jvm.exec) (hret : meth.sig.returnType = some .int) (hlk : meth.locks = false)
    {pc : Nat} {Ls : Array Slot} {z : Int32} {rest : List Value} (hd : decode c.code pc = .ok (.ireturn, 1)) (eT : T.heap = h) {k n : Nat} (hk : cells ≤ k) (hn : slots ≤ n) (hQ : Q (some (.int z)) h locs) :
    OwnOk p e below (own_K s Q k n) (T.setTop (mkF m pc Ls (.int z :: rest))) :=
  own_ret X (fun q => by rw [hret] at q; cases q) hlk (fun fs hr => retOut X hx hret rfl (Or.inl ⟨rfl, Or.inl rfl, z, rfl⟩) hd hr) eT hQ hk hn
theorem own_retJ (X : Stand p l e R s m args below meth c T locs cells slots) (hx : p.tables.exec = Jvm.exec) (hret : meth.sig.returnType = some .long) (hlk : meth.locks = false)
    {pc : Nat} {Ls : Array Slot} {z : Int64} {rest : List Value} (hd : decode c.code pc = .ok (.lreturn, 1)) (eT : T.heap = h) {k n : Nat} (hk : cells ≤ k) (hn : slots ≤ n) (hQ : Q (some (.long z)) h locs) :
    OwnOk p e below (own_K s Q k n) (T.setTop (mkF m pc Ls (.long z :: rest))) :=
  own_ret X (fun q => by rw [hret] at q; cases q) hlk (fun fs hr => retOut X hx hret rfl (Or.inr (Or.inl ⟨rfl, rfl, z, rfl⟩)) hd hr) eT hQ hk hn
theorem own_retR (X : Stand p l e R s m args below meth c T locs cells slots) (hx : p.tables.exec = Jvm.exec) {t : FieldType} (hret : meth.sig.returnType = some t) (ht : t.isReference = true) (hlk : meth.locks = false)
    {pc : Nat} {Ls : Array Slot} {w : Value} {rest : List Value} (hw : w.isRef = true) (hd : decode c.code pc = .ok (.areturn, 1)) (eT : T.heap = h) {k n : Nat} (hk : cells ≤ k) (hn : slots ≤ n) (hQ : Q (some w) h locs) :
    OwnOk p e below (own_K s Q k n) (T.setTop (mkF m pc Ls (w :: rest))) :=
  own_ret X (fun q => by rw [hret] at q; cases q) hlk (fun fs hr => retOut X hx hret (by rcases ref_cases hw with rfl | ⟨a, rfl⟩ <;> cases t <;> rfl) (Or.inr (Or.inr (Or.inr (Or.inr ⟨rfl, ht, hw⟩)))) hd hr) eT hQ hk hn
theorem own_retV (X : Stand p l e R s m args below meth c T locs cells slots) (hx : p.tables.exec = Jvm.exec) (hret : meth.sig.returnType = none) (hlk : meth.locks = false)
    {pc : Nat} {Ls : Array Slot} (hd : decode c.code pc = .ok (.return_, 1)) (eT : T.heap = h) {k n : Nat} (hk : cells ≤ k) (hn : slots ≤ n) (hQ : Q none h locs) :
    OwnOk p e below (own_K s Q k n) (T.setTop (mkF m pc Ls [])) :=
  own_ret X (fun _ => rfl) hlk (fun fs hr => X.returnOut hx hret hd hr) eT hQ hk hn
/-- who pays a call: Back, in the form that backOf and the pasted String laws have -/
def own_Bk (l : Launch) (R : Room) (p : Program) (e : Env) (below : List Frame) (s : State) (args : Array Value) (y : MethodName) (len W : Nat) (as' : Array Value) (h : Heap) (kc ks : Nat) (Q : Option Value → Heap → List Loc → Prop) : Prop :=
  Back l R p e below s args y len W (fun A a => a = as' ∧ A.U.heap = h ∧ A.cells + kc ≤ R.cells ∧ A.slots + ks ≤ R.slots) (fun A _ v B => ∃ L, Q v B.U.heap L ∧ B.locs = A.locs ++ L ∧ B.cells = A.cells + kc ∧ B.slots = A.slots + ks)
theorem own_bk {y : MethodName} {bytes : ByteArray} {maxL : Nat} {ret : Option FieldType} {rm : Room} {len W : Nat} {as' : Array Value} (hM : own_Met l Z y bytes maxL ret rm as' h Q) (hZ : Z.Warmed39 s.vm) (w4 : (Cond.code y bytes maxL ret).before a0 Z = true) (w3 : (Cond.initialized y.cls).before a0 Z = true) (hf : rm.frames + 1 ≤ R.frames) (hl : W + (maxL + 11) + rm.locals ≤ R.locals) :
    own_Bk l R p e below s args y len W as' h rm.cells rm.slots Q := backOf (W := W) (hM []) hZ w4 w3 hf hl
/-- a static call -/
theorem own_callSB (X : Stand p l e R s m args below meth c T locs cells slots) (hx : p.tables.exec = Jvm.exec) (hZ : Z.Warmed39 s.vm) {own : String} {index : Nat} {y : MethodName} {bytes : ByteArray} {maxL : Nat} {ret : Option FieldType}
    (hown : s.vm.findClass own = some m.cls) (w1 : (Cond.methodLink own index y).before a0 Z = true) (w2 : (Cond.static y).before a0 Z = true) (w3 : (Cond.initialized y.cls).before a0 Z = true) (w4 : (Cond.code y bytes maxL ret).before a0 Z = true)
    (hy : y.cls ≠ "java/lang/invoke/MethodHandle" ∧ y.cls ≠ "java/lang/invoke/VarHandle") {W kc ks : Nat} {as' : Array Value} {Q' : Option Value → Heap → List Loc → Prop} (hB : own_Bk l R p e below s args y 3 W as' h kc ks Q') (eT : T.heap = h)
    {pc : Nat} {ls : Array Slot} {st argsL rest : List Value} (hsize : ls.size = c.maxLocals) (hlen : ∀ sig, parseMethodDescriptor y.desc = some sig → argsL.length = sig.parameters.length) (has : argsL.toArray = as') (hst : st = argsL.reverse ++ rest)
    (hW : (rest.map fun v => v.category).sum = W) (hd : decode c.code pc = .ok (.invokestatic index, 3)) (hc : cells + kc ≤ R.cells) (hs : slots + ks ≤ R.slots)
    (k : ∀ (T' : State) (v : Option Value) (L : List Loc), Stand p l e R s m args below meth c T' (locs ++ L) (cells + kc) (slots + ks) → Q' v T'.heap L → OwnOk p e below K (T'.setTop (mkF m (pc + 3) ls (v.toList ++ rest)))) :
    OwnOk p e below K (T.setTop (mkF m pc ls st)) := by
  obtain ⟨v, _, ⟨T2, L2, k2, n2⟩, -, X2, ⟨Lc, hQ, l2, y2, z2⟩, st2⟩ := Jvm.LawKit.callS X hx hown (mvT hZ w1) (mvT hZ w2) (mvT hZ w3) (mvT hZ w4) hy hB
    (g := mkF m pc ls st) rfl hsize (argsL := argsL) (rest := rest) hlen hst (by show 2 * 0 + _ ≤ _; rw [hW]; omega) hd (fun _ _ => ⟨has, eT, hc, hs⟩)
  dsimp only [Pt.U, Pt.locs, Pt.cells, Pt.slots] at X2 l2 y2 z2 st2 hQ
  subst l2 y2 z2
  exact own_up st2 (k _ _ _ X2 hQ)
theorem own_callS (X : Stand p l e R s m args below meth c T locs cells slots) (hx : p.tables.exec = Jvm.exec) (hZ : Z.Warmed39 s.vm) {own : String} {index : Nat} {y : MethodName} {bytes : ByteArray} {maxL : Nat} {ret : Option FieldType}
    (hown : s.vm.findClass own = some m.cls) (w1 : (Cond.methodLink own index y).before a0 Z = true) (w2 : (Cond.static y).before a0 Z = true) (w3 : (Cond.initialized y.cls).before a0 Z = true) (w4 : (Cond.code y bytes maxL ret).before a0 Z = true)
    (hy : y.cls ≠ "java/lang/invoke/MethodHandle" ∧ y.cls ≠ "java/lang/invoke/VarHandle") {rm : Room} {as' : Array Value} {Q' : Option Value → Heap → List Loc → Prop} (hM : own_Met l Z y bytes maxL ret rm as' h Q') (eT : T.heap = h)
    {pc W : Nat} {ls : Array Slot} {st argsL rest : List Value} (hsize : ls.size = c.maxLocals) (hlen : ∀ sig, parseMethodDescriptor y.desc = some sig → argsL.length = sig.parameters.length) (has : argsL.toArray = as') (hst : st = argsL.reverse ++ rest)
    (hW : (rest.map fun v => v.category).sum = W) (hd : decode c.code pc = .ok (.invokestatic index, 3)) (hf : rm.frames + 1 ≤ R.frames) (hl : W + (maxL + 11) + rm.locals ≤ R.locals) (hc : cells + rm.cells ≤ R.cells) (hs : slots + rm.slots ≤ R.slots)
    (k : ∀ (T' : State) (v : Option Value) (L : List Loc), Stand p l e R s m args below meth c T' (locs ++ L) (cells + rm.cells) (slots + rm.slots) → Q' v T'.heap L → OwnOk p e below K (T'.setTop (mkF m (pc + 3) ls (v.toList ++ rest)))) :
    OwnOk p e below K (T.setTop (mkF m pc ls st)) := own_callSB X hx hZ hown w1 w2 w3 w4 hy (own_bk hM hZ w4 w3 hf hl) eT hsize hlen has hst hW hd hc hs k
/-- a constructor -/
theorem own_callCB (X : Stand p l e R s m args below meth c T locs cells slots) (hx : p.tables.exec = Jvm.exec) (hZ : Z.Warmed39 s.vm) {own : String} {index : Nat} {y : MethodName} {bytes : ByteArray} {maxL : Nat} (hy1 : y.name = "<init>")
    (hown : s.vm.findClass own = some m.cls) (w1 : (Cond.methodLink own index y).before a0 Z = true) (w2 : (Cond.instanceMethod y).before a0 Z = true) (w4 : (Cond.code y bytes maxL none).before a0 Z = true)
    (hy : y.cls ≠ "java/lang/invoke/MethodHandle" ∧ y.cls ≠ "java/lang/invoke/VarHandle") {W kc ks : Nat} {as' : Array Value} {Q' : Option Value → Heap → List Loc → Prop} (hB : own_Bk l R p e below s args y 3 W as' h kc ks Q') (eT : T.heap = h)
    {pc : Nat} {ls : Array Slot} {a : Addr} {st argsL rest : List Value} (hsize : ls.size = c.maxLocals) (hlen : ∀ sig, parseMethodDescriptor y.desc = some sig → argsL.length = sig.parameters.length) (has : (Value.ref a :: argsL).toArray = as') (hst : st = argsL.reverse ++ .ref a :: rest)
    (hW : (rest.map fun v => v.category).sum = W) (hd : decode c.code pc = .ok (.invokespecial index, 3)) (hc : cells + kc ≤ R.cells) (hs : slots + ks ≤ R.slots)
    (k : ∀ (T' : State) (v : Option Value) (L : List Loc), Stand p l e R s m args below meth c T' (locs ++ L) (cells + kc) (slots + ks) → Q' v T'.heap L → OwnOk p e below K (T'.setTop (mkF m (pc + 3) ls (v.toList ++ rest)))) :
    OwnOk p e below K (T.setTop (mkF m pc ls st)) := by
  obtain ⟨v, _, ⟨T2, L2, k2, n2⟩, -, X2, ⟨Lc, hQ, l2, y2, z2⟩, st2⟩ := X.specialBack hx hy1 hown (mvT hZ w1) (mvT hZ w2) (mvT hZ w4) hy hB
    (g := mkF m pc ls st) rfl hsize (Steps.refl _) (a := a) (argsL := argsL) (rest := rest) hlen hst (by show 2 * 0 + _ ≤ _; rw [hW]; omega) hd (fun _ _ => ⟨has, eT, hc, hs⟩)
  dsimp only [Pt.U, Pt.locs, Pt.cells, Pt.slots] at X2 l2 y2 z2 st2 hQ
  subst l2 y2 z2
  exact own_to st2 (k _ _ _ X2 hQ)
theorem own_callC (X : Stand p l e R s m args below meth c T locs cells slots) (hx : p.tables.exec = Jvm.exec) (hZ : Z.Warmed39 s.vm) {own : String} {index : Nat} {y : MethodName} {bytes : ByteArray} {maxL : Nat} (hy1 : y.name = "<init>")
    (hown : s.vm.findClass own = some m.cls) (w1 : (Cond.methodLink own index y).before a0 Z = true) (w2 : (Cond.instanceMethod y).before a0 Z = true) (w3 : (Cond.initialized y.cls).before a0 Z = true) (w4 : (Cond.code y bytes maxL none).before a0 Z = true)
    (hy : y.cls ≠ "java/lang/invoke/MethodHandle" ∧ y.cls ≠ "java/lang/invoke/VarHandle") {rm : Room} {as' : Array Value} {Q' : Option Value → Heap → List Loc → Prop} (hM : own_Met l Z y bytes maxL none rm as' h Q') (eT : T.heap = h)
    {pc W : Nat} {ls : Array Slot} {a : Addr} {st argsL rest : List Value} (hsize : ls.size = c.maxLocals) (hlen : ∀ sig, parseMethodDescriptor y.desc = some sig → argsL.length = sig.parameters.length) (has : (Value.ref a :: argsL).toArray = as') (hst : st = argsL.reverse ++ .ref a :: rest)
    (hW : (rest.map fun v => v.category).sum = W) (hd : decode c.code pc = .ok (.invokespecial index, 3)) (hf : rm.frames + 1 ≤ R.frames) (hl : W + (maxL + 11) + rm.locals ≤ R.locals) (hc : cells + rm.cells ≤ R.cells) (hs : slots + rm.slots ≤ R.slots)
    (k : ∀ (T' : State) (v : Option Value) (L : List Loc), Stand p l e R s m args below meth c T' (locs ++ L) (cells + rm.cells) (slots + rm.slots) → Q' v T'.heap L → OwnOk p e below K (T'.setTop (mkF m (pc + 3) ls (v.toList ++ rest)))) :
    OwnOk p e below K (T.setTop (mkF m pc ls st)) := own_callCB X hx hZ hy1 hown w1 w2 w4 hy (own_bk hM hZ w4 w3 hf hl) eT hsize hlen has hst hW hd hc hs k
/-- an instance method: the body that the receiver's class selects -/
theorem own_callVB (X : Stand p l e R s m args below meth c T locs cells slots) (hx : p.tables.exec = Jvm.exec) (hZ : Z.Warmed39 s.vm) {own C : String} {index : Nat} {y z : MethodName}
    (hown : s.vm.findClass own = some m.cls) (w1 : (Cond.methodLink own index y).before a0 Z = true) (w2 : (Cond.declares y).before a0 Z = true) (hnf : NotFace s y) (w5 : (Cond.selects C y z).before a0 Z = true) (w6 : (Cond.instanceMethod z).before a0 Z = true)
    (hy : y.cls ≠ "java/lang/invoke/MethodHandle" ∧ y.cls ≠ "java/lang/invoke/VarHandle") {W kc ks : Nat} {as' : Array Value} {Q' : Option Value → Heap → List Loc → Prop} (hB : own_Bk l R p e below s args z 3 W as' h kc ks Q') (eT : T.heap = h)
    {pc : Nat} {ls : Array Slot} {a : Addr} {st argsL rest : List Value} (E : Exa Z h a C) (hsize : ls.size = c.maxLocals) (hlen : ∀ sig, parseMethodDescriptor y.desc = some sig → argsL.length = sig.parameters.length) (has : (Value.ref a :: argsL).toArray = as') (hst : st = argsL.reverse ++ .ref a :: rest)
    (hW : (rest.map fun v => v.category).sum = W) (hd : decode c.code pc = .ok (.invokevirtual index, 3)) (hc : cells + kc ≤ R.cells) (hs : slots + ks ≤ R.slots)
    (k : ∀ (T' : State) (v : Option Value) (L : List Loc), Stand p l e R s m args below meth c T' (locs ++ L) (cells + kc) (slots + ks) → Q' v T'.heap L → OwnOk p e below K (T'.setTop (mkF m (pc + 3) ls (v.toList ++ rest)))) :
    OwnOk p e below K (T.setTop (mkF m pc ls st)) := by
  obtain ⟨cq, kq, qa, qb, qc⟩ := isOf hZ eT E
  obtain ⟨v, _, ⟨T2, L2, k2, n2⟩, -, X2, ⟨Lc, hQ, l2, y2, z2⟩, st2⟩ := X.virtualBack hx (y := y) (z := z) hown (mvT hZ w1) (mvT hZ w2) hnf (mvT hZ w5) (mvT hZ w6) hy hB qa qc
    (g := mkF m pc ls st) rfl hsize (Steps.refl _) (argsL := argsL) (rest := rest) hlen hst (by show 2 * 0 + _ ≤ _; rw [hW]; omega) hd (fun _ _ => ⟨has, eT, hc, hs⟩)
  dsimp only [Pt.U, Pt.locs, Pt.cells, Pt.slots] at X2 l2 y2 z2 st2 hQ
  subst l2 y2 z2
  exact own_to st2 (k _ _ _ X2 hQ)
theorem own_callV (X : Stand p l e R s m args below meth c T locs cells slots) (hx : p.tables.exec = Jvm.exec) (hZ : Z.Warmed39 s.vm) {own C : String} {index : Nat} {y z : MethodName} {bytes : ByteArray} {maxL : Nat} {ret : Option FieldType}
    (hown : s.vm.findClass own = some m.cls) (w1 : (Cond.methodLink own index y).before a0 Z = true) (w2 : (Cond.declares y).before a0 Z = true) (hnf : NotFace s y) (w5 : (Cond.selects C y z).before a0 Z = true) (w6 : (Cond.instanceMethod z).before a0 Z = true) (w3 : (Cond.initialized z.cls).before a0 Z = true) (w4 : (Cond.code z bytes maxL ret).before a0 Z = true)
    (hy : y.cls ≠ "java/lang/invoke/MethodHandle" ∧ y.cls ≠ "java/lang/invoke/VarHandle") {rm : Room} {as' : Array Value} {Q' : Option Value → Heap → List Loc → Prop} (hM : own_Met l Z z bytes maxL ret rm as' h Q') (eT : T.heap = h)
    {pc W : Nat} {ls : Array Slot} {a : Addr} {st argsL rest : List Value} (E : Exa Z h a C) (hsize : ls.size = c.maxLocals) (hlen : ∀ sig, parseMethodDescriptor y.desc = some sig → argsL.length = sig.parameters.length) (has : (Value.ref a :: argsL).toArray = as') (hst : st = argsL.reverse ++ .ref a :: rest)
    (hW : (rest.map fun v => v.category).sum = W) (hd : decode c.code pc = .ok (.invokevirtual index, 3)) (hf : rm.frames + 1 ≤ R.frames) (hl : W + (maxL + 11) + rm.locals ≤ R.locals) (hc : cells + rm.cells ≤ R.cells) (hs : slots + rm.slots ≤ R.slots)
    (k : ∀ (T' : State) (v : Option Value) (L : List Loc), Stand p l e R s m args below meth c T' (locs ++ L) (cells + rm.cells) (slots + rm.slots) → Q' v T'.heap L → OwnOk p e below K (T'.setTop (mkF m (pc + 3) ls (v.toList ++ rest)))) :
    OwnOk p e below K (T.setTop (mkF m pc ls st)) := own_callVB X hx hZ hown w1 w2 hnf w5 w6 hy (own_bk hM hZ w4 w3 hf hl) eT E hsize hlen has hst hW hd hc hs k
end Own
end Jvm.RoadKit
namespace Jvm.RoadKit
open Sem ClassFile Op Lib Jvm.Stand Jvm.Free Jvm.LawKit
section OwnW
variable {p : Program} {l : Launch} {e : Env} {R : Room} {s s' : State} {m : MethodId} {args : Array Value} {below : List Frame} {meth : Method} {c : Code} {T : State} {locs : List Loc} {cells slots : Nat} {Z : State} {a0 : Array Value} {h : Heap} {K : Outcome → State → Prop} {Q : Option Value → Heap → List Loc → Prop}
/-- the walk's base: the start with the tables at hand -/
def own_From (s s' : State) (h : Heap) : Prop := ∃ (vm0 : Vm) (k0 : Nat), s' = s.setVm vm0 ∧ s.Since vm0 k0 ∧ k0 ≤ h.size
theorem own_From.start (s : State) (h : Heap) : own_From s s h := ⟨s.vm, 0, rfl, (State.WarmedH.refl s).since 0, Nat.zero_le _⟩
theorem own_From.grow {h' : Heap} (B : own_From s s' h) (q : h.size ≤ h'.size) : own_From s s' h' := by
  obtain ⟨vm0, k0, h1, h2, h3⟩ := B
  exact ⟨vm0, k0, h1, h2, Nat.le_trans h3 q⟩
theorem own_From.ext {h' : Heap} (B : own_From s s' h) (E : Ext h h') : own_From s s' h' := B.grow E.1
theorem own_From.wr {h' : Heap} {a : Addr} {sl : Nat} {v : Value} (B : own_From s s' h) (W : Wr h h' a sl v) : own_From s s' h' := B.grow (Nat.le_of_eq W.size.symm)
theorem own_From.keep {h' : Heap} {ws : List Addr} (B : own_From s s' h) (W : Keep h h' ws) : own_From s s' h' := B.grow W.1
/-- the end of a body that may intern -/
def own_KW (s : State) (Q : Option Value → Heap → List Loc → Prop) (k n : Nat) (o : Outcome) (u : State) : Prop := ∃ v L, o = .returned v ∧ Q v u.heap L ∧ ReturnedEndW s o u L k n
def own_MetW (l : Launch) (Z : State) (y : MethodName) (bytes : ByteArray) (maxL : Nat) (ret : Option FieldType) (rm : Room) (as' : Array Value) (h0 : Heap) (Q : Option Value → Heap → List Loc → Prop) : Prop :=
  ∀ ws, MetFree l y (head1 (Cond.code y bytes maxL ret :: ws) rm) (fun a U => a = as' ∧ Z.Warmed39 U.vm ∧ U.heap = h0) (fun _ _ _ _ _ => True) (fun _ U o U' => own_KW U Q rm.cells rm.slots o U')
theorem own_bodyW {y : MethodName} {bytes : ByteArray} {maxL : Nat} {ret : Option FieldType} {rm : Room} {as' : Array Value} {L0 : Array Slot}
    (hpl : plainFor y = true) (ef : ∀ m, entryFrame m as' maxL = mkF m 0 L0 [])
    (body : ∀ (p : Program) (e : Env) (s : State) (m : MethodId) (below : List Frame) (meth : Method) (c : Code) (s₁ : State), p.tables.exec = Jvm.exec → c.code = bytes → c.maxLocals = maxL → Z.Warmed39 s.vm → s.vm.findClass y.cls = some m.cls → meth.name = y.name → meth.sig.returnType = ret → meth.locks = false →
      Stand p l e rm s m as' below meth c s₁ [] 0 0 → s₁.heap = h → OwnOk p e below (own_KW s Q rm.cells rm.slots) (s₁.setTop (mkF m 0 L0 []))) :
    own_MetW l Z y bytes maxL ret rm as' h Q := by
  intro ws
  refine MetFree.of_bodySF hpl hisR ?_
  intro p e s m args below meth c s₁ Bd hml0 hP hK
  obtain ⟨rfl, hZ, hh⟩ := hP
  have q := body p e s m below meth c s₁ Bd.exec Bd.bytes hml0 hZ (findClass_of_methodNamed Bd.named) (name_of_methodNamed Bd.named Bd.method).1 Bd.returns Bd.notSynchronized (Stand.of_body Bd) (by rw [← hh, Bd.state]; rfl)
  rw [← ef] at q
  exact q
theorem own_retW (X : Stand p l e R s' m args below meth c T locs cells slots) (B : own_From s s' h) {F : JFrame} {v : Option Value} (hv : meth.sig.returnType = none → v = none) (hlk : meth.locks = false)
    (st : ∀ fs, (∀ (f : JFrame) (acts : List Action), f.method = m → f.locked = none → f.entered = [] → (doReturn e (T.setTop f) acts v).1 = T.setFrames fs) → Steps p.tables e below (T.setTop F) (T.setFrames fs))
    (eT : T.heap = h) (hQ : Q v h locs) {k n : Nat} (hk : cells ≤ k) (hn : slots ≤ n) : OwnOk p e below (own_KW s Q k n) (T.setTop F) := by
  obtain ⟨vm0, k0, rfl, hS, hk0⟩ := B
  obtain ⟨fs, hr, hrun, hended, hE⟩ := X.leaveW hS (by rw [eT]; exact hk0) hv hlk
  refine ⟨_, _, st fs hr, hrun, hended, v, locs, rfl, ?_, hE.1, hE.2.1, hE.2.2.1, hE.2.2.2.mono hk hn⟩
  show Q v T.heap locs
  rw [eT]; exact hQ
theorem own_retNW (X : Stand p l e R s' m args below meth c T locs cells slots) (B : own_From s s' h) (hx : p.tables.exec = Jvm.exec) {t : FieldType} (hret : meth.sig.returnType = some t) (ht : t = .boolean ∨ t = .byte ∨ t = .char ∨ t = .short) (hlk : meth.locks = false)
    {pc : Nat} {Ls : Array Slot} {z z' : Int32} {rest : List Value} (hd : decode c.code pc = .ok (.ireturn, 1)) (hz : nar t z = z') (eT : T.heap = h) {k n : Nat} (hk : cells ≤ k) (hn : slots ≤ n) (hQ : Q (some (.int z')) h locs) :
    OwnOk p e below (own_KW s Q k n) (T.setTop (mkF m pc Ls (.int z :: rest))) := by
  subst hz
  exact own_retW X B (fun q => by rw [hret] at q; cases q) hlk (fun fs hr => retN X hx hret ht hd hr) eT hQ hk hn
theorem own_retIW (X : Stand p l e R s' m args below meth c T locs cells slots) (B : own_From s s' h) (hx : p.tables.exec = Jvm.exec) (hret : meth.sig.returnType = some .int) (hlk : meth.locks = false)
    {pc : Nat} {Ls : Array Slot} {z : Int32} {rest : List Value} (hd : decode c.code pc = .ok (.ireturn, 1)) (eT : T.heap = h) {k n : Nat} (hk : cells ≤ k) (hn : slots ≤ n) (hQ : Q (some (.int z)) h locs) :
    OwnOk p e below (own_KW s Q k n) (T.setTop (mkF m pc Ls (.int z :: rest))) :=
  own_retW X B (fun q => by rw [hret] at q; cases q) hlk (fun fs hr => retOut X hx hret rfl (Or.inl ⟨rfl, Or.inl rfl, z, rfl⟩) hd hr) eT hQ hk hn
theorem own_retJW (X : Stand p l e R s' m args below meth c T locs cells slots) (B : own_From s s' h) (hx : p.tables.exec = Jvm.exec) (hret : meth.sig.returnType = some .long) (hlk : meth.locks = false)
    {pc : Nat} {Ls : Array Slot} {z : Int64} {rest : List Value} (hd : decode c.code pc = .ok (.lreturn, 1)) (eT : T.heap = h) {k n : Nat} (hk : cells ≤ k) (hn : slots ≤ n) (hQ : Q (some (.long z)) h locs) :
    OwnOk p e below (own_KW s Q k n) (T.setTop (mkF m pc Ls (.long z :: rest))) :=
  own_retW X B (fun q => by rw [hret] at q; cases q) hlk (fun fs hr => retOut X hx hret rfl (Or.inr (Or.inl ⟨rfl, rfl, z, rfl⟩)) hd hr) eT hQ hk hn
theorem own_retRW (X : Stand p l e R s' m args below meth c T locs cells slots) (B : own_From s s' h) (hx : p.tables.exec = Jvm.exec) {t : FieldType} (hret : meth.sig.returnType = some t) (ht : t.isReference = true) (hlk : meth.locks = false)
    {pc : Nat} {Ls : Array Slot} {w : Value} {rest : List Value} (hw : w.isRef = true) (hd : decode c.code pc = .ok (.areturn, 1)) (eT : T.heap = h) {k n : Nat} (hk : cells ≤ k) (hn : slots ≤ n) (hQ : Q (some w) h locs) :
    OwnOk p e below (own_KW s Q k n) (T.setTop (mkF m pc Ls (w :: rest))) :=
  own_retW X B (fun q => by rw [hret] at q; cases q) hlk (fun fs hr => retOut X hx hret (by rcases ref_cases hw with rfl | ⟨a, rfl⟩ <;> cases t <;> rfl) (Or.inr (Or.inr (Or.inr (Or.inr ⟨rfl, ht, hw⟩)))) hd hr) eT hQ hk hn
theorem own_retVW (X : Stand p l e R s' m args below meth c T locs cells slots) (B : own_From s s' h) (hx : p.tables.exec = Jvm.exec) (hret : meth.sig.returnType = none) (hlk : meth.locks = false)
    {pc : Nat} {Ls : Array Slot} (hd : decode c.code pc = .ok (.return_, 1)) (eT : T.heap = h) {k n : Nat} (hk : cells ≤ k) (hn : slots ≤ n) (hQ : Q none h locs) :
    OwnOk p e below (own_KW s Q k n) (T.setTop (mkF m pc Ls [])) :=
  own_retW X B (fun _ => rfl) hlk (fun fs hr => X.returnOut hx hret hd hr) eT hQ hk hn
/-- a String constant is loaded; of its text nothing is said -/
theorem own_ldc (X : Stand p l e R s' m args below meth c T locs cells slots) (B : own_From s s' h) (hx : p.tables.exec = Jvm.exec) (hZ : Z.Warmed39 s'.vm) {own text : String} {index : Nat} (hown : s'.vm.findClass own = some m.cls)
    (w : (Cond.stringLink own index text).before a0 Z = true) (wS : ∀ a ∈ Bundle.stringAtoms, a.before a0 Z = true) (eT : T.heap = h) {pc : Nat} {ls : Array Slot} {st : List Value} (hd : decode c.code pc = .ok (.ldc index, 2)) {n : Nat} (hn : 4 * text.toList.length ≤ n) (hbig : n ≤ 536870912) (hc : cells + 2 ≤ R.cells) (hl : slots + (n + 4) ≤ R.slots)
    (k : ∀ (s'' : State) (a : Addr) (T' : State) (h' : Heap), Stand p l e R s'' m args below meth c T' locs (cells + 2) (slots + (n + 4)) → own_From s s'' h' → Z.Warmed39 s''.vm → s''.vm.findClass own = some m.cls → T'.heap = h' → Ext h h' → OwnOk p e below K (T'.setTop (mkF m (pc + 2) ls (.ref a :: st)))) :
    OwnOk p e below K (T.setTop (mkF m pc ls st)) := by
  obtain ⟨vm0, k0, rfl, hS, hk⟩ := B
  obtain ⟨a, T', h', k1, X', e', E, hS', hk', hZ', hown', st'⟩ := ldcS X hx hZ hown w wS eT hS hk (g := mkF m pc ls st) rfl hd hn hbig hc hl
  exact own_up st' (k _ a T' h' X' ⟨_, _, rfl, hS', hk'⟩ hZ' hown' e' E)
/-- a static call of a callee that may intern -/
theorem own_callSW (X : Stand p l e R s' m args below meth c T locs cells slots) (B : own_From s s' h) (hx : p.tables.exec = Jvm.exec) (hZ : Z.Warmed39 s'.vm) {own : String} {index : Nat} {y : MethodName} {bytes : ByteArray} {maxL : Nat} {ret : Option FieldType}
    (hown : s'.vm.findClass own = some m.cls) (w1 : (Cond.methodLink own index y).before a0 Z = true) (w2 : (Cond.static y).before a0 Z = true) (w3 : (Cond.initialized y.cls).before a0 Z = true) (w4 : (Cond.code y bytes maxL ret).before a0 Z = true)
    (hy : y.cls ≠ "java/lang/invoke/MethodHandle" ∧ y.cls ≠ "java/lang/invoke/VarHandle") {rm : Room} {as' : Array Value} {Q' : Option Value → Heap → List Loc → Prop} (hM : own_MetW l Z y bytes maxL ret rm as' h Q') (eT : T.heap = h)
    {pc W : Nat} {ls : Array Slot} {st argsL rest : List Value} (hsize : ls.size = c.maxLocals) (hlen : ∀ sig, parseMethodDescriptor y.desc = some sig → argsL.length = sig.parameters.length) (has : argsL.toArray = as') (hst : st = argsL.reverse ++ rest)
    (hW : (rest.map fun v => v.category).sum = W) (hd : decode c.code pc = .ok (.invokestatic index, 3)) (hf : rm.frames + 1 ≤ R.frames) (hl : W + (maxL + 11) + rm.locals ≤ R.locals) (hc : cells + rm.cells ≤ R.cells) (hs : slots + rm.slots ≤ R.slots)
    (k : ∀ (s'' T' : State) (v : Option Value) (L : List Loc), Stand p l e R s'' m args below meth c T' (locs ++ L) (cells + rm.cells) (slots + rm.slots) → own_From s s'' T'.heap → Z.Warmed39 s''.vm → s''.vm.findClass own = some m.cls → Q' v T'.heap L → OwnOk p e below K (T'.setTop (mkF m (pc + 3) ls (v.toList ++ rest)))) :
    OwnOk p e below K (T.setTop (mkF m pc ls st)) := by
  obtain ⟨vm0, k0, rfl, hS, hk⟩ := B
  obtain ⟨v, _, ⟨T2, L2, k2, n2⟩, -, X2, hS2, hgr, ⟨Lc, hQ, l2, y2, z2⟩, st2⟩ := callSS X hx hown (mvT hZ w1) (mvT hZ w2) (mvT hZ w3) (mvT hZ w4) hy (backOfS (W := W) (hM []) hZ w4 w3 hf hl)
    (g := mkF m pc ls st) rfl hsize (argsL := argsL) (rest := rest) hlen hst (by show 2 * 0 + _ ≤ _; rw [hW]; omega) hd (fun _ _ => ⟨has, eT, hc, hs⟩)
  dsimp only [Pt.U, Pt.locs, Pt.cells, Pt.slots] at X2 l2 y2 z2 st2 hQ hS2 hgr
  subst l2 y2 z2
  exact own_to st2 (k _ _ _ _ X2 ⟨T2.vm, T2.heap.size, rfl, hS.trans hS2 (Nat.le_trans hk (eT ▸ hgr)), Nat.le_refl _⟩ (State.Warmed39.trans (t := s.setVm vm0) hZ hS2.1) (by show T2.vm.findClass own = _; rw [hS2.1.alike.findClass]; exact hown) hQ)
theorem own_callCW (X : Stand p l e R s' m args below meth c T locs cells slots) (B : own_From s s' h) (hx : p.tables.exec = Jvm.exec) (hZ : Z.Warmed39 s'.vm) {own : String} {index : Nat} {y : MethodName} {bytes : ByteArray} {maxL : Nat} (hy1 : y.name = "<init>")
    (hown : s'.vm.findClass own = some m.cls) (w1 : (Cond.methodLink own index y).before a0 Z = true) (w2 : (Cond.instanceMethod y).before a0 Z = true) (w3 : (Cond.initialized y.cls).before a0 Z = true) (w4 : (Cond.code y bytes maxL none).before a0 Z = true)
    (hy : y.cls ≠ "java/lang/invoke/MethodHandle" ∧ y.cls ≠ "java/lang/invoke/VarHandle") {rm : Room} {as' : Array Value} {Q' : Option Value → Heap → List Loc → Prop} (hM : own_MetW l Z y bytes maxL none rm as' h Q') (eT : T.heap = h)
    {pc W : Nat} {ls : Array Slot} {a : Addr} {st argsL rest : List Value} (hsize : ls.size = c.maxLocals) (hlen : ∀ sig, parseMethodDescriptor y.desc = some sig → argsL.length = sig.parameters.length) (has : (Value.ref a :: argsL).toArray = as') (hst : st = argsL.reverse ++ .ref a :: rest)
    (hW : (rest.map fun v => v.category).sum = W) (hd : decode c.code pc = .ok (.invokespecial index, 3)) (hf : rm.frames + 1 ≤ R.frames) (hl : W + (maxL + 11) + rm.locals ≤ R.locals) (hc : cells + rm.cells ≤ R.cells) (hs : slots + rm.slots ≤ R.slots)
    (k : ∀ (s'' T' : State) (v : Option Value) (L : List Loc), Stand p l e R s'' m args below meth c T' (locs ++ L) (cells + rm.cells) (slots + rm.slots) → own_From s s'' T'.heap → Z.Warmed39 s''.vm → s''.vm.findClass own = some m.cls → Q' v T'.heap L → OwnOk p e below K (T'.setTop (mkF m (pc + 3) ls (v.toList ++ rest)))) :
    OwnOk p e below K (T.setTop (mkF m pc ls st)) := by
  obtain ⟨vm0, k0, rfl, hS, hk⟩ := B
  obtain ⟨v, _, ⟨T2, L2, k2, n2⟩, -, X2, hS2, hgr, ⟨Lc, hQ, l2, y2, z2⟩, st2⟩ := X.specialBackS hx hy1 hown (mvT hZ w1) (mvT hZ w2) (mvT hZ w4) hy (backOfS (W := W) (hM []) hZ w4 w3 hf hl)
    (g := mkF m pc ls st) rfl hsize (Steps.refl _) (a := a) (argsL := argsL) (rest := rest) hlen hst (by show 2 * 0 + _ ≤ _; rw [hW]; omega) hd (fun _ _ => ⟨has, eT, hc, hs⟩)
  dsimp only [Pt.U, Pt.locs, Pt.cells, Pt.slots] at X2 l2 y2 z2 st2 hQ hS2 hgr
  subst l2 y2 z2
  exact own_to st2 (k _ _ _ _ X2 ⟨T2.vm, T2.heap.size, rfl, hS.trans hS2 (Nat.le_trans hk (eT ▸ hgr)), Nat.le_refl _⟩ (State.Warmed39.trans (t := s.setVm vm0) hZ hS2.1) (by show T2.vm.findClass own = _; rw [hS2.1.alike.findClass]; exact hown) hQ)
theorem own_callVW (X : Stand p l e R s' m args below meth c T locs cells slots) (B : own_From s s' h) (hx : p.tables.exec = Jvm.exec) (hZ : Z.Warmed39 s'.vm) {own C : String} {index : Nat} {y z : MethodName} {bytes : ByteArray} {maxL : Nat} {ret : Option FieldType}
    (hown : s'.vm.findClass own = some m.cls) (w1 : (Cond.methodLink own index y).before a0 Z = true) (w2 : (Cond.declares y).before a0 Z = true) (hnf : NotFace s' y) (w5 : (Cond.selects C y z).before a0 Z = true) (w6 : (Cond.instanceMethod z).before a0 Z = true) (w3 : (Cond.initialized z.cls).before a0 Z = true) (w4 : (Cond.code z bytes maxL ret).before a0 Z = true)
    (hy : y.cls ≠ "java/lang/invoke/MethodHandle" ∧ y.cls ≠ "java/lang/invoke/VarHandle") {rm : Room} {as' : Array Value} {Q' : Option Value → Heap → List Loc → Prop} (hM : own_MetW l Z z bytes maxL ret rm as' h Q') (eT : T.heap = h)
    {pc W : Nat} {ls : Array Slot} {a : Addr} {st argsL rest : List Value} (E : Exa Z h a C) (hsize : ls.size = c.maxLocals) (hlen : ∀ sig, parseMethodDescriptor y.desc = some sig → argsL.length = sig.parameters.length) (has : (Value.ref a :: argsL).toArray = as') (hst : st = argsL.reverse ++ .ref a :: rest)
    (hW : (rest.map fun v => v.category).sum = W) (hd : decode c.code pc = .ok (.invokevirtual index, 3)) (hf : rm.frames + 1 ≤ R.frames) (hl : W + (maxL + 11) + rm.locals ≤ R.locals) (hc : cells + rm.cells ≤ R.cells) (hs : slots + rm.slots ≤ R.slots)
    (k : ∀ (s'' T' : State) (v : Option Value) (L : List Loc), Stand p l e R s'' m args below meth c T' (locs ++ L) (cells + rm.cells) (slots + rm.slots) → own_From s s'' T'.heap → Z.Warmed39 s''.vm → s''.vm.findClass own = some m.cls → Q' v T'.heap L → OwnOk p e below K (T'.setTop (mkF m (pc + 3) ls (v.toList ++ rest)))) :
    OwnOk p e below K (T.setTop (mkF m pc ls st)) := by
  obtain ⟨vm0, k0, rfl, hS, hk⟩ := B
  obtain ⟨cq, kq, qa, qb, qc⟩ := isOf hZ eT E
  obtain ⟨v, _, ⟨T2, L2, k2, n2⟩, -, X2, hS2, hgr, ⟨Lc, hQ, l2, y2, z2⟩, st2⟩ := X.virtualBackS hx (y := y) (z := z) hown (mvT hZ w1) (mvT hZ w2) hnf (mvT hZ w5) (mvT hZ w6) hy (backOfS (W := W) (hM []) hZ w4 w3 hf hl) qa qc
    (g := mkF m pc ls st) rfl hsize (Steps.refl _) (argsL := argsL) (rest := rest) hlen hst (by show 2 * 0 + _ ≤ _; rw [hW]; omega) hd (fun _ _ => ⟨has, eT, hc, hs⟩)
  dsimp only [Pt.U, Pt.locs, Pt.cells, Pt.slots] at X2 l2 y2 z2 st2 hQ hS2 hgr
  subst l2 y2 z2
  exact own_to st2 (k _ _ _ _ X2 ⟨T2.vm, T2.heap.size, rfl, hS.trans hS2 (Nat.le_trans hk (eT ▸ hgr)), Nat.le_refl _⟩ (State.Warmed39.trans (t := s.setVm vm0) hZ hS2.1) (by show T2.vm.findClass own = _; rw [hS2.1.alike.findClass]; exact hown) hQ)
end OwnW
end Jvm.RoadKit
@@BLOCK:NumsL.lean.txt@@
namespace Jvm.Pilot.@@N@@
open Jvm Jvm.ClassFile Sem Op Lib Jvm.Free Jvm.Stand Jvm.LawKit Jvm.RoadKit Bundle Jvm.Pilot.@@N@@.Jvm.D
theorem d1_0 : decode method_2_code 0 = .ok (.lload_n 0, 1) := by decide +kernel
theorem d1_1 : decode method_2_code 1 = .ok (.lconst 1, 1) := by decide +kernel
theorem d1_2 : decode method_2_code 2 = .ok (.lcmp, 1) := by decide +kernel
theorem d1_3 : decode method_2_code 3 = .ok (.ifCond .ge 9, 3) := by decide +kernel
theorem d1_6 : decode method_2_code 6 = .ok (.ldc2_w 9, 3) := by decide +kernel
theorem d1_9 : decode method_2_code 9 = .ok (.goto 4, 3) := by decide +kernel
theorem d1_12 : decode method_2_code 12 = .ok (.lload_n 0, 1) := by decide +kernel
theorem d1_13 : decode method_2_code 13 = .ok (.lreturn, 1) := by decide +kernel
theorem d2_0 : decode prog_148_method_1_code 0 = .ok (.aload_n 0, 1) := by decide +kernel
theorem d2_1 : decode prog_148_method_1_code 1 = .ok (.invokespecial 1, 3) := by decide +kernel
theorem d2_4 : decode prog_148_method_1_code 4 = .ok (.bipush 6, 2) := by decide +kernel
theorem d2_6 : decode prog_148_method_1_code 6 = .ok (.newarray .long, 2) := by decide +kernel
theorem d2_8 : decode prog_148_method_1_code 8 = .ok (.dup, 1) := by decide +kernel
theorem d2_9 : decode prog_148_method_1_code 9 = .ok (.iconst 0, 1) := by decide +kernel
theorem d2_10 : decode prog_148_method_1_code 10 = .ok (.lload_n 1, 1) := by decide +kernel
theorem d2_11 : decode prog_148_method_1_code 11 = .ok (.lastore, 1) := by decide +kernel
theorem d2_12 : decode prog_148_method_1_code 12 = .ok (.dup, 1) := by decide +kernel
theorem d2_13 : decode prog_148_method_1_code 13 = .ok (.iconst 1, 1) := by decide +kernel
theorem d2_14 : decode prog_148_method_1_code 14 = .ok (.lload_n 3, 1) := by decide +kernel
theorem d2_15 : decode prog_148_method_1_code 15 = .ok (.lastore, 1) := by decide +kernel
theorem d2_16 : decode prog_148_method_1_code 16 = .ok (.dup, 1) := by decide +kernel
theorem d2_17 : decode prog_148_method_1_code 17 = .ok (.iconst 2, 1) := by decide +kernel
theorem d2_18 : decode prog_148_method_1_code 18 = .ok (.lload 5, 2) := by decide +kernel
theorem d2_20 : decode prog_148_method_1_code 20 = .ok (.lastore, 1) := by decide +kernel
theorem d2_21 : decode prog_148_method_1_code 21 = .ok (.dup, 1) := by decide +kernel
theorem d2_22 : decode prog_148_method_1_code 22 = .ok (.iconst 3, 1) := by decide +kernel
theorem d2_23 : decode prog_148_method_1_code 23 = .ok (.lload 7, 2) := by decide +kernel
theorem d2_25 : decode prog_148_method_1_code 25 = .ok (.lastore, 1) := by decide +kernel
theorem d2_26 : decode prog_148_method_1_code 26 = .ok (.dup, 1) := by decide +kernel
theorem d2_27 : decode prog_148_method_1_code 27 = .ok (.iconst 4, 1) := by decide +kernel
theorem d2_28 : decode prog_148_method_1_code 28 = .ok (.lload 9, 2) := by decide +kernel
theorem d2_30 : decode prog_148_method_1_code 30 = .ok (.lastore, 1) := by decide +kernel
theorem d2_31 : decode prog_148_method_1_code 31 = .ok (.dup, 1) := by decide +kernel
theorem d2_32 : decode prog_148_method_1_code 32 = .ok (.iconst 5, 1) := by decide +kernel
theorem d2_33 : decode prog_148_method_1_code 33 = .ok (.lload 11, 2) := by decide +kernel
theorem d2_35 : decode prog_148_method_1_code 35 = .ok (.lastore, 1) := by decide +kernel
theorem d2_36 : decode prog_148_method_1_code 36 = .ok (.astore 13, 2) := by decide +kernel
theorem d2_38 : decode prog_148_method_1_code 38 = .ok (.aload 13, 2) := by decide +kernel
theorem d2_40 : decode prog_148_method_1_code 40 = .ok (.arraylength, 1) := by decide +kernel
theorem d2_41 : decode prog_148_method_1_code 41 = .ok (.istore 14, 2) := by decide +kernel
theorem d2_43 : decode prog_148_method_1_code 43 = .ok (.iconst 0, 1) := by decide +kernel
theorem d2_44 : decode prog_148_method_1_code 44 = .ok (.istore 15, 2) := by decide +kernel
theorem d2_46 : decode prog_148_method_1_code 46 = .ok (.iload 15, 2) := by decide +kernel
theorem d2_48 : decode prog_148_method_1_code 48 = .ok (.iload 14, 2) := by decide +kernel
theorem d2_50 : decode prog_148_method_1_code 50 = .ok (.if_icmp .ge 47, 3) := by decide +kernel
theorem d2_53 : decode prog_148_method_1_code 53 = .ok (.aload 13, 2) := by decide +kernel
theorem d2_55 : decode prog_148_method_1_code 55 = .ok (.iload 15, 2) := by decide +kernel
theorem d2_57 : decode prog_148_method_1_code 57 = .ok (.laload, 1) := by decide +kernel
theorem d2_58 : decode prog_148_method_1_code 58 = .ok (.lstore 16, 2) := by decide +kernel
theorem d2_60 : decode prog_148_method_1_code 60 = .ok (.lload 16, 2) := by decide +kernel
theorem d2_62 : decode prog_148_method_1_code 62 = .ok (.lconst 1, 1) := by decide +kernel
theorem d2_63 : decode prog_148_method_1_code 63 = .ok (.lcmp, 1) := by decide +kernel
theorem d2_64 : decode prog_148_method_1_code 64 = .ok (.ifCond .ge 27, 3) := by decide +kernel
theorem d2_67 : decode prog_148_method_1_code 67 = .ok (.lload 16, 2) := by decide +kernel
theorem d2_69 : decode prog_148_method_1_code 69 = .ok (.ldc2_w 9, 3) := by decide +kernel
theorem d2_72 : decode prog_148_method_1_code 72 = .ok (.lcmp, 1) := by decide +kernel
theorem d2_73 : decode prog_148_method_1_code 73 = .ok (.ifCond .eq 18, 3) := by decide +kernel
theorem d2_91 : decode prog_148_method_1_code 91 = .ok (.iinc 15 1, 3) := by decide +kernel
theorem d2_94 : decode prog_148_method_1_code 94 = .ok (.goto (-48), 3) := by decide +kernel
theorem d2_97 : decode prog_148_method_1_code 97 = .ok (.aload_n 0, 1) := by decide +kernel
theorem d2_98 : decode prog_148_method_1_code 98 = .ok (.lload_n 1, 1) := by decide +kernel
theorem d2_99 : decode prog_148_method_1_code 99 = .ok (.putfield 20, 3) := by decide +kernel
theorem d2_102 : decode prog_148_method_1_code 102 = .ok (.aload_n 0, 1) := by decide +kernel
theorem d2_103 : decode prog_148_method_1_code 103 = .ok (.lload_n 3, 1) := by decide +kernel
theorem d2_104 : decode prog_148_method_1_code 104 = .ok (.putfield 24, 3) := by decide +kernel
theorem d2_107 : decode prog_148_method_1_code 107 = .ok (.aload_n 0, 1) := by decide +kernel
theorem d2_108 : decode prog_148_method_1_code 108 = .ok (.lload 5, 2) := by decide +kernel
theorem d2_110 : decode prog_148_method_1_code 110 = .ok (.putfield 27, 3) := by decide +kernel
theorem d2_113 : decode prog_148_method_1_code 113 = .ok (.aload_n 0, 1) := by decide +kernel
theorem d2_114 : decode prog_148_method_1_code 114 = .ok (.lload 7, 2) := by decide +kernel
theorem d2_116 : decode prog_148_method_1_code 116 = .ok (.putfield 30, 3) := by decide +kernel
theorem d2_119 : decode prog_148_method_1_code 119 = .ok (.aload_n 0, 1) := by decide +kernel
theorem d2_120 : decode prog_148_method_1_code 120 = .ok (.lload 9, 2) := by decide +kernel
theorem d2_122 : decode prog_148_method_1_code 122 = .ok (.putfield 33, 3) := by decide +kernel
theorem d2_125 : decode prog_148_method_1_code 125 = .ok (.aload_n 0, 1) := by decide +kernel
theorem d2_126 : decode prog_148_method_1_code 126 = .ok (.lload 11, 2) := by decide +kernel
theorem d2_128 : decode prog_148_method_1_code 128 = .ok (.putfield 36, 3) := by decide +kernel
theorem d2_131 : decode prog_148_method_1_code 131 = .ok (.return_, 1) := by decide +kernel
theorem d3_0 : decode jdk_30_method_1_code 0 = .ok (.aload_n 0, 1) := by decide +kernel
theorem d3_1 : decode jdk_30_method_1_code 1 = .ok (.invokespecial 1, 3) := by decide +kernel
theorem d3_4 : decode jdk_30_method_1_code 4 = .ok (.return_, 1) := by decide +kernel
theorem d5_0 : decode prog_102_method_4_code 0 = .ok (.aload_n 0, 1) := by decide +kernel
theorem d5_1 : decode prog_102_method_4_code 1 = .ok (.aload_n 1, 1) := by decide +kernel
theorem d5_2 : decode prog_102_method_4_code 2 = .ok (.aload_n 2, 1) := by decide +kernel
theorem d5_3 : decode prog_102_method_4_code 3 = .ok (.aload_n 3, 1) := by decide +kernel
theorem d5_4 : decode prog_102_method_4_code 4 = .ok (.iload 4, 2) := by decide +kernel
theorem d5_6 : decode prog_102_method_4_code 6 = .ok (.iload 5, 2) := by decide +kernel
theorem d5_8 : decode prog_102_method_4_code 8 = .ok (.getstatic 72, 3) := by decide +kernel
theorem d5_11 : decode prog_102_method_4_code 11 = .ok (.invokespecial 77, 3) := by decide +kernel
theorem d5_14 : decode prog_102_method_4_code 14 = .ok (.return_, 1) := by decide +kernel
theorem d6_0 : decode prog_102_method_3_code 0 = .ok (.aload_n 0, 1) := by decide +kernel
theorem d6_1 : decode prog_102_method_3_code 1 = .ok (.aload_n 1, 1) := by decide +kernel
theorem d6_2 : decode prog_102_method_3_code 2 = .ok (.aload_n 2, 1) := by decide +kernel
theorem d6_3 : decode prog_102_method_3_code 3 = .ok (.aload_n 3, 1) := by decide +kernel
theorem d6_4 : decode prog_102_method_3_code 4 = .ok (.iload 4, 2) := by decide +kernel
theorem d6_6 : decode prog_102_method_3_code 6 = .ok (.iload 5, 2) := by decide +kernel
theorem d6_8 : decode prog_102_method_3_code 8 = .ok (.aload 6, 2) := by decide +kernel
theorem d6_10 : decode prog_102_method_3_code 10 = .ok (.ldc2_w 17, 3) := by decide +kernel
theorem d6_13 : decode prog_102_method_3_code 13 = .ok (.ldc2_w 17, 3) := by decide +kernel
theorem d6_16 : decode prog_102_method_3_code 16 = .ok (.invokespecial 69, 3) := by decide +kernel
theorem d6_19 : decode prog_102_method_3_code 19 = .ok (.return_, 1) := by decide +kernel
theorem d7_0 : decode prog_102_method_2_code 0 = .ok (.aload_n 0, 1) := by decide +kernel
theorem d7_1 : decode prog_102_method_2_code 1 = .ok (.aload_n 1, 1) := by decide +kernel
theorem d7_2 : decode prog_102_method_2_code 2 = .ok (.aload_n 2, 1) := by decide +kernel
theorem d7_3 : decode prog_102_method_2_code 3 = .ok (.aload_n 3, 1) := by decide +kernel
theorem d7_4 : decode prog_102_method_2_code 4 = .ok (.iload 4, 2) := by decide +kernel
theorem d7_6 : decode prog_102_method_2_code 6 = .ok (.iload 5, 2) := by decide +kernel
theorem d7_8 : decode prog_102_method_2_code 8 = .ok (.aload 6, 2) := by decide +kernel
theorem d7_10 : decode prog_102_method_2_code 10 = .ok (.lload 7, 2) := by decide +kernel
theorem d7_12 : decode prog_102_method_2_code 12 = .ok (.lload 9, 2) := by decide +kernel
theorem d7_14 : decode prog_102_method_2_code 14 = .ok (.ldc2_w 17, 3) := by decide +kernel
theorem d7_17 : decode prog_102_method_2_code 17 = .ok (.aconst_null, 1) := by decide +kernel
theorem d7_18 : decode prog_102_method_2_code 18 = .ok (.invokespecial 66, 3) := by decide +kernel
theorem d7_21 : decode prog_102_method_2_code 21 = .ok (.return_, 1) := by decide +kernel
theorem d8_0 : decode prog_102_method_1_code 0 = .ok (.aload_n 0, 1) := by decide +kernel
theorem d8_1 : decode prog_102_method_1_code 1 = .ok (.invokespecial 1, 3) := by decide +kernel
theorem d8_4 : decode prog_102_method_1_code 4 = .ok (.aload 6, 2) := by decide +kernel
theorem d8_6 : decode prog_102_method_1_code 6 = .ok (.ldc 7, 2) := by decide +kernel
theorem d8_8 : decode prog_102_method_1_code 8 = .ok (.invokestatic 9, 3) := by decide +kernel
theorem d8_11 : decode prog_102_method_1_code 11 = .ok (.pop, 1) := by decide +kernel
theorem d8_12 : decode prog_102_method_1_code 12 = .ok (.iconst 2, 1) := by decide +kernel
theorem d8_13 : decode prog_102_method_1_code 13 = .ok (.newarray .long, 2) := by decide +kernel
theorem d8_15 : decode prog_102_method_1_code 15 = .ok (.dup, 1) := by decide +kernel
theorem d8_16 : decode prog_102_method_1_code 16 = .ok (.iconst 0, 1) := by decide +kernel
theorem d8_17 : decode prog_102_method_1_code 17 = .ok (.lload 7, 2) := by decide +kernel
theorem d8_19 : decode prog_102_method_1_code 19 = .ok (.lastore, 1) := by decide +kernel
theorem d8_20 : decode prog_102_method_1_code 20 = .ok (.dup, 1) := by decide +kernel
theorem d8_21 : decode prog_102_method_1_code 21 = .ok (.iconst 1, 1) := by decide +kernel
theorem d8_22 : decode prog_102_method_1_code 22 = .ok (.lload 9, 2) := by decide +kernel
theorem d8_24 : decode prog_102_method_1_code 24 = .ok (.lastore, 1) := by decide +kernel
theorem d8_25 : decode prog_102_method_1_code 25 = .ok (.astore 14, 2) := by decide +kernel
theorem d8_27 : decode prog_102_method_1_code 27 = .ok (.aload 14, 2) := by decide +kernel
theorem d8_29 : decode prog_102_method_1_code 29 = .ok (.arraylength, 1) := by decide +kernel
theorem d8_30 : decode prog_102_method_1_code 30 = .ok (.istore 15, 2) := by decide +kernel
theorem d8_32 : decode prog_102_method_1_code 32 = .ok (.iconst 0, 1) := by decide +kernel
theorem d8_33 : decode prog_102_method_1_code 33 = .ok (.istore 16, 2) := by decide +kernel
theorem d8_35 : decode prog_102_method_1_code 35 = .ok (.iload 16, 2) := by decide +kernel
theorem d8_37 : decode prog_102_method_1_code 37 = .ok (.iload 15, 2) := by decide +kernel
theorem d8_39 : decode prog_102_method_1_code 39 = .ok (.if_icmp .ge 48, 3) := by decide +kernel
theorem d8_42 : decode prog_102_method_1_code 42 = .ok (.aload 14, 2) := by decide +kernel
theorem d8_44 : decode prog_102_method_1_code 44 = .ok (.iload 16, 2) := by decide +kernel
theorem d8_46 : decode prog_102_method_1_code 46 = .ok (.laload, 1) := by decide +kernel
theorem d8_47 : decode prog_102_method_1_code 47 = .ok (.lstore 17, 2) := by decide +kernel
theorem d8_49 : decode prog_102_method_1_code 49 = .ok (.lload 17, 2) := by decide +kernel
theorem d8_51 : decode prog_102_method_1_code 51 = .ok (.lconst 1, 1) := by decide +kernel
theorem d8_52 : decode prog_102_method_1_code 52 = .ok (.lcmp, 1) := by decide +kernel
theorem d8_53 : decode prog_102_method_1_code 53 = .ok (.ifCond .ge 28, 3) := by decide +kernel
theorem d8_56 : decode prog_102_method_1_code 56 = .ok (.lload 17, 2) := by decide +kernel
theorem d8_58 : decode prog_102_method_1_code 58 = .ok (.ldc2_w 17, 3) := by decide +kernel
theorem d8_61 : decode prog_102_method_1_code 61 = .ok (.lcmp, 1) := by decide +kernel
theorem d8_62 : decode prog_102_method_1_code 62 = .ok (.ifCond .eq 19, 3) := by decide +kernel
theorem d8_81 : decode prog_102_method_1_code 81 = .ok (.iinc 16 1, 3) := by decide +kernel
theorem d8_84 : decode prog_102_method_1_code 84 = .ok (.goto (-49), 3) := by decide +kernel
theorem d8_87 : decode prog_102_method_1_code 87 = .ok (.lload 11, 2) := by decide +kernel
theorem d8_89 : decode prog_102_method_1_code 89 = .ok (.lconst 0, 1) := by decide +kernel
theorem d8_90 : decode prog_102_method_1_code 90 = .ok (.lcmp, 1) := by decide +kernel
theorem d8_91 : decode prog_102_method_1_code 91 = .ok (.ifCond .ge 12, 3) := by decide +kernel
theorem d8_94 : decode prog_102_method_1_code 94 = .ok (.lload 11, 2) := by decide +kernel
theorem d8_96 : decode prog_102_method_1_code 96 = .ok (.ldc2_w 17, 3) := by decide +kernel
theorem d8_99 : decode prog_102_method_1_code 99 = .ok (.lcmp, 1) := by decide +kernel
theorem d8_100 : decode prog_102_method_1_code 100 = .ok (.ifCond .ne 17, 3) := by decide +kernel
theorem d8_103 : decode prog_102_method_1_code 103 = .ok (.lload 11, 2) := by decide +kernel
theorem d8_105 : decode prog_102_method_1_code 105 = .ok (.ldc2_w 17, 3) := by decide +kernel
theorem d8_108 : decode prog_102_method_1_code 108 = .ok (.lcmp, 1) := by decide +kernel
theorem d8_109 : decode prog_102_method_1_code 109 = .ok (.ifCond .eq 26, 3) := by decide +kernel
theorem d8_135 : decode prog_102_method_1_code 135 = .ok (.aload_n 0, 1) := by decide +kernel
theorem d8_136 : decode prog_102_method_1_code 136 = .ok (.aload_n 1, 1) := by decide +kernel
theorem d8_137 : decode prog_102_method_1_code 137 = .ok (.putfield 33, 3) := by decide +kernel
theorem d8_140 : decode prog_102_method_1_code 140 = .ok (.aload_n 0, 1) := by decide +kernel
theorem d8_141 : decode prog_102_method_1_code 141 = .ok (.aload_n 2, 1) := by decide +kernel
theorem d8_142 : decode prog_102_method_1_code 142 = .ok (.putfield 37, 3) := by decide +kernel
theorem d8_145 : decode prog_102_method_1_code 145 = .ok (.aload_n 0, 1) := by decide +kernel
theorem d8_146 : decode prog_102_method_1_code 146 = .ok (.aload_n 3, 1) := by decide +kernel
theorem d8_147 : decode prog_102_method_1_code 147 = .ok (.putfield 40, 3) := by decide +kernel
theorem d8_150 : decode prog_102_method_1_code 150 = .ok (.aload_n 0, 1) := by decide +kernel
theorem d8_151 : decode prog_102_method_1_code 151 = .ok (.iload 4, 2) := by decide +kernel
theorem d8_153 : decode prog_102_method_1_code 153 = .ok (.putfield 43, 3) := by decide +kernel
theorem d8_156 : decode prog_102_method_1_code 156 = .ok (.aload_n 0, 1) := by decide +kernel
theorem d8_157 : decode prog_102_method_1_code 157 = .ok (.iload 5, 2) := by decide +kernel
theorem d8_159 : decode prog_102_method_1_code 159 = .ok (.putfield 47, 3) := by decide +kernel
theorem d8_162 : decode prog_102_method_1_code 162 = .ok (.aload_n 0, 1) := by decide +kernel
theorem d8_163 : decode prog_102_method_1_code 163 = .ok (.aload 6, 2) := by decide +kernel
theorem d8_165 : decode prog_102_method_1_code 165 = .ok (.putfield 50, 3) := by decide +kernel
theorem d8_168 : decode prog_102_method_1_code 168 = .ok (.aload_n 0, 1) := by decide +kernel
theorem d8_169 : decode prog_102_method_1_code 169 = .ok (.lload 7, 2) := by decide +kernel
theorem d8_171 : decode prog_102_method_1_code 171 = .ok (.putfield 53, 3) := by decide +kernel
theorem d8_174 : decode prog_102_method_1_code 174 = .ok (.aload_n 0, 1) := by decide +kernel
theorem d8_175 : decode prog_102_method_1_code 175 = .ok (.lload 9, 2) := by decide +kernel
theorem d8_177 : decode prog_102_method_1_code 177 = .ok (.putfield 57, 3) := by decide +kernel
theorem d8_180 : decode prog_102_method_1_code 180 = .ok (.aload_n 0, 1) := by decide +kernel
theorem d8_181 : decode prog_102_method_1_code 181 = .ok (.lload 11, 2) := by decide +kernel
theorem d8_183 : decode prog_102_method_1_code 183 = .ok (.putfield 60, 3) := by decide +kernel
theorem d8_186 : decode prog_102_method_1_code 186 = .ok (.aload_n 0, 1) := by decide +kernel
theorem d8_187 : decode prog_102_method_1_code 187 = .ok (.aload 13, 2) := by decide +kernel
theorem d8_189 : decode prog_102_method_1_code 189 = .ok (.putfield 63, 3) := by decide +kernel
theorem d8_192 : decode prog_102_method_1_code 192 = .ok (.return_, 1) := by decide +kernel
theorem d9_0 : decode jdk_31_method_11_code 0 = .ok (.aload_n 0, 1) := by decide +kernel
theorem d9_1 : decode jdk_31_method_11_code 1 = .ok (.ifnonnull 12, 3) := by decide +kernel
theorem d9_13 : decode jdk_31_method_11_code 13 = .ok (.aload_n 0, 1) := by decide +kernel
theorem d9_14 : decode jdk_31_method_11_code 14 = .ok (.areturn, 1) := by decide +kernel
theorem d10_0 : decode prog_148_method_4_code 0 = .ok (.aload_n 0, 1) := by decide +kernel
theorem d10_1 : decode prog_148_method_4_code 1 = .ok (.getfield 20, 3) := by decide +kernel
theorem d10_4 : decode prog_148_method_4_code 4 = .ok (.ldc2_w 9, 3) := by decide +kernel
theorem d10_7 : decode prog_148_method_4_code 7 = .ok (.lcmp, 1) := by decide +kernel
theorem d10_8 : decode prog_148_method_4_code 8 = .ok (.ifCond .ne 14, 3) := by decide +kernel
theorem d10_11 : decode prog_148_method_4_code 11 = .ok (.aload_n 0, 1) := by decide +kernel
theorem d10_12 : decode prog_148_method_4_code 12 = .ok (.getfield 24, 3) := by decide +kernel
theorem d10_15 : decode prog_148_method_4_code 15 = .ok (.ldc2_w 9, 3) := by decide +kernel
theorem d10_18 : decode prog_148_method_4_code 18 = .ok (.lcmp, 1) := by decide +kernel
theorem d10_19 : decode prog_148_method_4_code 19 = .ok (.ifCond .eq 7, 3) := by decide +kernel
theorem d10_22 : decode prog_148_method_4_code 22 = .ok (.iconst 1, 1) := by decide +kernel
theorem d10_23 : decode prog_148_method_4_code 23 = .ok (.goto 4, 3) := by decide +kernel
theorem d10_26 : decode prog_148_method_4_code 26 = .ok (.iconst 0, 1) := by decide +kernel
theorem d10_27 : decode prog_148_method_4_code 27 = .ok (.ireturn, 1) := by decide +kernel
theorem d11_0 : decode prog_148_method_6_code 0 = .ok (.aload_n 0, 1) := by decide +kernel
theorem d11_1 : decode prog_148_method_6_code 1 = .ok (.aload_n 1, 1) := by decide +kernel
theorem d11_2 : decode prog_148_method_6_code 2 = .ok (.aload_n 2, 1) := by decide +kernel
theorem d11_3 : decode prog_148_method_6_code 3 = .ok (.invokevirtual 51, 3) := by decide +kernel
theorem d11_6 : decode prog_148_method_6_code 6 = .ok (.lstore_n 3, 1) := by decide +kernel
theorem d11_7 : decode prog_148_method_6_code 7 = .ok (.aload_n 0, 1) := by decide +kernel
theorem d11_8 : decode prog_148_method_6_code 8 = .ok (.aload_n 1, 1) := by decide +kernel
theorem d11_9 : decode prog_148_method_6_code 9 = .ok (.invokevirtual 55, 3) := by decide +kernel
theorem d11_12 : decode prog_148_method_6_code 12 = .ok (.lstore 5, 2) := by decide +kernel
theorem d11_14 : decode prog_148_method_6_code 14 = .ok (.lload_n 3, 1) := by decide +kernel
theorem d11_15 : decode prog_148_method_6_code 15 = .ok (.ldc2_w 9, 3) := by decide +kernel
theorem d11_18 : decode prog_148_method_6_code 18 = .ok (.lcmp, 1) := by decide +kernel
theorem d11_19 : decode prog_148_method_6_code 19 = .ok (.ifCond .eq 12, 3) := by decide +kernel
theorem d11_22 : decode prog_148_method_6_code 22 = .ok (.lload 5, 2) := by decide +kernel
theorem d11_24 : decode prog_148_method_6_code 24 = .ok (.ldc2_w 9, 3) := by decide +kernel
theorem d11_27 : decode prog_148_method_6_code 27 = .ok (.lcmp, 1) := by decide +kernel
theorem d11_28 : decode prog_148_method_6_code 28 = .ok (.ifCond .ne 5, 3) := by decide +kernel
theorem d11_31 : decode prog_148_method_6_code 31 = .ok (.lconst 1, 1) := by decide +kernel
theorem d11_32 : decode prog_148_method_6_code 32 = .ok (.lreturn, 1) := by decide +kernel
theorem d11_33 : decode prog_148_method_6_code 33 = .ok (.lload_n 3, 1) := by decide +kernel
theorem d11_34 : decode prog_148_method_6_code 34 = .ok (.lconst 1, 1) := by decide +kernel
theorem d11_35 : decode prog_148_method_6_code 35 = .ok (.lsub, 1) := by decide +kernel
theorem d11_36 : decode prog_148_method_6_code 36 = .ok (.lload 5, 2) := by decide +kernel
theorem d11_38 : decode prog_148_method_6_code 38 = .ok (.ldiv, 1) := by decide +kernel
theorem d11_39 : decode prog_148_method_6_code 39 = .ok (.lconst 1, 1) := by decide +kernel
theorem d11_40 : decode prog_148_method_6_code 40 = .ok (.ladd, 1) := by decide +kernel
theorem d11_41 : decode prog_148_method_6_code 41 = .ok (.lreturn, 1) := by decide +kernel
theorem d12_0 : decode prog_148_method_5_code 0 = .ok (.aload_n 2, 1) := by decide +kernel
theorem d12_1 : decode prog_148_method_5_code 1 = .ok (.aload_n 1, 1) := by decide +kernel
theorem d12_2 : decode prog_148_method_5_code 2 = .ok (.invokevirtual 45, 3) := by decide +kernel
theorem d12_5 : decode prog_148_method_5_code 5 = .ok (.lstore_n 3, 1) := by decide +kernel
theorem d12_6 : decode prog_148_method_5_code 6 = .ok (.lload_n 3, 1) := by decide +kernel
theorem d12_7 : decode prog_148_method_5_code 7 = .ok (.ldc2_w 9, 3) := by decide +kernel
theorem d12_10 : decode prog_148_method_5_code 10 = .ok (.lcmp, 1) := by decide +kernel
theorem d12_11 : decode prog_148_method_5_code 11 = .ok (.ifCond .eq 5, 3) := by decide +kernel
theorem d12_16 : decode prog_148_method_5_code 16 = .ok (.aload_n 1, 1) := by decide +kernel
theorem d12_17 : decode prog_148_method_5_code 17 = .ok (.getstatic 39, 3) := by decide +kernel
theorem d12_20 : decode prog_148_method_5_code 20 = .ok (.if_acmp .ne 10, 3) := by decide +kernel
theorem d12_23 : decode prog_148_method_5_code 23 = .ok (.aload_n 0, 1) := by decide +kernel
theorem d12_24 : decode prog_148_method_5_code 24 = .ok (.getfield 33, 3) := by decide +kernel
theorem d12_27 : decode prog_148_method_5_code 27 = .ok (.goto 7, 3) := by decide +kernel
theorem d12_30 : decode prog_148_method_5_code 30 = .ok (.aload_n 0, 1) := by decide +kernel
theorem d12_31 : decode prog_148_method_5_code 31 = .ok (.getfield 36, 3) := by decide +kernel
theorem d12_34 : decode prog_148_method_5_code 34 = .ok (.lreturn, 1) := by decide +kernel
theorem d13_0 : decode prog_102_method_9_code 0 = .ok (.aload_n 1, 1) := by decide +kernel
theorem d13_1 : decode prog_102_method_9_code 1 = .ok (.getstatic 80, 3) := by decide +kernel
theorem d13_4 : decode prog_102_method_9_code 4 = .ok (.if_acmp .ne 10, 3) := by decide +kernel
theorem d13_7 : decode prog_102_method_9_code 7 = .ok (.aload_n 0, 1) := by decide +kernel
theorem d13_8 : decode prog_102_method_9_code 8 = .ok (.getfield 53, 3) := by decide +kernel
theorem d13_11 : decode prog_102_method_9_code 11 = .ok (.goto 7, 3) := by decide +kernel
theorem d13_14 : decode prog_102_method_9_code 14 = .ok (.aload_n 0, 1) := by decide +kernel
theorem d13_15 : decode prog_102_method_9_code 15 = .ok (.getfield 57, 3) := by decide +kernel
theorem d13_18 : decode prog_102_method_9_code 18 = .ok (.lreturn, 1) := by decide +kernel
theorem d14_0 : decode prog_148_method_2_code 0 = .ok (.aload_n 1, 1) := by decide +kernel
theorem d14_1 : decode prog_148_method_2_code 1 = .ok (.getstatic 39, 3) := by decide +kernel
theorem d14_4 : decode prog_148_method_2_code 4 = .ok (.if_acmp .ne 10, 3) := by decide +kernel
theorem d14_7 : decode prog_148_method_2_code 7 = .ok (.aload_n 0, 1) := by decide +kernel
theorem d14_8 : decode prog_148_method_2_code 8 = .ok (.getfield 20, 3) := by decide +kernel
theorem d14_11 : decode prog_148_method_2_code 11 = .ok (.goto 7, 3) := by decide +kernel
theorem d14_14 : decode prog_148_method_2_code 14 = .ok (.aload_n 0, 1) := by decide +kernel
theorem d14_15 : decode prog_148_method_2_code 15 = .ok (.getfield 24, 3) := by decide +kernel
theorem d14_18 : decode prog_148_method_2_code 18 = .ok (.lreturn, 1) := by decide +kernel
theorem pd_0 : parseMethodDescriptor "()V" = some ⟨[], none⟩ := by decide +kernel
theorem pd_1 : parseMethodDescriptor "(Ljava/lang/Object;Ljava/lang/String;)Ljava/lang/Object;" = some ⟨[(.object "java/lang/Object"), (.object "java/lang/String")], some (.object "java/lang/Object")⟩ := by decide +kernel
theorem pd_2 : parseMethodDescriptor "(Ljava/lang/String;Ljava/lang/String;Ljava/lang/String;IILcom/example/slotwright/slotwright/sched/JobPriority;JJJLjava/lang/String;)V" = some ⟨[(.object "java/lang/String"), (.object "java/lang/String"), (.object "java/lang/String"), .int, .int, (.object "com/example/slotwright/slotwright/sched/JobPriority"), .long, .long, .long, (.object "java/lang/String")], none⟩ := by decide +kernel
theorem pd_3 : parseMethodDescriptor "(Ljava/lang/String;Ljava/lang/String;Ljava/lang/String;IILcom/example/slotwright/slotwright/sched/JobPriority;JJ)V" = some ⟨[(.object "java/lang/String"), (.object "java/lang/String"), (.object "java/lang/String"), .int, .int, (.object "com/example/slotwright/slotwright/sched/JobPriority"), .long, .long], none⟩ := by decide +kernel
theorem pd_4 : parseMethodDescriptor "(Ljava/lang/String;Ljava/lang/String;Ljava/lang/String;IILcom/example/slotwright/slotwright/sched/JobPriority;)V" = some ⟨[(.object "java/lang/String"), (.object "java/lang/String"), (.object "java/lang/String"), .int, .int, (.object "com/example/slotwright/slotwright/sched/JobPriority")], none⟩ := by decide +kernel
theorem pd_5 : parseMethodDescriptor "(Lcom/example/slotwright/slotwright/sched/TaskKind;)J" = some ⟨[(.object "com/example/slotwright/slotwright/sched/TaskKind")], some .long⟩ := by decide +kernel
theorem pd_6 : parseMethodDescriptor "(Lcom/example/slotwright/slotwright/sched/TaskKind;Lcom/example/slotwright/slotwright/sched/JobSpec;)J" = some ⟨[(.object "com/example/slotwright/slotwright/sched/TaskKind"), (.object "com/example/slotwright/slotwright/sched/JobSpec")], some .long⟩ := by decide +kernel
theorem pd_7 : parseMethodDescriptor "(J)J" = some ⟨[.long], some .long⟩ := by decide +kernel
theorem pd_8 : parseMethodDescriptor "(JJJJJJ)V" = some ⟨[.long, .long, .long, .long, .long, .long], none⟩ := by decide +kernel
theorem pd_9 : parseMethodDescriptor "(Ljava/lang/String;Ljava/lang/String;Ljava/lang/String;II)V" = some ⟨[(.object "java/lang/String"), (.object "java/lang/String"), (.object "java/lang/String"), .int, .int], none⟩ := by decide +kernel
theorem pd_10 : parseMethodDescriptor "()Z" = some ⟨[], some .boolean⟩ := by decide +kernel
theorem wd_0 {a0 : Array Value} {Z : State} (hw : ∀ d ∈ tables_1, d.before a0 Z = true) : (Jvm.Cond.methodLink "com/example/slotwright/slotwright/sched/TaskMemorySizesSlotsPinLaw" (11 : Nat) ({ cls := "com/example/slotwright/slotwright/sched/TaskMemorySizesSlotsPinLaw", name := "mb", desc := "(J)J" } : Jvm.MethodName)).before a0 Z = true := hw _ (List.mem_of_getElem? (i := 0) rfl)
theorem wd_1 {a0 : Array Value} {Z : State} (hw : ∀ d ∈ tables_1, d.before a0 Z = true) : (Jvm.Cond.static ({ cls := "com/example/slotwright/slotwright/sched/TaskMemorySizesSlotsPinLaw", name := "mb", desc := "(J)J" } : Jvm.MethodName)).before a0 Z = true := hw _ (List.mem_of_getElem? (i := 1) rfl)
theorem wd_2 {a0 : Array Value} {Z : State} (hw : ∀ d ∈ tables_1, d.before a0 Z = true) : (Jvm.Cond.initialized "com/example/slotwright/slotwright/sched/TaskMemorySizesSlotsPinLaw").before a0 Z = true := hw _ (List.mem_of_getElem? (i := 2) rfl)
theorem wd_3 {a0 : Array Value} {Z : State} (hw : ∀ d ∈ tables_1, d.before a0 Z = true) : (Jvm.Cond.code ({ cls := "com/example/slotwright/slotwright/sched/TaskMemorySizesSlotsPinLaw", name := "mb", desc := "(J)J" } : Jvm.MethodName) method_2_code (2 : Nat) (Option.some Jvm.ClassFile.FieldType.long)).before a0 Z = true := hw _ (List.mem_of_getElem? (i := 3) rfl)
theorem wd_4 {a0 : Array Value} {Z : State} (hw : ∀ d ∈ tables_1, d.before a0 Z = true) : (Jvm.Cond.constantLong "com/example/slotwright/slotwright/sched/TaskMemorySizesSlotsPinLaw" (9 : Nat) (-1 : Int64)).before a0 Z = true := hw _ (List.mem_of_getElem? (i := 4) rfl)
theorem wd_5 {a0 : Array Value} {Z : State} (hw : ∀ d ∈ tables_1, d.before a0 Z = true) : (Jvm.Cond.classLink "com/example/slotwright/slotwright/sched/TaskMemorySizesSlotsPinLaw" (7 : Nat) "com/example/slotwright/slotwright/sched/TaskMemory").before a0 Z = true := hw _ (List.mem_of_getElem? (i := 5) rfl)
theorem wd_6 {a0 : Array Value} {Z : State} (hw : ∀ d ∈ tables_1, d.before a0 Z = true) : (Jvm.Cond.instantiable "com/example/slotwright/slotwright/sched/TaskMemory" (6 : Nat)).before a0 Z = true := hw _ (List.mem_of_getElem? (i := 6) rfl)
theorem wd_7 {a0 : Array Value} {Z : State} (hw : ∀ d ∈ tables_1, d.before a0 Z = true) : (Jvm.Cond.initialized "com/example/slotwright/slotwright/sched/TaskMemory").before a0 Z = true := hw _ (List.mem_of_getElem? (i := 7) rfl)
theorem wd_8 {a0 : Array Value} {Z : State} (hw : ∀ d ∈ tables_1, d.before a0 Z = true) : (Jvm.Cond.constantLong "com/example/slotwright/slotwright/sched/TaskMemorySizesSlotsPinLaw" (19 : Nat) (9223372036854775807 : Int64)).before a0 Z = true := hw _ (List.mem_of_getElem? (i := 8) rfl)
theorem wd_9 {a0 : Array Value} {Z : State} (hw : ∀ d ∈ tables_1, d.before a0 Z = true) : (Jvm.Cond.methodLink "com/example/slotwright/slotwright/sched/TaskMemorySizesSlotsPinLaw" (21 : Nat) ({ cls := "com/example/slotwright/slotwright/sched/TaskMemory", name := "<init>", desc := "(JJJJJJ)V" } : Jvm.MethodName)).before a0 Z = true := hw _ (List.mem_of_getElem? (i := 9) rfl)
theorem wd_10 {a0 : Array Value} {Z : State} (hw : ∀ d ∈ tables_1, d.before a0 Z = true) : (Jvm.Cond.instanceMethod ({ cls := "com/example/slotwright/slotwright/sched/TaskMemory", name := "<init>", desc := "(JJJJJJ)V" } : Jvm.MethodName)).before a0 Z = true := hw _ (List.mem_of_getElem? (i := 10) rfl)
theorem wd_11 {a0 : Array Value} {Z : State} (hw : ∀ d ∈ tables_1, d.before a0 Z = true) : (Jvm.Cond.code ({ cls := "com/example/slotwright/slotwright/sched/TaskMemory", name := "<init>", desc := "(JJJJJJ)V" } : Jvm.MethodName) prog_148_method_1_code (18 : Nat) (Option.none : Option Jvm.ClassFile.FieldType)).before a0 Z = true := hw _ (List.mem_of_getElem? (i := 11) rfl)
theorem wd_12 {a0 : Array Value} {Z : State} (hw : ∀ d ∈ tables_1, d.before a0 Z = true) : (Jvm.Cond.methodLink "com/example/slotwright/slotwright/sched/TaskMemory" (1 : Nat) ({ cls := "java/lang/Record", name := "<init>", desc := "()V" } : Jvm.MethodName)).before a0 Z = true := hw _ (List.mem_of_getElem? (i := 12) rfl)
theorem wd_13 {a0 : Array Value} {Z : State} (hw : ∀ d ∈ tables_1, d.before a0 Z = true) : (Jvm.Cond.instanceMethod ({ cls := "java/lang/Record", name := "<init>", desc := "()V" } : Jvm.MethodName)).before a0 Z = true := hw _ (List.mem_of_getElem? (i := 13) rfl)
theorem wd_15 {a0 : Array Value} {Z : State} (hw : ∀ d ∈ tables_1, d.before a0 Z = true) : (Jvm.Cond.initialized "java/lang/Record").before a0 Z = true := hw _ (List.mem_of_getElem? (i := 15) rfl)
theorem wd_16 {a0 : Array Value} {Z : State} (hw : ∀ d ∈ tables_1, d.before a0 Z = true) : (Jvm.Cond.code ({ cls := "java/lang/Record", name := "<init>", desc := "()V" } : Jvm.MethodName) jdk_30_method_1_code (1 : Nat) (Option.none : Option Jvm.ClassFile.FieldType)).before a0 Z = true := hw _ (List.mem_of_getElem? (i := 16) rfl)
theorem wd_17 {a0 : Array Value} {Z : State} (hw : ∀ d ∈ tables_1, d.before a0 Z = true) : (Jvm.Cond.methodLink "java/lang/Record" (1 : Nat) ({ cls := "java/lang/Object", name := "<init>", desc := "()V" } : Jvm.MethodName)).before a0 Z = true := hw _ (List.mem_of_getElem? (i := 17) rfl)
theorem wd_18 {a0 : Array Value} {Z : State} (hw : ∀ d ∈ tables_1, d.before a0 Z = true) : (Jvm.Cond.instanceMethod ({ cls := "java/lang/Object", name := "<init>", desc := "()V" } : Jvm.MethodName)).before a0 Z = true := hw _ (List.mem_of_getElem? (i := 18) rfl)
theorem wd_19 {a0 : Array Value} {Z : State} (hw : ∀ d ∈ tables_1, d.before a0 Z = true) : (Jvm.Cond.code ({ cls := "java/lang/Object", name := "<init>", desc := "()V" } : Jvm.MethodName) object_method_1_code (1 : Nat) (Option.none : Option Jvm.ClassFile.FieldType)).before a0 Z = true := hw _ (List.mem_of_getElem? (i := 19) rfl)
theorem wd_20 {a0 : Array Value} {Z : State} (hw : ∀ d ∈ tables_1, d.before a0 Z = true) : (Jvm.Cond.arrayClass Jvm.ClassFile.FieldType.long).before a0 Z = true := hw _ (List.mem_of_getElem? (i := 20) rfl)
theorem wd_21 {a0 : Array Value} {Z : State} (hw : ∀ d ∈ tables_1, d.before a0 Z = true) : (Jvm.Cond.constantLong "com/example/slotwright/slotwright/sched/TaskMemory" (9 : Nat) (-1 : Int64)).before a0 Z = true := hw _ (List.mem_of_getElem? (i := 21) rfl)
theorem wd_22 {a0 : Array Value} {Z : State} (hw : ∀ d ∈ tables_1, d.before a0 Z = true) : (Jvm.Cond.fieldLink "com/example/slotwright/slotwright/sched/TaskMemory" (20 : Nat) "com/example/slotwright/slotwright/sched/TaskMemory" "mapSlotMb" "J").before a0 Z = true := hw _ (List.mem_of_getElem? (i := 22) rfl)
theorem wd_23 {a0 : Array Value} {Z : State} (hw : ∀ d ∈ tables_1, d.before a0 Z = true) : (Jvm.Cond.laysFinal "com/example/slotwright/slotwright/sched/TaskMemory" "com/example/slotwright/slotwright/sched/TaskMemory" "mapSlotMb" "J").before a0 Z = true := hw _ (List.mem_of_getElem? (i := 23) rfl)
theorem wd_24 {a0 : Array Value} {Z : State} (hw : ∀ d ∈ tables_1, d.before a0 Z = true) : (Jvm.Cond.fieldLink "com/example/slotwright/slotwright/sched/TaskMemory" (24 : Nat) "com/example/slotwright/slotwright/sched/TaskMemory" "reduceSlotMb" "J").before a0 Z = true := hw _ (List.mem_of_getElem? (i := 24) rfl)
theorem wd_25 {a0 : Array Value} {Z : State} (hw : ∀ d ∈ tables_1, d.before a0 Z = true) : (Jvm.Cond.laysFinal "com/example/slotwright/slotwright/sched/TaskMemory" "com/example/slotwright/slotwright/sched/TaskMemory" "reduceSlotMb" "J").before a0 Z = true := hw _ (List.mem_of_getElem? (i := 25) rfl)
theorem wd_26 {a0 : Array Value} {Z : State} (hw : ∀ d ∈ tables_1, d.before a0 Z = true) : (Jvm.Cond.fieldLink "com/example/slotwright/slotwright/sched/TaskMemory" (27 : Nat) "com/example/slotwright/slotwright/sched/TaskMemory" "maxMapMb" "J").before a0 Z = true := hw _ (List.mem_of_getElem? (i := 26) rfl)
theorem wd_27 {a0 : Array Value} {Z : State} (hw : ∀ d ∈ tables_1, d.before a0 Z = true) : (Jvm.Cond.laysFinal "com/example/slotwright/slotwright/sched/TaskMemory" "com/example/slotwright/slotwright/sched/TaskMemory" "maxMapMb" "J").before a0 Z = true := hw _ (List.mem_of_getElem? (i := 27) rfl)
theorem wd_28 {a0 : Array Value} {Z : State} (hw : ∀ d ∈ tables_1, d.before a0 Z = true) : (Jvm.Cond.fieldLink "com/example/slotwright/slotwright/sched/TaskMemory" (30 : Nat) "com/example/slotwright/slotwright/sched/TaskMemory" "maxReduceMb" "J").before a0 Z = true := hw _ (List.mem_of_getElem? (i := 28) rfl)
theorem wd_29 {a0 : Array Value} {Z : State} (hw : ∀ d ∈ tables_1, d.before a0 Z = true) : (Jvm.Cond.laysFinal "com/example/slotwright/slotwright/sched/TaskMemory" "com/example/slotwright/slotwright/sched/TaskMemory" "maxReduceMb" "J").before a0 Z = true := hw _ (List.mem_of_getElem? (i := 29) rfl)
theorem wd_30 {a0 : Array Value} {Z : State} (hw : ∀ d ∈ tables_1, d.before a0 Z = true) : (Jvm.Cond.fieldLink "com/example/slotwright/slotwright/sched/TaskMemory" (33 : Nat) "com/example/slotwright/slotwright/sched/TaskMemory" "jobMapMb" "J").before a0 Z = true := hw _ (List.mem_of_getElem? (i := 30) rfl)
theorem wd_31 {a0 : Array Value} {Z : State} (hw : ∀ d ∈ tables_1, d.before a0 Z = true) : (Jvm.Cond.laysFinal "com/example/slotwright/slotwright/sched/TaskMemory" "com/example/slotwright/slotwright/sched/TaskMemory" "jobMapMb" "J").before a0 Z = true := hw _ (List.mem_of_getElem? (i := 31) rfl)
theorem wd_32 {a0 : Array Value} {Z : State} (hw : ∀ d ∈ tables_1, d.before a0 Z = true) : (Jvm.Cond.fieldLink "com/example/slotwright/slotwright/sched/TaskMemory" (36 : Nat) "com/example/slotwright/slotwright/sched/TaskMemory" "jobReduceMb" "J").before a0 Z = true := hw _ (List.mem_of_getElem? (i := 32) rfl)
theorem wd_33 {a0 : Array Value} {Z : State} (hw : ∀ d ∈ tables_1, d.before a0 Z = true) : (Jvm.Cond.laysFinal "com/example/slotwright/slotwright/sched/TaskMemory" "com/example/slotwright/slotwright/sched/TaskMemory" "jobReduceMb" "J").before a0 Z = true := hw _ (List.mem_of_getElem? (i := 33) rfl)
theorem wd_34 {a0 : Array Value} {Z : State} (hw : ∀ d ∈ tables_1, d.before a0 Z = true) : (Jvm.Cond.classLink "com/example/slotwright/slotwright/sched/TaskMemorySizesSlotsPinLaw" (24 : Nat) "com/example/slotwright/slotwright/sched/JobSpec").before a0 Z = true := hw _ (List.mem_of_getElem? (i := 34) rfl)
theorem wd_35 {a0 : Array Value} {Z : State} (hw : ∀ d ∈ tables_1, d.before a0 Z = true) : (Jvm.Cond.instantiable "com/example/slotwright/slotwright/sched/JobSpec" (10 : Nat)).before a0 Z = true := hw _ (List.mem_of_getElem? (i := 35) rfl)
theorem wd_36 {a0 : Array Value} {Z : State} (hw : ∀ d ∈ tables_1, d.before a0 Z = true) : (Jvm.Cond.initialized "com/example/slotwright/slotwright/sched/JobSpec").before a0 Z = true := hw _ (List.mem_of_getElem? (i := 36) rfl)
theorem wd_37 {a0 : Array Value} {Z : State} (hw : ∀ d ∈ tables_1, d.before a0 Z = true) : (Jvm.Cond.stringLink "com/example/slotwright/slotwright/sched/TaskMemorySizesSlotsPinLaw" (26 : Nat) "j").before a0 Z = true := hw _ (List.mem_of_getElem? (i := 37) rfl)
theorem wd_38 {a0 : Array Value} {Z : State} (hw : ∀ d ∈ tables_1, d.before a0 Z = true) : (Jvm.Cond.initialized "java/lang/String").before a0 Z = true := hw _ (List.mem_of_getElem? (i := 38) rfl)
theorem wd_39 {a0 : Array Value} {Z : State} (hw : ∀ d ∈ tables_1, d.before a0 Z = true) : (Jvm.Cond.instantiable "java/lang/String" (4 : Nat)).before a0 Z = true := hw _ (List.mem_of_getElem? (i := 39) rfl)
theorem wd_40 {a0 : Array Value} {Z : State} (hw : ∀ d ∈ tables_1, d.before a0 Z = true) : (Jvm.Cond.arrayClass Jvm.ClassFile.FieldType.byte).before a0 Z = true := hw _ (List.mem_of_getElem? (i := 40) rfl)
theorem wd_41 {a0 : Array Value} {Z : State} (hw : ∀ d ∈ tables_1, d.before a0 Z = true) : (Jvm.Cond.laysFinal "java/lang/String" "java/lang/String" "value" "[B").before a0 Z = true := hw _ (List.mem_of_getElem? (i := 41) rfl)
theorem wd_42 {a0 : Array Value} {Z : State} (hw : ∀ d ∈ tables_1, d.before a0 Z = true) : (Jvm.Cond.laysFinal "java/lang/String" "java/lang/String" "coder" "B").before a0 Z = true := hw _ (List.mem_of_getElem? (i := 42) rfl)
theorem wd_43 {a0 : Array Value} {Z : State} (hw : ∀ d ∈ tables_1, d.before a0 Z = true) : (Jvm.Cond.soleField "java/lang/String" "value").before a0 Z = true := hw _ (List.mem_of_getElem? (i := 43) rfl)
theorem wd_44 {a0 : Array Value} {Z : State} (hw : ∀ d ∈ tables_1, d.before a0 Z = true) : (Jvm.Cond.soleField "java/lang/String" "coder").before a0 Z = true := hw _ (List.mem_of_getElem? (i := 44) rfl)
theorem wd_45 {a0 : Array Value} {Z : State} (hw : ∀ d ∈ tables_1, d.before a0 Z = true) : (Jvm.Cond.stringLink "com/example/slotwright/slotwright/sched/TaskMemorySizesSlotsPinLaw" (28 : Nat) "q").before a0 Z = true := hw _ (List.mem_of_getElem? (i := 45) rfl)
theorem wd_46 {a0 : Array Value} {Z : State} (hw : ∀ d ∈ tables_1, d.before a0 Z = true) : (Jvm.Cond.stringLink "com/example/slotwright/slotwright/sched/TaskMemorySizesSlotsPinLaw" (30 : Nat) "u").before a0 Z = true := hw _ (List.mem_of_getElem? (i := 46) rfl)
theorem wd_47 {a0 : Array Value} {Z : State} (hw : ∀ d ∈ tables_1, d.before a0 Z = true) : (Jvm.Cond.methodLink "com/example/slotwright/slotwright/sched/TaskMemorySizesSlotsPinLaw" (32 : Nat) ({ cls := "com/example/slotwright/slotwright/sched/JobSpec", name := "<init>", desc := "(Ljava/lang/String;Ljava/lang/String;Ljava/lang/String;II)V" } : Jvm.MethodName)).before a0 Z = true := hw _ (List.mem_of_getElem? (i := 47) rfl)
theorem wd_48 {a0 : Array Value} {Z : State} (hw : ∀ d ∈ tables_1, d.before a0 Z = true) : (Jvm.Cond.instanceMethod ({ cls := "com/example/slotwright/slotwright/sched/JobSpec", name := "<init>", desc := "(Ljava/lang/String;Ljava/lang/String;Ljava/lang/String;II)V" } : Jvm.MethodName)).before a0 Z = true := hw _ (List.mem_of_getElem? (i := 48) rfl)
theorem wd_49 {a0 : Array Value} {Z : State} (hw : ∀ d ∈ tables_1, d.before a0 Z = true) : (Jvm.Cond.code ({ cls := "com/example/slotwright/slotwright/sched/JobSpec", name := "<init>", desc := "(Ljava/lang/String;Ljava/lang/String;Ljava/lang/String;II)V" } : Jvm.MethodName) prog_102_method_4_code (6 : Nat) (Option.none : Option Jvm.ClassFile.FieldType)).before a0 Z = true := hw _ (List.mem_of_getElem? (i := 49) rfl)
theorem wd_50 {a0 : Array Value} {Z : State} (hw : ∀ d ∈ tables_1, d.before a0 Z = true) : (Jvm.Cond.fieldLink "com/example/slotwright/slotwright/sched/JobSpec" (72 : Nat) "com/example/slotwright/slotwright/sched/JobPriority" "NORMAL" "Lcom/example/slotwright/slotwright/sched/JobPriority;").before a0 Z = true := hw _ (List.mem_of_getElem? (i := 50) rfl)
theorem wd_51 {a0 : Array Value} {Z : State} (hw : ∀ d ∈ tables_1, d.before a0 Z = true) : (Jvm.Cond.initialized "com/example/slotwright/slotwright/sched/JobPriority").before a0 Z = true := hw _ (List.mem_of_getElem? (i := 51) rfl)
theorem wd_52 {a0 : Array Value} {Z : State} (hw : ∀ d ∈ tables_1, d.before a0 Z = true) : (Jvm.Cond.laysStatic "com/example/slotwright/slotwright/sched/JobPriority" "NORMAL" "Lcom/example/slotwright/slotwright/sched/JobPriority;").before a0 Z = true := hw _ (List.mem_of_getElem? (i := 52) rfl)
theorem wd_53 {a0 : Array Value} {Z : State} (hw : ∀ d ∈ tables_1, d.before a0 Z = true) : (Jvm.Cond.methodLink "com/example/slotwright/slotwright/sched/JobSpec" (77 : Nat) ({ cls := "com/example/slotwright/slotwright/sched/JobSpec", name := "<init>", desc := "(Ljava/lang/String;Ljava/lang/String;Ljava/lang/String;IILcom/example/slotwright/slotwright/sched/JobPriority;)V" } : Jvm.MethodName)).before a0 Z = true := hw _ (List.mem_of_getElem? (i := 53) rfl)
theorem wd_54 {a0 : Array Value} {Z : State} (hw : ∀ d ∈ tables_1, d.before a0 Z = true) : (Jvm.Cond.instanceMethod ({ cls := "com/example/slotwright/slotwright/sched/JobSpec", name := "<init>", desc := "(Ljava/lang/String;Ljava/lang/String;Ljava/lang/String;IILcom/example/slotwright/slotwright/sched/JobPriority;)V" } : Jvm.MethodName)).before a0 Z = true := hw _ (List.mem_of_getElem? (i := 54) rfl)
theorem wd_55 {a0 : Array Value} {Z : State} (hw : ∀ d ∈ tables_1, d.before a0 Z = true) : (Jvm.Cond.code ({ cls := "com/example/slotwright/slotwright/sched/JobSpec", name := "<init>", desc := "(Ljava/lang/String;Ljava/lang/String;Ljava/lang/String;IILcom/example/slotwright/slotwright/sched/JobPriority;)V" } : Jvm.MethodName) prog_102_method_3_code (7 : Nat) (Option.none : Option Jvm.ClassFile.FieldType)).before a0 Z = true := hw _ (List.mem_of_getElem? (i := 55) rfl)
theorem wd_56 {a0 : Array Value} {Z : State} (hw : ∀ d ∈ tables_1, d.before a0 Z = true) : (Jvm.Cond.constantLong "com/example/slotwright/slotwright/sched/JobSpec" (17 : Nat) (-1 : Int64)).before a0 Z = true := hw _ (List.mem_of_getElem? (i := 56) rfl)
theorem wd_57 {a0 : Array Value} {Z : State} (hw : ∀ d ∈ tables_1, d.before a0 Z = true) : (Jvm.Cond.methodLink "com/example/slotwright/slotwright/sched/JobSpec" (69 : Nat) ({ cls := "com/example/slotwright/slotwright/sched/JobSpec", name := "<init>", desc := "(Ljava/lang/String;Ljava/lang/String;Ljava/lang/String;IILcom/example/slotwright/slotwright/sched/JobPriority;JJ)V" } : Jvm.MethodName)).before a0 Z = true := hw _ (List.mem_of_getElem? (i := 57) rfl)
theorem wd_58 {a0 : Array Value} {Z : State} (hw : ∀ d ∈ tables_1, d.before a0 Z = true) : (Jvm.Cond.instanceMethod ({ cls := "com/example/slotwright/slotwright/sched/JobSpec", name := "<init>", desc := "(Ljava/lang/String;Ljava/lang/String;Ljava/lang/String;IILcom/example/slotwright/slotwright/sched/JobPriority;JJ)V" } : Jvm.MethodName)).before a0 Z = true := hw _ (List.mem_of_getElem? (i := 58) rfl)
theorem wd_59 {a0 : Array Value} {Z : State} (hw : ∀ d ∈ tables_1, d.before a0 Z = true) : (Jvm.Cond.code ({ cls := "com/example/slotwright/slotwright/sched/JobSpec", name := "<init>", desc := "(Ljava/lang/String;Ljava/lang/String;Ljava/lang/String;IILcom/example/slotwright/slotwright/sched/JobPriority;JJ)V" } : Jvm.MethodName) prog_102_method_2_code (11 : Nat) (Option.none : Option Jvm.ClassFile.FieldType)).before a0 Z = true := hw _ (List.mem_of_getElem? (i := 59) rfl)
theorem wd_60 {a0 : Array Value} {Z : State} (hw : ∀ d ∈ tables_1, d.before a0 Z = true) : (Jvm.Cond.methodLink "com/example/slotwright/slotwright/sched/JobSpec" (66 : Nat) ({ cls := "com/example/slotwright/slotwright/sched/JobSpec", name := "<init>", desc := "(Ljava/lang/String;Ljava/lang/String;Ljava/lang/String;IILcom/example/slotwright/slotwright/sched/JobPriority;JJJLjava/lang/String;)V" } : Jvm.MethodName)).before a0 Z = true := hw _ (List.mem_of_getElem? (i := 60) rfl)
theorem wd_61 {a0 : Array Value} {Z : State} (hw : ∀ d ∈ tables_1, d.before a0 Z = true) : (Jvm.Cond.instanceMethod ({ cls := "com/example/slotwright/slotwright/sched/JobSpec", name := "<init>", desc := "(Ljava/lang/String;Ljava/lang/String;Ljava/lang/String;IILcom/example/slotwright/slotwright/sched/JobPriority;JJJLjava/lang/String;)V" } : Jvm.MethodName)).before a0 Z = true := hw _ (List.mem_of_getElem? (i := 61) rfl)
theorem wd_62 {a0 : Array Value} {Z : State} (hw : ∀ d ∈ tables_1, d.before a0 Z = true) : (Jvm.Cond.code ({ cls := "com/example/slotwright/slotwright/sched/JobSpec", name := "<init>", desc := "(Ljava/lang/String;Ljava/lang/String;Ljava/lang/String;IILcom/example/slotwright/slotwright/sched/JobPriority;JJJLjava/lang/String;)V" } : Jvm.MethodName) prog_102_method_1_code (19 : Nat) (Option.none : Option Jvm.ClassFile.FieldType)).before a0 Z = true := hw _ (List.mem_of_getElem? (i := 62) rfl)
theorem wd_63 {a0 : Array Value} {Z : State} (hw : ∀ d ∈ tables_1, d.before a0 Z = true) : (Jvm.Cond.methodLink "com/example/slotwright/slotwright/sched/JobSpec" (1 : Nat) ({ cls := "java/lang/Record", name := "<init>", desc := "()V" } : Jvm.MethodName)).before a0 Z = true := hw _ (List.mem_of_getElem? (i := 63) rfl)
theorem wd_64 {a0 : Array Value} {Z : State} (hw : ∀ d ∈ tables_1, d.before a0 Z = true) : (Jvm.Cond.stringLink "com/example/slotwright/slotwright/sched/JobSpec" (7 : Nat) "priority").before a0 Z = true := hw _ (List.mem_of_getElem? (i := 64) rfl)
theorem wd_65 {a0 : Array Value} {Z : State} (hw : ∀ d ∈ tables_1, d.before a0 Z = true) : (Jvm.Cond.methodLink "com/example/slotwright/slotwright/sched/JobSpec" (9 : Nat) ({ cls := "java/util/Objects", name := "requireNonNull", desc := "(Ljava/lang/Object;Ljava/lang/String;)Ljava/lang/Object;" } : Jvm.MethodName)).before a0 Z = true := hw _ (List.mem_of_getElem? (i := 65) rfl)
theorem wd_66 {a0 : Array Value} {Z : State} (hw : ∀ d ∈ tables_1, d.before a0 Z = true) : (Jvm.Cond.static ({ cls := "java/util/Objects", name := "requireNonNull", desc := "(Ljava/lang/Object;Ljava/lang/String;)Ljava/lang/Object;" } : Jvm.MethodName)).before a0 Z = true := hw _ (List.mem_of_getElem? (i := 66) rfl)
theorem wd_67 {a0 : Array Value} {Z : State} (hw : ∀ d ∈ tables_1, d.before a0 Z = true) : (Jvm.Cond.initialized "java/util/Objects").before a0 Z = true := hw _ (List.mem_of_getElem? (i := 67) rfl)
theorem wd_68 {a0 : Array Value} {Z : State} (hw : ∀ d ∈ tables_1, d.before a0 Z = true) : (Jvm.Cond.code ({ cls := "java/util/Objects", name := "requireNonNull", desc := "(Ljava/lang/Object;Ljava/lang/String;)Ljava/lang/Object;" } : Jvm.MethodName) jdk_31_method_11_code (2 : Nat) (Option.some (Jvm.ClassFile.FieldType.object "java/lang/Object"))).before a0 Z = true := hw _ (List.mem_of_getElem? (i := 68) rfl)
theorem wd_69 {a0 : Array Value} {Z : State} (hw : ∀ d ∈ tables_1, d.before a0 Z = true) : (Jvm.Cond.fieldLink "com/example/slotwright/slotwright/sched/JobSpec" (33 : Nat) "com/example/slotwright/slotwright/sched/JobSpec" "name" "Ljava/lang/String;").before a0 Z = true := hw _ (List.mem_of_getElem? (i := 69) rfl)
theorem wd_70 {a0 : Array Value} {Z : State} (hw : ∀ d ∈ tables_1, d.before a0 Z = true) : (Jvm.Cond.laysFinal "com/example/slotwright/slotwright/sched/JobSpec" "com/example/slotwright/slotwright/sched/JobSpec" "name" "Ljava/lang/String;").before a0 Z = true := hw _ (List.mem_of_getElem? (i := 70) rfl)
theorem wd_71 {a0 : Array Value} {Z : State} (hw : ∀ d ∈ tables_1, d.before a0 Z = true) : (Jvm.Cond.fieldLink "com/example/slotwright/slotwright/sched/JobSpec" (37 : Nat) "com/example/slotwright/slotwright/sched/JobSpec" "queue" "Ljava/lang/String;").before a0 Z = true := hw _ (List.mem_of_getElem? (i := 71) rfl)
theorem wd_72 {a0 : Array Value} {Z : State} (hw : ∀ d ∈ tables_1, d.before a0 Z = true) : (Jvm.Cond.laysFinal "com/example/slotwright/slotwright/sched/JobSpec" "com/example/slotwright/slotwright/sched/JobSpec" "queue" "Ljava/lang/String;").before a0 Z = true := hw _ (List.mem_of_getElem? (i := 72) rfl)
theorem wd_73 {a0 : Array Value} {Z : State} (hw : ∀ d ∈ tables_1, d.before a0 Z = true) : (Jvm.Cond.fieldLink "com/example/slotwright/slotwright/sched/JobSpec" (40 : Nat) "com/example/slotwright/slotwright/sched/JobSpec" "user" "Ljava/lang/String;").before a0 Z = true := hw _ (List.mem_of_getElem? (i := 73) rfl)
theorem wd_74 {a0 : Array Value} {Z : State} (hw : ∀ d ∈ tables_1, d.before a0 Z = true) : (Jvm.Cond.laysFinal "com/example/slotwright/slotwright/sched/JobSpec" "com/example/slotwright/slotwright/sched/JobSpec" "user" "Ljava/lang/String;").before a0 Z = true := hw _ (List.mem_of_getElem? (i := 74) rfl)
theorem wd_75 {a0 : Array Value} {Z : State} (hw : ∀ d ∈ tables_1, d.before a0 Z = true) : (Jvm.Cond.fieldLink "com/example/slotwright/slotwright/sched/JobSpec" (43 : Nat) "com/example/slotwright/slotwright/sched/JobSpec" "maps" "I").before a0 Z = true := hw _ (List.mem_of_getElem? (i := 75) rfl)
theorem wd_76 {a0 : Array Value} {Z : State} (hw : ∀ d ∈ tables_1, d.before a0 Z = true) : (Jvm.Cond.laysFinal "com/example/slotwright/slotwright/sched/JobSpec" "com/example/slotwright/slotwright/sched/JobSpec" "maps" "I").before a0 Z = true := hw _ (List.mem_of_getElem? (i := 76) rfl)
theorem wd_77 {a0 : Array Value} {Z : State} (hw : ∀ d ∈ tables_1, d.before a0 Z = true) : (Jvm.Cond.fieldLink "com/example/slotwright/slotwright/sched/JobSpec" (47 : Nat) "com/example/slotwright/slotwright/sched/JobSpec" "reduces" "I").before a0 Z = true := hw _ (List.mem_of_getElem? (i := 77) rfl)
theorem wd_78 {a0 : Array Value} {Z : State} (hw : ∀ d ∈ tables_1, d.before a0 Z = true) : (Jvm.Cond.laysFinal "com/example/slotwright/slotwright/sched/JobSpec" "com/example/slotwright/slotwright/sched/JobSpec" "reduces" "I").before a0 Z = true := hw _ (List.mem_of_getElem? (i := 78) rfl)
theorem wd_79 {a0 : Array Value} {Z : State} (hw : ∀ d ∈ tables_1, d.before a0 Z = true) : (Jvm.Cond.fieldLink "com/example/slotwright/slotwright/sched/JobSpec" (50 : Nat) "com/example/slotwright/slotwright/sched/JobSpec" "priority" "Lcom/example/slotwright/slotwright/sched/JobPriority;").before a0 Z = true := hw _ (List.mem_of_getElem? (i := 79) rfl)
theorem wd_80 {a0 : Array Value} {Z : State} (hw : ∀ d ∈ tables_1, d.before a0 Z = true) : (Jvm.Cond.laysFinal "com/example/slotwright/slotwright/sched/JobSpec" "com/example/slotwright/slotwright/sched/JobSpec" "priority" "Lcom/example/slotwright/slotwright/sched/JobPriority;").before a0 Z = true := hw _ (List.mem_of_getElem? (i := 80) rfl)
theorem wd_81 {a0 : Array Value} {Z : State} (hw : ∀ d ∈ tables_1, d.before a0 Z = true) : (Jvm.Cond.fieldLink "com/example/slotwright/slotwright/sched/JobSpec" (53 : Nat) "com/example/slotwright/slotwright/sched/JobSpec" "mapMemoryMb" "J").before a0 Z = true := hw _ (List.mem_of_getElem? (i := 81) rfl)
theorem wd_82 {a0 : Array Value} {Z : State} (hw : ∀ d ∈ tables_1, d.before a0 Z = true) : (Jvm.Cond.laysFinal "com/example/slotwright/slotwright/sched/JobSpec" "com/example/slotwright/slotwright/sched/JobSpec" "mapMemoryMb" "J").before a0 Z = true := hw _ (List.mem_of_getElem? (i := 82) rfl)
theorem wd_83 {a0 : Array Value} {Z : State} (hw : ∀ d ∈ tables_1, d.before a0 Z = true) : (Jvm.Cond.fieldLink "com/example/slotwright/slotwright/sched/JobSpec" (57 : Nat) "com/example/slotwright/slotwright/sched/JobSpec" "reduceMemoryMb" "J").before a0 Z = true := hw _ (List.mem_of_getElem? (i := 83) rfl)
theorem wd_84 {a0 : Array Value} {Z : State} (hw : ∀ d ∈ tables_1, d.before a0 Z = true) : (Jvm.Cond.laysFinal "com/example/slotwright/slotwright/sched/JobSpec" "com/example/slotwright/slotwright/sched/JobSpec" "reduceMemoryMb" "J").before a0 Z = true := hw _ (List.mem_of_getElem? (i := 84) rfl)
theorem wd_85 {a0 : Array Value} {Z : State} (hw : ∀ d ∈ tables_1, d.before a0 Z = true) : (Jvm.Cond.fieldLink "com/example/slotwright/slotwright/sched/JobSpec" (60 : Nat) "com/example/slotwright/slotwright/sched/JobSpec" "deadlineMs" "J").before a0 Z = true := hw _ (List.mem_of_getElem? (i := 85) rfl)
theorem wd_86 {a0 : Array Value} {Z : State} (hw : ∀ d ∈ tables_1, d.before a0 Z = true) : (Jvm.Cond.laysFinal "com/example/slotwright/slotwright/sched/JobSpec" "com/example/slotwright/slotwright/sched/JobSpec" "deadlineMs" "J").before a0 Z = true := hw _ (List.mem_of_getElem? (i := 86) rfl)
theorem wd_87 {a0 : Array Value} {Z : State} (hw : ∀ d ∈ tables_1, d.before a0 Z = true) : (Jvm.Cond.fieldLink "com/example/slotwright/slotwright/sched/JobSpec" (63 : Nat) "com/example/slotwright/slotwright/sched/JobSpec" "profile" "Ljava/lang/String;").before a0 Z = true := hw _ (List.mem_of_getElem? (i := 87) rfl)
theorem wd_88 {a0 : Array Value} {Z : State} (hw : ∀ d ∈ tables_1, d.before a0 Z = true) : (Jvm.Cond.laysFinal "com/example/slotwright/slotwright/sched/JobSpec" "com/example/slotwright/slotwright/sched/JobSpec" "profile" "Ljava/lang/String;").before a0 Z = true := hw _ (List.mem_of_getElem? (i := 88) rfl)
theorem wd_89 {a0 : Array Value} {Z : State} (hw : ∀ d ∈ tables_1, d.before a0 Z = true) : (Jvm.Cond.methodLink "com/example/slotwright/slotwright/sched/TaskMemorySizesSlotsPinLaw" (35 : Nat) ({ cls := "com/example/slotwright/slotwright/sched/TaskMemory", name := "sizesSlots", desc := "()Z" } : Jvm.MethodName)).before a0 Z = true := hw _ (List.mem_of_getElem? (i := 89) rfl)
theorem wd_90 {a0 : Array Value} {Z : State} (hw : ∀ d ∈ tables_1, d.before a0 Z = true) : (Jvm.Cond.declares ({ cls := "com/example/slotwright/slotwright/sched/TaskMemory", name := "sizesSlots", desc := "()Z" } : Jvm.MethodName)).before a0 Z = true := hw _ (List.mem_of_getElem? (i := 90) rfl)
theorem wd_91 {a0 : Array Value} {Z : State} (hw : ∀ d ∈ tables_1, d.before a0 Z = true) : (Jvm.Cond.instanceMethod ({ cls := "com/example/slotwright/slotwright/sched/TaskMemory", name := "sizesSlots", desc := "()Z" } : Jvm.MethodName)).before a0 Z = true := hw _ (List.mem_of_getElem? (i := 91) rfl)
theorem wd_92 {a0 : Array Value} {Z : State} (hw : ∀ d ∈ tables_1, d.before a0 Z = true) : (Jvm.Cond.selects "com/example/slotwright/slotwright/sched/TaskMemory" ({ cls := "com/example/slotwright/slotwright/sched/TaskMemory", name := "sizesSlots", desc := "()Z" } : Jvm.MethodName) ({ cls := "com/example/slotwright/slotwright/sched/TaskMemory", name := "sizesSlots", desc := "()Z" } : Jvm.MethodName)).before a0 Z = true := hw _ (List.mem_of_getElem? (i := 92) rfl)
theorem wd_93 {a0 : Array Value} {Z : State} (hw : ∀ d ∈ tables_1, d.before a0 Z = true) : (Jvm.Cond.code ({ cls := "com/example/slotwright/slotwright/sched/TaskMemory", name := "sizesSlots", desc := "()Z" } : Jvm.MethodName) prog_148_method_4_code (1 : Nat) (Option.some Jvm.ClassFile.FieldType.boolean)).before a0 Z = true := hw _ (List.mem_of_getElem? (i := 93) rfl)
theorem wd_94 {a0 : Array Value} {Z : State} (hw : ∀ d ∈ tables_1, d.before a0 Z = true) : (Jvm.Cond.fieldLink "com/example/slotwright/slotwright/sched/TaskMemorySizesSlotsPinLaw" (39 : Nat) "com/example/slotwright/slotwright/sched/TaskKind" "MAP" "Lcom/example/slotwright/slotwright/sched/TaskKind;").before a0 Z = true := hw _ (List.mem_of_getElem? (i := 94) rfl)
theorem wd_95 {a0 : Array Value} {Z : State} (hw : ∀ d ∈ tables_1, d.before a0 Z = true) : (Jvm.Cond.initialized "com/example/slotwright/slotwright/sched/TaskKind").before a0 Z = true := hw _ (List.mem_of_getElem? (i := 95) rfl)
theorem wd_96 {a0 : Array Value} {Z : State} (hw : ∀ d ∈ tables_1, d.before a0 Z = true) : (Jvm.Cond.laysStatic "com/example/slotwright/slotwright/sched/TaskKind" "MAP" "Lcom/example/slotwright/slotwright/sched/TaskKind;").before a0 Z = true := hw _ (List.mem_of_getElem? (i := 96) rfl)
theorem wd_97 {a0 : Array Value} {Z : State} (hw : ∀ d ∈ tables_1, d.before a0 Z = true) : (Jvm.Cond.methodLink "com/example/slotwright/slotwright/sched/TaskMemorySizesSlotsPinLaw" (45 : Nat) ({ cls := "com/example/slotwright/slotwright/sched/TaskMemory", name := "slots", desc := "(Lcom/example/slotwright/slotwright/sched/TaskKind;Lcom/example/slotwright/slotwright/sched/JobSpec;)J" } : Jvm.MethodName)).before a0 Z = true := hw _ (List.mem_of_getElem? (i := 97) rfl)
theorem wd_98 {a0 : Array Value} {Z : State} (hw : ∀ d ∈ tables_1, d.before a0 Z = true) : (Jvm.Cond.declares ({ cls := "com/example/slotwright/slotwright/sched/TaskMemory", name := "slots", desc := "(Lcom/example/slotwright/slotwright/sched/TaskKind;Lcom/example/slotwright/slotwright/sched/JobSpec;)J" } : Jvm.MethodName)).before a0 Z = true := hw _ (List.mem_of_getElem? (i := 98) rfl)
theorem wd_99 {a0 : Array Value} {Z : State} (hw : ∀ d ∈ tables_1, d.before a0 Z = true) : (Jvm.Cond.instanceMethod ({ cls := "com/example/slotwright/slotwright/sched/TaskMemory", name := "slots", desc := "(Lcom/example/slotwright/slotwright/sched/TaskKind;Lcom/example/slotwright/slotwright/sched/JobSpec;)J" } : Jvm.MethodName)).before a0 Z = true := hw _ (List.mem_of_getElem? (i := 99) rfl)
theorem wd_100 {a0 : Array Value} {Z : State} (hw : ∀ d ∈ tables_1, d.before a0 Z = true) : (Jvm.Cond.selects "com/example/slotwright/slotwright/sched/TaskMemory" ({ cls := "com/example/slotwright/slotwright/sched/TaskMemory", name := "slots", desc := "(Lcom/example/slotwright/slotwright/sched/TaskKind;Lcom/example/slotwright/slotwright/sched/JobSpec;)J" } : Jvm.MethodName) ({ cls := "com/example/slotwright/slotwright/sched/TaskMemory", name := "slots", desc := "(Lcom/example/slotwright/slotwright/sched/TaskKind;Lcom/example/slotwright/slotwright/sched/JobSpec;)J" } : Jvm.MethodName)).before a0 Z = true := hw _ (List.mem_of_getElem? (i := 100) rfl)
theorem wd_101 {a0 : Array Value} {Z : State} (hw : ∀ d ∈ tables_1, d.before a0 Z = true) : (Jvm.Cond.code ({ cls := "com/example/slotwright/slotwright/sched/TaskMemory", name := "slots", desc := "(Lcom/example/slotwright/slotwright/sched/TaskKind;Lcom/example/slotwright/slotwright/sched/JobSpec;)J" } : Jvm.MethodName) prog_148_method_6_code (7 : Nat) (Option.some Jvm.ClassFile.FieldType.long)).before a0 Z = true := hw _ (List.mem_of_getElem? (i := 101) rfl)
theorem wd_102 {a0 : Array Value} {Z : State} (hw : ∀ d ∈ tables_1, d.before a0 Z = true) : (Jvm.Cond.methodLink "com/example/slotwright/slotwright/sched/TaskMemory" (51 : Nat) ({ cls := "com/example/slotwright/slotwright/sched/TaskMemory", name := "askedMb", desc := "(Lcom/example/slotwright/slotwright/sched/TaskKind;Lcom/example/slotwright/slotwright/sched/JobSpec;)J" } : Jvm.MethodName)).before a0 Z = true := hw _ (List.mem_of_getElem? (i := 102) rfl)
theorem wd_103 {a0 : Array Value} {Z : State} (hw : ∀ d ∈ tables_1, d.before a0 Z = true) : (Jvm.Cond.declares ({ cls := "com/example/slotwright/slotwright/sched/TaskMemory", name := "askedMb", desc := "(Lcom/example/slotwright/slotwright/sched/TaskKind;Lcom/example/slotwright/slotwright/sched/JobSpec;)J" } : Jvm.MethodName)).before a0 Z = true := hw _ (List.mem_of_getElem? (i := 103) rfl)
theorem wd_104 {a0 : Array Value} {Z : State} (hw : ∀ d ∈ tables_1, d.before a0 Z = true) : (Jvm.Cond.instanceMethod ({ cls := "com/example/slotwright/slotwright/sched/TaskMemory", name := "askedMb", desc := "(Lcom/example/slotwright/slotwright/sched/TaskKind;Lcom/example/slotwright/slotwright/sched/JobSpec;)J" } : Jvm.MethodName)).before a0 Z = true := hw _ (List.mem_of_getElem? (i := 104) rfl)
theorem wd_105 {a0 : Array Value} {Z : State} (hw : ∀ d ∈ tables_1, d.before a0 Z = true) : (Jvm.Cond.selects "com/example/slotwright/slotwright/sched/TaskMemory" ({ cls := "com/example/slotwright/slotwright/sched/TaskMemory", name := "askedMb", desc := "(Lcom/example/slotwright/slotwright/sched/TaskKind;Lcom/example/slotwright/slotwright/sched/JobSpec;)J" } : Jvm.MethodName) ({ cls := "com/example/slotwright/slotwright/sched/TaskMemory", name := "askedMb", desc := "(Lcom/example/slotwright/slotwright/sched/TaskKind;Lcom/example/slotwright/slotwright/sched/JobSpec;)J" } : Jvm.MethodName)).before a0 Z = true := hw _ (List.mem_of_getElem? (i := 105) rfl)
theorem wd_106 {a0 : Array Value} {Z : State} (hw : ∀ d ∈ tables_1, d.before a0 Z = true) : (Jvm.Cond.code ({ cls := "com/example/slotwright/slotwright/sched/TaskMemory", name := "askedMb", desc := "(Lcom/example/slotwright/slotwright/sched/TaskKind;Lcom/example/slotwright/slotwright/sched/JobSpec;)J" } : Jvm.MethodName) prog_148_method_5_code (5 : Nat) (Option.some Jvm.ClassFile.FieldType.long)).before a0 Z = true := hw _ (List.mem_of_getElem? (i := 106) rfl)
theorem wd_107 {a0 : Array Value} {Z : State} (hw : ∀ d ∈ tables_1, d.before a0 Z = true) : (Jvm.Cond.methodLink "com/example/slotwright/slotwright/sched/TaskMemory" (45 : Nat) ({ cls := "com/example/slotwright/slotwright/sched/JobSpec", name := "memoryMb", desc := "(Lcom/example/slotwright/slotwright/sched/TaskKind;)J" } : Jvm.MethodName)).before a0 Z = true := hw _ (List.mem_of_getElem? (i := 107) rfl)
theorem wd_108 {a0 : Array Value} {Z : State} (hw : ∀ d ∈ tables_1, d.before a0 Z = true) : (Jvm.Cond.declares ({ cls := "com/example/slotwright/slotwright/sched/JobSpec", name := "memoryMb", desc := "(Lcom/example/slotwright/slotwright/sched/TaskKind;)J" } : Jvm.MethodName)).before a0 Z = true := hw _ (List.mem_of_getElem? (i := 108) rfl)
theorem wd_109 {a0 : Array Value} {Z : State} (hw : ∀ d ∈ tables_1, d.before a0 Z = true) : (Jvm.Cond.instanceMethod ({ cls := "com/example/slotwright/slotwright/sched/JobSpec", name := "memoryMb", desc := "(Lcom/example/slotwright/slotwright/sched/TaskKind;)J" } : Jvm.MethodName)).before a0 Z = true := hw _ (List.mem_of_getElem? (i := 109) rfl)
theorem wd_110 {a0 : Array Value} {Z : State} (hw : ∀ d ∈ tables_1, d.before a0 Z = true) : (Jvm.Cond.selects "com/example/slotwright/slotwright/sched/JobSpec" ({ cls := "com/example/slotwright/slotwright/sched/JobSpec", name := "memoryMb", desc := "(Lcom/example/slotwright/slotwright/sched/TaskKind;)J" } : Jvm.MethodName) ({ cls := "com/example/slotwright/slotwright/sched/JobSpec", name := "memoryMb", desc := "(Lcom/example/slotwright/slotwright/sched/TaskKind;)J" } : Jvm.MethodName)).before a0 Z = true := hw _ (List.mem_of_getElem? (i := 110) rfl)
theorem wd_111 {a0 : Array Value} {Z : State} (hw : ∀ d ∈ tables_1, d.before a0 Z = true) : (Jvm.Cond.code ({ cls := "com/example/slotwright/slotwright/sched/JobSpec", name := "memoryMb", desc := "(Lcom/example/slotwright/slotwright/sched/TaskKind;)J" } : Jvm.MethodName) prog_102_method_9_code (2 : Nat) (Option.some Jvm.ClassFile.FieldType.long)).before a0 Z = true := hw _ (List.mem_of_getElem? (i := 111) rfl)
theorem wd_112 {a0 : Array Value} {Z : State} (hw : ∀ d ∈ tables_1, d.before a0 Z = true) : (Jvm.Cond.fieldLink "com/example/slotwright/slotwright/sched/JobSpec" (80 : Nat) "com/example/slotwright/slotwright/sched/TaskKind" "MAP" "Lcom/example/slotwright/slotwright/sched/TaskKind;").before a0 Z = true := hw _ (List.mem_of_getElem? (i := 112) rfl)
theorem wd_113 {a0 : Array Value} {Z : State} (hw : ∀ d ∈ tables_1, d.before a0 Z = true) : (Jvm.Cond.fieldLink "com/example/slotwright/slotwright/sched/TaskMemory" (39 : Nat) "com/example/slotwright/slotwright/sched/TaskKind" "MAP" "Lcom/example/slotwright/slotwright/sched/TaskKind;").before a0 Z = true := hw _ (List.mem_of_getElem? (i := 113) rfl)
theorem wd_114 {a0 : Array Value} {Z : State} (hw : ∀ d ∈ tables_1, d.before a0 Z = true) : (Jvm.Cond.methodLink "com/example/slotwright/slotwright/sched/TaskMemory" (55 : Nat) ({ cls := "com/example/slotwright/slotwright/sched/TaskMemory", name := "slotMb", desc := "(Lcom/example/slotwright/slotwright/sched/TaskKind;)J" } : Jvm.MethodName)).before a0 Z = true := hw _ (List.mem_of_getElem? (i := 114) rfl)
theorem wd_115 {a0 : Array Value} {Z : State} (hw : ∀ d ∈ tables_1, d.before a0 Z = true) : (Jvm.Cond.declares ({ cls := "com/example/slotwright/slotwright/sched/TaskMemory", name := "slotMb", desc := "(Lcom/example/slotwright/slotwright/sched/TaskKind;)J" } : Jvm.MethodName)).before a0 Z = true := hw _ (List.mem_of_getElem? (i := 115) rfl)
theorem wd_116 {a0 : Array Value} {Z : State} (hw : ∀ d ∈ tables_1, d.before a0 Z = true) : (Jvm.Cond.instanceMethod ({ cls := "com/example/slotwright/slotwright/sched/TaskMemory", name := "slotMb", desc := "(Lcom/example/slotwright/slotwright/sched/TaskKind;)J" } : Jvm.MethodName)).before a0 Z = true := hw _ (List.mem_of_getElem? (i := 116) rfl)
theorem wd_117 {a0 : Array Value} {Z : State} (hw : ∀ d ∈ tables_1, d.before a0 Z = true) : (Jvm.Cond.selects "com/example/slotwright/slotwright/sched/TaskMemory" ({ cls := "com/example/slotwright/slotwright/sched/TaskMemory", name := "slotMb", desc := "(Lcom/example/slotwright/slotwright/sched/TaskKind;)J" } : Jvm.MethodName) ({ cls := "com/example/slotwright/slotwright/sched/TaskMemory", name := "slotMb", desc := "(Lcom/example/slotwright/slotwright/sched/TaskKind;)J" } : Jvm.MethodName)).before a0 Z = true := hw _ (List.mem_of_getElem? (i := 117) rfl)
theorem wd_118 {a0 : Array Value} {Z : State} (hw : ∀ d ∈ tables_1, d.before a0 Z = true) : (Jvm.Cond.code ({ cls := "com/example/slotwright/slotwright/sched/TaskMemory", name := "slotMb", desc := "(Lcom/example/slotwright/slotwright/sched/TaskKind;)J" } : Jvm.MethodName) prog_148_method_2_code (2 : Nat) (Option.some Jvm.ClassFile.FieldType.long)).before a0 Z = true := hw _ (List.mem_of_getElem? (i := 118) rfl)
theorem wd_119 {a0 : Array Value} {Z : State} (hw : ∀ d ∈ tables_1, d.before a0 Z = true) : (Jvm.Cond.fieldLink "com/example/slotwright/slotwright/sched/TaskMemorySizesSlotsPinLaw" (49 : Nat) "com/example/slotwright/slotwright/sched/TaskKind" "REDUCE" "Lcom/example/slotwright/slotwright/sched/TaskKind;").before a0 Z = true := hw _ (List.mem_of_getElem? (i := 119) rfl)
theorem wd_120 {a0 : Array Value} {Z : State} (hw : ∀ d ∈ tables_1, d.before a0 Z = true) : (Jvm.Cond.laysStatic "com/example/slotwright/slotwright/sched/TaskKind" "REDUCE" "Lcom/example/slotwright/slotwright/sched/TaskKind;").before a0 Z = true := hw _ (List.mem_of_getElem? (i := 120) rfl)
theorem own_wS {a0 : Array Value} {Z : State} (hw : ∀ d ∈ tables_1, d.before a0 Z = true) : ∀ d ∈ Bundle.stringAtoms, d.before a0 Z = true := fun d hd => by
  simp only [Bundle.stringAtoms, List.mem_cons, List.not_mem_nil, or_false] at hd
  rcases hd with rfl | rfl | rfl | rfl | rfl | rfl | rfl
  · exact (wd_38 hw)
  · exact (wd_39 hw)
  · exact (wd_40 hw)
  · exact (wd_41 hw)
  · exact (wd_42 hw)
  · exact (wd_43 hw)
  · exact (wd_44 hw)
def own_mb (q : Int64) : Int64 := if q < 1 then -1 else q
theorem own_mb_ok (q : Int64) : own_mb q = -1 ∨ ¬ own_mb q < 1 := by
  unfold own_mb
  by_cases h : q < 1
  · rw [if_pos h]; exact Or.inl rfl
  · rw [if_neg h]; exact Or.inr h
def own_slots (z : Int64) : Int64 := if z = -1 then 1 else (9223372036854775807 - 1) / z + 1
theorem own_ne0 {z : Int64} (h : z = -1 ∨ ¬ z < 1) : z ≠ 0 := fun q => by subst q; exact absurd h (by decide)
theorem own_many (z : Int64) (h : z = -1 ∨ ¬ z < 1) : 1 < own_slots z ↔ ¬ z = -1 ∧ ¬ z = 9223372036854775807 := by
  unfold own_slots
  by_cases h1 : z = -1
  · rw [if_pos h1]; exact ⟨fun q => absurd q (by decide), fun q => absurd h1 q.1⟩
  · rw [if_neg h1]
    have hz : ¬ z < 1 := h.resolve_left h1
    have e1 : (1 : Int64).toInt = 1 := by decide
    have eM : (9223372036854775807 : Int64).toInt = 9223372036854775807 := by decide
    have eA : ((9223372036854775807 : Int64) - 1).toInt = 9223372036854775806 := by decide
    have g1 : 1 ≤ z.toInt := by rw [Int64.lt_iff_toInt_lt, e1] at hz; omega
    have g2 : z.toInt ≤ 9223372036854775807 := by have := z.toInt_le; exact this
    have d1 : (((9223372036854775807 : Int64) - 1) / z).toInt = 9223372036854775806 / z.toInt := by
      rw [Jvm.Kit.i64_div (by rw [eA]; omega), eA, Int.tdiv_eq_ediv_of_nonneg (by omega)]
    have d2 : 9223372036854775806 / z.toInt ≤ 9223372036854775806 := Int.ediv_le_self _ (by omega)
    have d3 : 0 ≤ 9223372036854775806 / z.toInt := Int.ediv_nonneg (by omega) (by omega)
    have d4 : (((9223372036854775807 : Int64) - 1) / z + 1).toInt = 9223372036854775806 / z.toInt + 1 := by
      rw [Jvm.Kit.i64_add (by rw [d1, e1]; omega) (by rw [d1, e1]; omega), d1, e1]
    rw [Int64.lt_iff_toInt_lt, d4, e1, ← Int64.toInt_inj (x := z) (y := 9223372036854775807), eM]
    constructor
    · intro q
      refine ⟨h1, fun w => ?_⟩
      rw [w] at q
      exact absurd q (by decide)
    · intro q
      have : 1 ≤ 9223372036854775806 / z.toInt := (Int.le_ediv_iff_mul_le (by omega)).mpr (by omega)
      omega
theorem own_final (m r : Int64) (hm : m = -1 ∨ ¬ m < 1) (hr : r = -1 ∨ ¬ r < 1) : (if m = -1 ∧ r = -1 then 0 else 1 : Int32) = (if (if 1 < own_slots m then 1 else 0 : Int32) = 0 ∧ (if 1 < own_slots r then 1 else 0 : Int32) = 0 ∧ ¬ m = 9223372036854775807 ∧ ¬ r = 9223372036854775807 then 0 else 1) := by
  have k : ∀ z : Int64, (if 1 < own_slots z then 1 else 0 : Int32) = 0 ↔ ¬ 1 < own_slots z := fun z => by
    by_cases q : 1 < own_slots z
    · rw [if_pos q]; exact ⟨fun w => absurd w (by decide), fun w => absurd q w⟩
    · rw [if_neg q]; exact ⟨fun _ => q, fun _ => rfl⟩
  simp only [k, own_many m hm, own_many r hr]
  by_cases a1 : m = -1
  · subst a1
    by_cases a2 : r = -1
    · subst a2; decide
    · by_cases a4 : r = 9223372036854775807
      · subst a4; decide
      · simp [a2, a4]
  · by_cases a3 : m = 9223372036854775807
    · subst a3; simp
    · simp [a1, a3]
def Q_rm3 (h0 : Heap) (n0 : Nat) (v : Option Value) (h : Heap) (L : List Loc) : Prop := v = none ∧ Fr n0 L ∧ h = h0
set_option maxRecDepth 65536 in
set_option maxHeartbeats 40000000 in
theorem rm3 (l : Launch) (Z : State) (a0 : Array Value) (hw : ∀ d ∈ tables_1, d.before a0 Z = true) (a1 : Addr) (h0 : Heap) (n0 : Nat) (OL : Old Z n0 h0)  :
    own_Met l Z (⟨"java/lang/Record", "<init>", "()V"⟩ : MethodName) jdk_30_method_1_code 1 none ({ frames := 1, cells := 0, slots := 0, locals := 12 } : Room) #[(.ref a1)] h0 (Q_rm3 h0 n0) := by
  refine own_body (L0 := #[.val (.ref a1)]) (plainFor_of_name (by first | (simp [plainName, overriddenIn]; done) | decide +kernel)) (fun m => by first | (simp [entryFrame, mkF, argsToLocals, Value.category]; done) | rfl) ?_
  intro p e s m below meth c s₁ hx hby hml hZ hown hnm hret hlk X0 e0
  have N0 := Fr.nil n0
  have Z0 : n0 ≤ h0.size := OL.1 ▸ OL.2.1
  show OwnOk p e below _ (s₁.setTop (mkF m 0 #[.val (.ref a1)] []))
  refine own_up (fun tx kx => XS.aloadN X0.here hx rfl (hb hby d3_0) rfl rfl kx) ?_
  show OwnOk p e below _ (s₁.setTop (mkF m 1 #[.val (.ref a1)] [(.ref a1)]))
  obtain ⟨T11, X11, e11, st11⟩ := initO X0 hx hZ hown (wd_17 hw) (wd_18 hw) (wd_19 hw) e0 (g := (mkF m 1 #[.val (.ref a1)] [(.ref a1)])) rfl (by rw [hml]; rfl) rfl (hb hby d3_1) (by decide) (W := 0) (by show 2 * 0 + _ ≤ _; exact Nat.le_of_eq rfl) (by decide)
  refine own_up st11 ?_
  show OwnOk p e below _ (T11.setTop (mkF m 4 #[.val (.ref a1)] []))
  refine own_retV X11 hx (show meth.sig.returnType = none from hret) hlk (hb hby d3_4) e11 (Nat.le_of_ble_eq_true rfl) (Nat.le_of_ble_eq_true rfl) ?_
  exact ⟨rfl, N0, rfl⟩
def Q_rm1 (q1 : Int64) (h0 : Heap) (n0 : Nat) (v : Option Value) (h : Heap) (L : List Loc) : Prop := v = some (.long (own_mb q1)) ∧ Fr n0 L ∧ h = h0
set_option maxRecDepth 65536 in
set_option maxHeartbeats 40000000 in
theorem rm1 (l : Launch) (Z : State) (a0 : Array Value) (hw : ∀ d ∈ tables_1, d.before a0 Z = true) (q1 : Int64) (h0 : Heap) (n0 : Nat) (OL : Old Z n0 h0)  :
    own_Met l Z (⟨"com/example/slotwright/slotwright/sched/TaskMemorySizesSlotsPinLaw", "mb", "(J)J"⟩ : MethodName) method_2_code 2 (some .long) ({ frames := 0, cells := 0, slots := 0, locals := 0 } : Room) #[(.long q1)] h0 (Q_rm1 q1 h0 n0) := by
  refine own_body (L0 := #[.val (.long q1), .second]) (plainFor_of_name (by first | (simp [plainName, overriddenIn]; done) | decide +kernel)) (fun m => by first | (simp [entryFrame, mkF, argsToLocals, Value.category]; done) | rfl) ?_
  intro p e s m below meth c s₁ hx hby hml hZ hown hnm hret hlk X0 e0
  have N0 := Fr.nil n0
  have Z0 : n0 ≤ h0.size := OL.1 ▸ OL.2.1
  show OwnOk p e below _ (s₁.setTop (mkF m 0 #[.val (.long q1), .second] []))
  refine own_up (fun tx kx => XS.lloadN X0.here hx rfl (hb hby d1_0) rfl kx) ?_
  show OwnOk p e below _ (s₁.setTop (mkF m 1 #[.val (.long q1), .second] [(.long q1)]))
  refine own_up (fun tx kx => XS.lconst X0.here hx rfl (hb hby d1_1) kx) ?_
  show OwnOk p e below _ (s₁.setTop (mkF m 2 #[.val (.long q1), .second] [(.long (1 : Int64)), (.long q1)]))
  refine own_up (fun tx kx => XS.lcmp X0.here hx rfl (hb hby d1_2) rfl kx) ?_
  show OwnOk p e below _ (s₁.setTop (mkF m 3 #[.val (.long q1), .second] [(.int (lcmpW q1 (1 : Int64)))]))
  by_cases hk : q1 < (1 : Int64)
  · refine own_up (fun tx kx => XS.ifNo X0.here hx rfl (hb hby d1_3) rfl (own_jtlt hk).2.1 kx) ?_
    show OwnOk p e below _ (s₁.setTop (mkF m 6 #[.val (.long q1), .second] []))
    refine own_up (fun tx kx => X0.ldc2Long hx hown (mvT hZ (wd_4 hw)) (g := (mkF m 6 #[.val (.long q1), .second] [])) rfl (hb hby d1_6) _ kx) ?_
    show OwnOk p e below _ (s₁.setTop (mkF m 9 #[.val (.long q1), .second] [(.long (-1 : Int64))]))
    refine own_up (fun tx kx => XS.goto X0.here hx rfl (pc0 := 9) (pc' := 13) rfl (hb hby d1_9) (by decide) (by decide) kx) ?_
    show OwnOk p e below _ (s₁.setTop (mkF m 13 #[.val (.long q1), .second] [(.long (-1 : Int64))]))
    refine own_retJ X0 hx (show meth.sig.returnType = some .long from hret) hlk (hb hby d1_13) e0 (Nat.le_of_ble_eq_true rfl) (Nat.le_of_ble_eq_true rfl) ?_
    exact ⟨by rw [own_mb, if_pos hk], N0, rfl⟩
  · refine own_up (fun tx kx => XS.ifYes X0.here hx rfl (pc0 := 3) (pc' := 12) rfl (hb hby d1_3) rfl (own_jflt hk).2.1 (by decide) (by decide) kx) ?_
    show OwnOk p e below _ (s₁.setTop (mkF m 12 #[.val (.long q1), .second] []))
    refine own_up (fun tx kx => XS.lloadN X0.here hx rfl (hb hby d1_12) rfl kx) ?_
    show OwnOk p e below _ (s₁.setTop (mkF m 13 #[.val (.long q1), .second] [(.long q1)]))
    refine own_retJ X0 hx (show meth.sig.returnType = some .long from hret) hlk (hb hby d1_13) e0 (Nat.le_of_ble_eq_true rfl) (Nat.le_of_ble_eq_true rfl) ?_
    exact ⟨by rw [own_mb, if_neg hk], N0, rfl⟩
def Q_rm2 (Z : State) (a : Addr) (q1 q2 q3 q4 q5 q6 : Int64) (h0 : Heap) (n0 : Nat) (v : Option Value) (h : Heap) (L : List Loc) : Prop := v = none ∧ Fr n0 L ∧ Keep h0 h [a] ∧ Exa Z h a "com/example/slotwright/slotwright/sched/TaskMemory" ∧ (Fld Z h a "com/example/slotwright/slotwright/sched/TaskMemory" "mapSlotMb" "J" (.long q1)) ∧ (Fld Z h a "com/example/slotwright/slotwright/sched/TaskMemory" "reduceSlotMb" "J" (.long q2)) ∧ (Fld Z h a "com/example/slotwright/slotwright/sched/TaskMemory" "jobMapMb" "J" (.long q5)) ∧ (Fld Z h a "com/example/slotwright/slotwright/sched/TaskMemory" "jobReduceMb" "J" (.long q6))
set_option maxRecDepth 65536 in
set_option maxHeartbeats 40000000 in
theorem rm2 (l : Launch) (Z : State) (a0 : Array Value) (hw : ∀ d ∈ tables_1, d.before a0 Z = true) (a : Addr) (q1 q2 q3 q4 q5 q6 : Int64) (h0 : Heap) (n0 : Nat) (OL : Old Z n0 h0) (E_a : Exa Z h0 a "com/example/slotwright/slotwright/sched/TaskMemory") (F_mapSlotMb_a : Fld Z h0 a "com/example/slotwright/slotwright/sched/TaskMemory" "mapSlotMb" "J" (.long (0 : Int64))) (F_reduceSlotMb_a : Fld Z h0 a "com/example/slotwright/slotwright/sched/TaskMemory" "reduceSlotMb" "J" (.long (0 : Int64))) (F_maxMapMb_a : Fld Z h0 a "com/example/slotwright/slotwright/sched/TaskMemory" "maxMapMb" "J" (.long (0 : Int64))) (F_maxReduceMb_a : Fld Z h0 a "com/example/slotwright/slotwright/sched/TaskMemory" "maxReduceMb" "J" (.long (0 : Int64))) (F_jobMapMb_a : Fld Z h0 a "com/example/slotwright/slotwright/sched/TaskMemory" "jobMapMb" "J" (.long (0 : Int64))) (F_jobReduceMb_a : Fld Z h0 a "com/example/slotwright/slotwright/sched/TaskMemory" "jobReduceMb" "J" (.long (0 : Int64))) (n0_a : n0 ≤ a) (k1 : q1 = -1 ∨ ¬ q1 < 1) (k2 : q2 = -1 ∨ ¬ q2 < 1) (k3 : q3 = -1 ∨ ¬ q3 < 1) (k4 : q4 = -1 ∨ ¬ q4 < 1) (k5 : q5 = -1 ∨ ¬ q5 < 1) (k6 : q6 = -1 ∨ ¬ q6 < 1) :
    own_Met l Z (⟨"com/example/slotwright/slotwright/sched/TaskMemory", "<init>", "(JJJJJJ)V"⟩ : MethodName) prog_148_method_1_code 18 none ({ frames := 2, cells := 1, slots := 6, locals := 24 } : Room) #[(.ref a), (.long q1), (.long q2), (.long q3), (.long q4), (.long q5), (.long q6)] h0 (Q_rm2 Z a q1 q2 q3 q4 q5 q6 h0 n0) := by
  refine own_body (L0 := #[.val (.ref a), .val (.long q1), .second, .val (.long q2), .second, .val (.long q3), .second, .val (.long q4), .second, .val (.long q5), .second, .val (.long q6), .second, .unset, .unset, .unset, .unset, .unset]) (plainFor_of_name (by first | (simp [plainName, overriddenIn]; done) | decide +kernel)) (fun m => by first | (simp [entryFrame, mkF, argsToLocals, Value.category]; done) | rfl) ?_
  intro p e s m below meth c s₁ hx hby hml hZ hown hnm hret hlk X0 e0
  have N0 := Fr.nil n0
  have Z0 : n0 ≤ h0.size := OL.1 ▸ OL.2.1
  show OwnOk p e below _ (s₁.setTop (mkF m 0 #[.val (.ref a), .val (.long q1), .second, .val (.long q2), .second, .val (.long q3), .second, .val (.long q4), .second, .val (.long q5), .second, .val (.long q6), .second, .unset, .unset, .unset, .unset, .unset] []))
  have KP0 : Keep h0 h0 [a] := Keep.refl h0 _
  refine own_up (fun tx kx => XS.aloadN X0.here hx rfl (hb hby d2_0) rfl rfl kx) ?_
  show OwnOk p e below _ (s₁.setTop (mkF m 1 #[.val (.ref a), .val (.long q1), .second, .val (.long q2), .second, .val (.long q3), .second, .val (.long q4), .second, .val (.long q5), .second, .val (.long q6), .second, .unset, .unset, .unset, .unset, .unset] [(.ref a)]))
  refine own_callC X0 hx hZ (y := (⟨"java/lang/Record", "<init>", "()V"⟩ : MethodName)) rfl hown (wd_12 hw) (wd_13 hw) (wd_15 hw) (wd_16 hw) (by decide) (rm3 l Z a0 hw a h0 n0 OL) e0 (argsL := []) (rest := []) (a := a) (by rw [hml]; rfl) (lenOf pd_0 rfl) rfl rfl (W := 0) rfl (hb hby d2_1) (by decide) (by decide) (by decide) (by decide) (fun T11 v11 L11 X11 hQ11 => ?_)
  obtain ⟨rfl, Nq11, hh11⟩ := hQ11
  have N11 := Fr.app N0 Nq11
  show OwnOk p e below _ (T11.setTop (mkF m 4 #[.val (.ref a), .val (.long q1), .second, .val (.long q2), .second, .val (.long q3), .second, .val (.long q4), .second, .val (.long q5), .second, .val (.long q6), .second, .unset, .unset, .unset, .unset, .unset] []))
  refine own_up (fun tx kx => XS.bipush X11.here hx rfl (hb hby d2_4) kx) ?_
  show OwnOk p e below _ (T11.setTop (mkF m 6 #[.val (.ref a), .val (.long q1), .second, .val (.long q2), .second, .val (.long q3), .second, .val (.long q4), .second, .val (.long q5), .second, .val (.long q6), .second, .unset, .unset, .unset, .unset, .unset] [(.int (6 : Int32))]))
  obtain ⟨T12, h12, k12, X12, e12, E12, A12, st12⟩ := newP (aty := .long) X11 hx hZ (wd_20 hw) hh11 (g := (mkF m 6 #[.val (.ref a), .val (.long q1), .second, .val (.long q2), .second, .val (.long q3), .second, .val (.long q4), .second, .val (.long q5), .second, .val (.long q6), .second, .unset, .unset, .unset, .unset, .unset] [(.int (6 : Int32))])) rfl (hb hby d2_6) rfl (by decide) (cap := 6) (by decide) (by decide) (by decide) (by decide)
  obtain ⟨b12, g12⟩ : ∃ z, z = h0.size := ⟨_, rfl⟩
  rw [← g12] at A12 st12
  have sz_b12 : h0.size ≤ b12 := Nat.le_of_eq g12.symm
  have lt_a_b12 : a < b12 := Nat.lt_of_lt_of_le E_a.lt sz_b12
  have n0_b12 : n0 ≤ b12 := Nat.le_trans (own_n0 OL) sz_b12
  have ws_b12 : h0.size ≤ b12 := Nat.le_trans KP0.1 sz_b12
  have V_b12 : Arv Z h12 b12 k12 .long (6 : Int32) [(.long (0 : Int64)), (.long (0 : Int64)), (.long (0 : Int64)), (.long (0 : Int64)), (.long (0 : Int64)), (.long (0 : Int64))] (.long (0 : Int64)) := (Arv.new A12 (by decide)).pad (pad_rep [] (.long (0 : Int64)) 6)
  have OL14 := OL.ext E12
  have KP14 := KP0.ext E12
  refine own_up st12 ?_
  show OwnOk p e below _ (T12.setTop (mkF m 8 #[.val (.ref a), .val (.long q1), .second, .val (.long q2), .second, .val (.long q3), .second, .val (.long q4), .second, .val (.long q5), .second, .val (.long q6), .second, .unset, .unset, .unset, .unset, .unset] [(.ref b12)]))
  refine own_up (fun tx kx => XS.dup X12.here hx rfl (hb hby d2_8) rfl rfl kx) ?_
  show OwnOk p e below _ (T12.setTop (mkF m 9 #[.val (.ref a), .val (.long q1), .second, .val (.long q2), .second, .val (.long q3), .second, .val (.long q4), .second, .val (.long q5), .second, .val (.long q6), .second, .unset, .unset, .unset, .unset, .unset] [(.ref b12), (.ref b12)]))
  refine own_up (fun tx kx => XS.iconst X12.here hx rfl (hb hby d2_9) kx) ?_
  show OwnOk p e below _ (T12.setTop (mkF m 10 #[.val (.ref a), .val (.long q1), .second, .val (.long q2), .second, .val (.long q3), .second, .val (.long q4), .second, .val (.long q5), .second, .val (.long q6), .second, .unset, .unset, .unset, .unset, .unset] [(.int (0 : Int32)), (.ref b12), (.ref b12)]))
  refine own_up (fun tx kx => XS.lloadN X12.here hx rfl (hb hby d2_10) rfl kx) ?_
  show OwnOk p e below _ (T12.setTop (mkF m 11 #[.val (.ref a), .val (.long q1), .second, .val (.long q2), .second, .val (.long q3), .second, .val (.long q4), .second, .val (.long q5), .second, .val (.long q6), .second, .unset, .unset, .unset, .unset, .unset] [(.long q1), (.int (0 : Int32)), (.ref b12), (.ref b12)]))
  obtain ⟨cl15, Ar15, qc15, Sz15, Nn15, Hs15, Gf15⟩ := id V_b12
  have hin15 : ¬ ((0 : Int32) < 0 ∨ cl15.slots.size ≤ ((0 : Int32)).toNatClampNeg) := inb_of Sz15 ⟨by decide, by decide⟩
  obtain ⟨T16, h16, X16, e16, W16, st16⟩ := stJ X12 hx hZ e12 Ar15 (j := (0 : Int32)) hin15 (g := (mkF m 11 #[.val (.ref a), .val (.long q1), .second, .val (.long q2), .second, .val (.long q3), .second, .val (.long q4), .second, .val (.long q5), .second, .val (.long q6), .second, .unset, .unset, .unset, .unset, .unset] [(.long q1), (.int (0 : Int32)), (.ref b12), (.ref b12)])) rfl rfl (hb hby d2_11)
  have V_b12_16 : Arv Z h16 b12 k12 .long (6 : Int32) [(.long q1), (.long (0 : Int64)), (.long (0 : Int64)), (.long (0 : Int64)), (.long (0 : Int64)), (.long (0 : Int64))] (.long (0 : Int64)) := Arv.set Ar15 qc15 Sz15 Nn15 Hs15 Gf15 rfl W16 0 rfl (Nat.le_of_ble_eq_true rfl)
  have N16 := Fr.snoc X16 N11 n0_b12
  have OL17 := OL14.wr W16 n0_b12
  have KP17 := KP14.wr W16 (Or.inr ws_b12)
  refine own_up st16 ?_
  show OwnOk p e below _ (T16.setTop (mkF m 12 #[.val (.ref a), .val (.long q1), .second, .val (.long q2), .second, .val (.long q3), .second, .val (.long q4), .second, .val (.long q5), .second, .val (.long q6), .second, .unset, .unset, .unset, .unset, .unset] [(.ref b12)]))
  refine own_up (fun tx kx => XS.dup X16.here hx rfl (hb hby d2_12) rfl rfl kx) ?_
  show OwnOk p e below _ (T16.setTop (mkF m 13 #[.val (.ref a), .val (.long q1), .second, .val (.long q2), .second, .val (.long q3), .second, .val (.long q4), .second, .val (.long q5), .second, .val (.long q6), .second, .unset, .unset, .unset, .unset, .unset] [(.ref b12), (.ref b12)]))
  refine own_up (fun tx kx => XS.iconst X16.here hx rfl (hb hby d2_13) kx) ?_
  show OwnOk p e below _ (T16.setTop (mkF m 14 #[.val (.ref a), .val (.long q1), .second, .val (.long q2), .second, .val (.long q3), .second, .val (.long q4), .second, .val (.long q5), .second, .val (.long q6), .second, .unset, .unset, .unset, .unset, .unset] [(.int (1 : Int32)), (.ref b12), (.ref b12)]))
  refine own_up (fun tx kx => XS.lloadN X16.here hx rfl (hb hby d2_14) rfl kx) ?_
  show OwnOk p e below _ (T16.setTop (mkF m 15 #[.val (.ref a), .val (.long q1), .second, .val (.long q2), .second, .val (.long q3), .second, .val (.long q4), .second, .val (.long q5), .second, .val (.long q6), .second, .unset, .unset, .unset, .unset, .unset] [(.long q2), (.int (1 : Int32)), (.ref b12), (.ref b12)]))
  obtain ⟨cl18, Ar18, qc18, Sz18, Nn18, Hs18, Gf18⟩ := id V_b12_16
  have hin18 : ¬ ((1 : Int32) < 0 ∨ cl18.slots.size ≤ ((1 : Int32)).toNatClampNeg) := inb_of Sz18 ⟨by decide, by decide⟩
  obtain ⟨T19, h19, X19, e19, W19, st19⟩ := stJ X16 hx hZ e16 Ar18 (j := (1 : Int32)) hin18 (g := (mkF m 15 #[.val (.ref a), .val (.long q1), .second, .val (.long q2), .second, .val (.long q3), .second, .val (.long q4), .second, .val (.long q5), .second, .val (.long q6), .second, .unset, .unset, .unset, .unset, .unset] [(.long q2), (.int (1 : Int32)), (.ref b12), (.ref b12)])) rfl rfl (hb hby d2_15)
  have V_b12_19 : Arv Z h19 b12 k12 .long (6 : Int32) [(.long q1), (.long q2), (.long (0 : Int64)), (.long (0 : Int64)), (.long (0 : Int64)), (.long (0 : Int64))] (.long (0 : Int64)) := Arv.set Ar18 qc18 Sz18 Nn18 Hs18 Gf18 rfl W19 1 rfl (Nat.le_of_ble_eq_true rfl)
  have N19 := Fr.snoc X19 N16 n0_b12
  have OL20 := OL17.wr W19 n0_b12
  have KP20 := KP17.wr W19 (Or.inr ws_b12)
  refine own_up st19 ?_
  show OwnOk p e below _ (T19.setTop (mkF m 16 #[.val (.ref a), .val (.long q1), .second, .val (.long q2), .second, .val (.long q3), .second, .val (.long q4), .second, .val (.long q5), .second, .val (.long q6), .second, .unset, .unset, .unset, .unset, .unset] [(.ref b12)]))
  refine own_up (fun tx kx => XS.dup X19.here hx rfl (hb hby d2_16) rfl rfl kx) ?_
  show OwnOk p e below _ (T19.setTop (mkF m 17 #[.val (.ref a), .val (.long q1), .second, .val (.long q2), .second, .val (.long q3), .second, .val (.long q4), .second, .val (.long q5), .second, .val (.long q6), .second, .unset, .unset, .unset, .unset, .unset] [(.ref b12), (.ref b12)]))
  refine own_up (fun tx kx => XS.iconst X19.here hx rfl (hb hby d2_17) kx) ?_
  show OwnOk p e below _ (T19.setTop (mkF m 18 #[.val (.ref a), .val (.long q1), .second, .val (.long q2), .second, .val (.long q3), .second, .val (.long q4), .second, .val (.long q5), .second, .val (.long q6), .second, .unset, .unset, .unset, .unset, .unset] [(.int (2 : Int32)), (.ref b12), (.ref b12)]))
  refine own_up (fun tx kx => XS.lload X19.here hx rfl (hb hby d2_18) rfl kx) ?_
  show OwnOk p e below _ (T19.setTop (mkF m 20 #[.val (.ref a), .val (.long q1), .second, .val (.long q2), .second, .val (.long q3), .second, .val (.long q4), .second, .val (.long q5), .second, .val (.long q6), .second, .unset, .unset, .unset, .unset, .unset] [(.long q3), (.int (2 : Int32)), (.ref b12), (.ref b12)]))
  obtain ⟨cl21, Ar21, qc21, Sz21, Nn21, Hs21, Gf21⟩ := id V_b12_19
  have hin21 : ¬ ((2 : Int32) < 0 ∨ cl21.slots.size ≤ ((2 : Int32)).toNatClampNeg) := inb_of Sz21 ⟨by decide, by decide⟩
  obtain ⟨T22, h22, X22, e22, W22, st22⟩ := stJ X19 hx hZ e19 Ar21 (j := (2 : Int32)) hin21 (g := (mkF m 20 #[.val (.ref a), .val (.long q1), .second, .val (.long q2), .second, .val (.long q3), .second, .val (.long q4), .second, .val (.long q5), .second, .val (.long q6), .second, .unset, .unset, .unset, .unset, .unset] [(.long q3), (.int (2 : Int32)), (.ref b12), (.ref b12)])) rfl rfl (hb hby d2_20)
  have V_b12_22 : Arv Z h22 b12 k12 .long (6 : Int32) [(.long q1), (.long q2), (.long q3), (.long (0 : Int64)), (.long (0 : Int64)), (.long (0 : Int64))] (.long (0 : Int64)) := Arv.set Ar21 qc21 Sz21 Nn21 Hs21 Gf21 rfl W22 2 rfl (Nat.le_of_ble_eq_true rfl)
  have N22 := Fr.snoc X22 N19 n0_b12
  have OL23 := OL20.wr W22 n0_b12
  have KP23 := KP20.wr W22 (Or.inr ws_b12)
  refine own_up st22 ?_
  show OwnOk p e below _ (T22.setTop (mkF m 21 #[.val (.ref a), .val (.long q1), .second, .val (.long q2), .second, .val (.long q3), .second, .val (.long q4), .second, .val (.long q5), .second, .val (.long q6), .second, .unset, .unset, .unset, .unset, .unset] [(.ref b12)]))
  refine own_up (fun tx kx => XS.dup X22.here hx rfl (hb hby d2_21) rfl rfl kx) ?_
  show OwnOk p e below _ (T22.setTop (mkF m 22 #[.val (.ref a), .val (.long q1), .second, .val (.long q2), .second, .val (.long q3), .second, .val (.long q4), .second, .val (.long q5), .second, .val (.long q6), .second, .unset, .unset, .unset, .unset, .unset] [(.ref b12), (.ref b12)]))
  refine own_up (fun tx kx => XS.iconst X22.here hx rfl (hb hby d2_22) kx) ?_
  show OwnOk p e below _ (T22.setTop (mkF m 23 #[.val (.ref a), .val (.long q1), .second, .val (.long q2), .second, .val (.long q3), .second, .val (.long q4), .second, .val (.long q5), .second, .val (.long q6), .second, .unset, .unset, .unset, .unset, .unset] [(.int (3 : Int32)), (.ref b12), (.ref b12)]))
  refine own_up (fun tx kx => XS.lload X22.here hx rfl (hb hby d2_23) rfl kx) ?_
  show OwnOk p e below _ (T22.setTop (mkF m 25 #[.val (.ref a), .val (.long q1), .second, .val (.long q2), .second, .val (.long q3), .second, .val (.long q4), .second, .val (.long q5), .second, .val (.long q6), .second, .unset, .unset, .unset, .unset, .unset] [(.long q4), (.int (3 : Int32)), (.ref b12), (.ref b12)]))
  obtain ⟨cl24, Ar24, qc24, Sz24, Nn24, Hs24, Gf24⟩ := id V_b12_22
  have hin24 : ¬ ((3 : Int32) < 0 ∨ cl24.slots.size ≤ ((3 : Int32)).toNatClampNeg) := inb_of Sz24 ⟨by decide, by decide⟩
  obtain ⟨T25, h25, X25, e25, W25, st25⟩ := stJ X22 hx hZ e22 Ar24 (j := (3 : Int32)) hin24 (g := (mkF m 25 #[.val (.ref a), .val (.long q1), .second, .val (.long q2), .second, .val (.long q3), .second, .val (.long q4), .second, .val (.long q5), .second, .val (.long q6), .second, .unset, .unset, .unset, .unset, .unset] [(.long q4), (.int (3 : Int32)), (.ref b12), (.ref b12)])) rfl rfl (hb hby d2_25)
  have V_b12_25 : Arv Z h25 b12 k12 .long (6 : Int32) [(.long q1), (.long q2), (.long q3), (.long q4), (.long (0 : Int64)), (.long (0 : Int64))] (.long (0 : Int64)) := Arv.set Ar24 qc24 Sz24 Nn24 Hs24 Gf24 rfl W25 3 rfl (Nat.le_of_ble_eq_true rfl)
  have N25 := Fr.snoc X25 N22 n0_b12
  have OL26 := OL23.wr W25 n0_b12
  have KP26 := KP23.wr W25 (Or.inr ws_b12)
  refine own_up st25 ?_
  show OwnOk p e below _ (T25.setTop (mkF m 26 #[.val (.ref a), .val (.long q1), .second, .val (.long q2), .second, .val (.long q3), .second, .val (.long q4), .second, .val (.long q5), .second, .val (.long q6), .second, .unset, .unset, .unset, .unset, .unset] [(.ref b12)]))
  refine own_up (fun tx kx => XS.dup X25.here hx rfl (hb hby d2_26) rfl rfl kx) ?_
  show OwnOk p e below _ (T25.setTop (mkF m 27 #[.val (.ref a), .val (.long q1), .second, .val (.long q2), .second, .val (.long q3), .second, .val (.long q4), .second, .val (.long q5), .second, .val (.long q6), .second, .unset, .unset, .unset, .unset, .unset] [(.ref b12), (.ref b12)]))
  refine own_up (fun tx kx => XS.iconst X25.here hx rfl (hb hby d2_27) kx) ?_
  show OwnOk p e below _ (T25.setTop (mkF m 28 #[.val (.ref a), .val (.long q1), .second, .val (.long q2), .second, .val (.long q3), .second, .val (.long q4), .second, .val (.long q5), .second, .val (.long q6), .second, .unset, .unset, .unset, .unset, .unset] [(.int (4 : Int32)), (.ref b12), (.ref b12)]))
  refine own_up (fun tx kx => XS.lload X25.here hx rfl (hb hby d2_28) rfl kx) ?_
  show OwnOk p e below _ (T25.setTop (mkF m 30 #[.val (.ref a), .val (.long q1), .second, .val (.long q2), .second, .val (.long q3), .second, .val (.long q4), .second, .val (.long q5), .second, .val (.long q6), .second, .unset, .unset, .unset, .unset, .unset] [(.long q5), (.int (4 : Int32)), (.ref b12), (.ref b12)]))
  obtain ⟨cl27, Ar27, qc27, Sz27, Nn27, Hs27, Gf27⟩ := id V_b12_25
  have hin27 : ¬ ((4 : Int32) < 0 ∨ cl27.slots.size ≤ ((4 : Int32)).toNatClampNeg) := inb_of Sz27 ⟨by decide, by decide⟩
  obtain ⟨T28, h28, X28, e28, W28, st28⟩ := stJ X25 hx hZ e25 Ar27 (j := (4 : Int32)) hin27 (g := (mkF m 30 #[.val (.ref a), .val (.long q1), .second, .val (.long q2), .second, .val (.long q3), .second, .val (.long q4), .second, .val (.long q5), .second, .val (.long q6), .second, .unset, .unset, .unset, .unset, .unset] [(.long q5), (.int (4 : Int32)), (.ref b12), (.ref b12)])) rfl rfl (hb hby d2_30)
  have V_b12_28 : Arv Z h28 b12 k12 .long (6 : Int32) [(.long q1), (.long q2), (.long q3), (.long q4), (.long q5), (.long (0 : Int64))] (.long (0 : Int64)) := Arv.set Ar27 qc27 Sz27 Nn27 Hs27 Gf27 rfl W28 4 rfl (Nat.le_of_ble_eq_true rfl)
  have N28 := Fr.snoc X28 N25 n0_b12
  have OL29 := OL26.wr W28 n0_b12
  have KP29 := KP26.wr W28 (Or.inr ws_b12)
  refine own_up st28 ?_
  show OwnOk p e below _ (T28.setTop (mkF m 31 #[.val (.ref a), .val (.long q1), .second, .val (.long q2), .second, .val (.long q3), .second, .val (.long q4), .second, .val (.long q5), .second, .val (.long q6), .second, .unset, .unset, .unset, .unset, .unset] [(.ref b12)]))
  refine own_up (fun tx kx => XS.dup X28.here hx rfl (hb hby d2_31) rfl rfl kx) ?_
  show OwnOk p e below _ (T28.setTop (mkF m 32 #[.val (.ref a), .val (.long q1), .second, .val (.long q2), .second, .val (.long q3), .second, .val (.long q4), .second, .val (.long q5), .second, .val (.long q6), .second, .unset, .unset, .unset, .unset, .unset] [(.ref b12), (.ref b12)]))
  refine own_up (fun tx kx => XS.iconst X28.here hx rfl (hb hby d2_32) kx) ?_
  show OwnOk p e below _ (T28.setTop (mkF m 33 #[.val (.ref a), .val (.long q1), .second, .val (.long q2), .second, .val (.long q3), .second, .val (.long q4), .second, .val (.long q5), .second, .val (.long q6), .second, .unset, .unset, .unset, .unset, .unset] [(.int (5 : Int32)), (.ref b12), (.ref b12)]))
  refine own_up (fun tx kx => XS.lload X28.here hx rfl (hb hby d2_33) rfl kx) ?_
  show OwnOk p e below _ (T28.setTop (mkF m 35 #[.val (.ref a), .val (.long q1), .second, .val (.long q2), .second, .val (.long q3), .second, .val (.long q4), .second, .val (.long q5), .second, .val (.long q6), .second, .unset, .unset, .unset, .unset, .unset] [(.long q6), (.int (5 : Int32)), (.ref b12), (.ref b12)]))
  obtain ⟨cl30, Ar30, qc30, Sz30, Nn30, Hs30, Gf30⟩ := id V_b12_28
  have hin30 : ¬ ((5 : Int32) < 0 ∨ cl30.slots.size ≤ ((5 : Int32)).toNatClampNeg) := inb_of Sz30 ⟨by decide, by decide⟩
  obtain ⟨T31, h31, X31, e31, W31, st31⟩ := stJ X28 hx hZ e28 Ar30 (j := (5 : Int32)) hin30 (g := (mkF m 35 #[.val (.ref a), .val (.long q1), .second, .val (.long q2), .second, .val (.long q3), .second, .val (.long q4), .second, .val (.long q5), .second, .val (.long q6), .second, .unset, .unset, .unset, .unset, .unset] [(.long q6), (.int (5 : Int32)), (.ref b12), (.ref b12)])) rfl rfl (hb hby d2_35)
  have V_b12_31 : Arv Z h31 b12 k12 .long (6 : Int32) [(.long q1), (.long q2), (.long q3), (.long q4), (.long q5), (.long q6)] (.long (0 : Int64)) := Arv.set Ar30 qc30 Sz30 Nn30 Hs30 Gf30 rfl W31 5 rfl (Nat.le_of_ble_eq_true rfl)
  have N31 := Fr.snoc X31 N28 n0_b12
  have OL32 := OL29.wr W31 n0_b12
  have KP32 := KP29.wr W31 (Or.inr ws_b12)
  refine own_up st31 ?_
  show OwnOk p e below _ (T31.setTop (mkF m 36 #[.val (.ref a), .val (.long q1), .second, .val (.long q2), .second, .val (.long q3), .second, .val (.long q4), .second, .val (.long q5), .second, .val (.long q6), .second, .unset, .unset, .unset, .unset, .unset] [(.ref b12)]))
  refine own_up (fun tx kx => XS.astore X31.here hx rfl (hb hby d2_36) rfl rfl (l' := #[.val (.ref a), .val (.long q1), .second, .val (.long q2), .second, .val (.long q3), .second, .val (.long q4), .second, .val (.long q5), .second, .val (.long q6), .second, .val (.ref b12), .unset, .unset, .unset, .unset]) rfl kx) ?_
  show OwnOk p e below _ (T31.setTop (mkF m 38 #[.val (.ref a), .val (.long q1), .second, .val (.long q2), .second, .val (.long q3), .second, .val (.long q4), .second, .val (.long q5), .second, .val (.long q6), .second, .val (.ref b12), .unset, .unset, .unset, .unset] []))
  refine own_up (fun tx kx => XS.aload X31.here hx rfl (hb hby d2_38) rfl rfl kx) ?_
  show OwnOk p e below _ (T31.setTop (mkF m 40 #[.val (.ref a), .val (.long q1), .second, .val (.long q2), .second, .val (.long q3), .second, .val (.long q4), .second, .val (.long q5), .second, .val (.long q6), .second, .val (.ref b12), .unset, .unset, .unset, .unset] [(.ref b12)]))
  obtain ⟨cl33, Ar33, qc33, Sz33, Nn33, Hs33, Gf33⟩ := id V_b12_31
  have hlen33 : cl33.slots.size.toInt32 = (6 : Int32) := len_of Sz33 Nn33
  refine own_up (fun tx kx => X31.arraylength hx (own_ar e31 Ar33.1) (State.isArrayOf_alike hZ.alike Ar33.2.1) (g := (mkF m 40 #[.val (.ref a), .val (.long q1), .second, .val (.long q2), .second, .val (.long q3), .second, .val (.long q4), .second, .val (.long q5), .second, .val (.long q6), .second, .val (.ref b12), .unset, .unset, .unset, .unset] [(.ref b12)])) rfl rfl (hb hby d2_40) _ kx) ?_
  rw [hlen33]
  show OwnOk p e below _ (T31.setTop (mkF m 41 #[.val (.ref a), .val (.long q1), .second, .val (.long q2), .second, .val (.long q3), .second, .val (.long q4), .second, .val (.long q5), .second, .val (.long q6), .second, .val (.ref b12), .unset, .unset, .unset, .unset] [(.int (6 : Int32))]))
  refine own_up (fun tx kx => XS.istore X31.here hx rfl (hb hby d2_41) rfl (l' := #[.val (.ref a), .val (.long q1), .second, .val (.long q2), .second, .val (.long q3), .second, .val (.long q4), .second, .val (.long q5), .second, .val (.long q6), .second, .val (.ref b12), .val (.int (6 : Int32)), .unset, .unset, .unset]) rfl kx) ?_
  show OwnOk p e below _ (T31.setTop (mkF m 43 #[.val (.ref a), .val (.long q1), .second, .val (.long q2), .second, .val (.long q3), .second, .val (.long q4), .second, .val (.long q5), .second, .val (.long q6), .second, .val (.ref b12), .val (.int (6 : Int32)), .unset, .unset, .unset] []))
  refine own_up (fun tx kx => XS.iconst X31.here hx rfl (hb hby d2_43) kx) ?_
  show OwnOk p e below _ (T31.setTop (mkF m 44 #[.val (.ref a), .val (.long q1), .second, .val (.long q2), .second, .val (.long q3), .second, .val (.long q4), .second, .val (.long q5), .second, .val (.long q6), .second, .val (.ref b12), .val (.int (6 : Int32)), .unset, .unset, .unset] [(.int (0 : Int32))]))
  refine own_up (fun tx kx => XS.istore X31.here hx rfl (hb hby d2_44) rfl (l' := #[.val (.ref a), .val (.long q1), .second, .val (.long q2), .second, .val (.long q3), .second, .val (.long q4), .second, .val (.long q5), .second, .val (.long q6), .second, .val (.ref b12), .val (.int (6 : Int32)), .val (.int (0 : Int32)), .unset, .unset]) rfl kx) ?_
  show OwnOk p e below _ (T31.setTop (mkF m 46 #[.val (.ref a), .val (.long q1), .second, .val (.long q2), .second, .val (.long q3), .second, .val (.long q4), .second, .val (.long q5), .second, .val (.long q6), .second, .val (.ref b12), .val (.int (6 : Int32)), .val (.int (0 : Int32)), .unset, .unset] []))
  refine own_up (fun tx kx => XS.iload X31.here hx rfl (hb hby d2_46) rfl kx) ?_
  show OwnOk p e below _ (T31.setTop (mkF m 48 #[.val (.ref a), .val (.long q1), .second, .val (.long q2), .second, .val (.long q3), .second, .val (.long q4), .second, .val (.long q5), .second, .val (.long q6), .second, .val (.ref b12), .val (.int (6 : Int32)), .val (.int (0 : Int32)), .unset, .unset] [(.int (0 : Int32))]))
  refine own_up (fun tx kx => XS.iload X31.here hx rfl (hb hby d2_48) rfl kx) ?_
  show OwnOk p e below _ (T31.setTop (mkF m 50 #[.val (.ref a), .val (.long q1), .second, .val (.long q2), .second, .val (.long q3), .second, .val (.long q4), .second, .val (.long q5), .second, .val (.long q6), .second, .val (.ref b12), .val (.int (6 : Int32)), .val (.int (0 : Int32)), .unset, .unset] [(.int (6 : Int32)), (.int (0 : Int32))]))
  refine own_up (fun tx kx => XS.icmpNo X31.here hx rfl (hb hby d2_50) rfl (tlt (by decide)).2.1 kx) ?_
  show OwnOk p e below _ (T31.setTop (mkF m 53 #[.val (.ref a), .val (.long q1), .second, .val (.long q2), .second, .val (.long q3), .second, .val (.long q4), .second, .val (.long q5), .second, .val (.long q6), .second, .val (.ref b12), .val (.int (6 : Int32)), .val (.int (0 : Int32)), .unset, .unset] []))
  refine own_up (fun tx kx => XS.aload X31.here hx rfl (hb hby d2_53) rfl rfl kx) ?_
  show OwnOk p e below _ (T31.setTop (mkF m 55 #[.val (.ref a), .val (.long q1), .second, .val (.long q2), .second, .val (.long q3), .second, .val (.long q4), .second, .val (.long q5), .second, .val (.long q6), .second, .val (.ref b12), .val (.int (6 : Int32)), .val (.int (0 : Int32)), .unset, .unset] [(.ref b12)]))
  refine own_up (fun tx kx => XS.iload X31.here hx rfl (hb hby d2_55) rfl kx) ?_
  show OwnOk p e below _ (T31.setTop (mkF m 57 #[.val (.ref a), .val (.long q1), .second, .val (.long q2), .second, .val (.long q3), .second, .val (.long q4), .second, .val (.long q5), .second, .val (.long q6), .second, .val (.ref b12), .val (.int (6 : Int32)), .val (.int (0 : Int32)), .unset, .unset] [(.int (0 : Int32)), (.ref b12)]))
  obtain ⟨cl34, Ar34, qc34, Sz34, Nn34, Hs34, Gf34⟩ := id V_b12_31
  have hin34 : ¬ ((0 : Int32) < 0 ∨ cl34.slots.size ≤ ((0 : Int32)).toNatClampNeg) := inb_of Sz34 ⟨by decide, by decide⟩
  have hat34 : cl34.slots[((0 : Int32)).toNatClampNeg]? = some (.long q1) := Hs34.at hin34 rfl
  refine own_up (fun tx kx => X31.laload hx (j := (0 : Int32)) (v := (.long q1)) (own_ar e31 Ar34.1) (State.isArrayOf_alike hZ.alike Ar34.2.1) Ar34.2.2 hin34 hat34 (g := (mkF m 57 #[.val (.ref a), .val (.long q1), .second, .val (.long q2), .second, .val (.long q3), .second, .val (.long q4), .second, .val (.long q5), .second, .val (.long q6), .second, .val (.ref b12), .val (.int (6 : Int32)), .val (.int (0 : Int32)), .unset, .unset] [(.int (0 : Int32)), (.ref b12)])) rfl rfl (hb hby d2_57) _ kx) ?_
  show OwnOk p e below _ (T31.setTop (mkF m 58 #[.val (.ref a), .val (.long q1), .second, .val (.long q2), .second, .val (.long q3), .second, .val (.long q4), .second, .val (.long q5), .second, .val (.long q6), .second, .val (.ref b12), .val (.int (6 : Int32)), .val (.int (0 : Int32)), .unset, .unset] [(.long q1)]))
  refine own_up (fun tx kx => XS.lstore X31.here hx rfl (hb hby d2_58) rfl (l' := #[.val (.ref a), .val (.long q1), .second, .val (.long q2), .second, .val (.long q3), .second, .val (.long q4), .second, .val (.long q5), .second, .val (.long q6), .second, .val (.ref b12), .val (.int (6 : Int32)), .val (.int (0 : Int32)), .val (.long q1), .second]) rfl kx) ?_
  show OwnOk p e below _ (T31.setTop (mkF m 60 #[.val (.ref a), .val (.long q1), .second, .val (.long q2), .second, .val (.long q3), .second, .val (.long q4), .second, .val (.long q5), .second, .val (.long q6), .second, .val (.ref b12), .val (.int (6 : Int32)), .val (.int (0 : Int32)), .val (.long q1), .second] []))
  have sg1 : ∀ tx, Steps p.tables e below (T31.setTop (mkF m 91 #[.val (.ref a), .val (.long q1), .second, .val (.long q2), .second, .val (.long q3), .second, .val (.long q4), .second, .val (.long q5), .second, .val (.long q6), .second, .val (.ref b12), .val (.int (6 : Int32)), .val (.int (0 : Int32)), .val (.long q1), .second] [])) tx → Steps p.tables e below (T31.setTop (mkF m 60 #[.val (.ref a), .val (.long q1), .second, .val (.long q2), .second, .val (.long q3), .second, .val (.long q4), .second, .val (.long q5), .second, .val (.long q6), .second, .val (.ref b12), .val (.int (6 : Int32)), .val (.int (0 : Int32)), .val (.long q1), .second] [])) tx := by
    intro tx kk
    show Steps p.tables e below (T31.setTop (mkF m 60 #[.val (.ref a), .val (.long q1), .second, .val (.long q2), .second, .val (.long q3), .second, .val (.long q4), .second, .val (.long q5), .second, .val (.long q6), .second, .val (.ref b12), .val (.int (6 : Int32)), .val (.int (0 : Int32)), .val (.long q1), .second] [])) _
    refine XS.lload X31.here hx rfl (hb hby d2_60) rfl ?_
    show Steps p.tables e below (T31.setTop (mkF m 62 #[.val (.ref a), .val (.long q1), .second, .val (.long q2), .second, .val (.long q3), .second, .val (.long q4), .second, .val (.long q5), .second, .val (.long q6), .second, .val (.ref b12), .val (.int (6 : Int32)), .val (.int (0 : Int32)), .val (.long q1), .second] [(.long q1)])) _
    refine XS.lconst X31.here hx rfl (hb hby d2_62) ?_
    show Steps p.tables e below (T31.setTop (mkF m 63 #[.val (.ref a), .val (.long q1), .second, .val (.long q2), .second, .val (.long q3), .second, .val (.long q4), .second, .val (.long q5), .second, .val (.long q6), .second, .val (.ref b12), .val (.int (6 : Int32)), .val (.int (0 : Int32)), .val (.long q1), .second] [(.long (1 : Int64)), (.long q1)])) _
    refine XS.lcmp X31.here hx rfl (hb hby d2_63) rfl ?_
    show Steps p.tables e below (T31.setTop (mkF m 64 #[.val (.ref a), .val (.long q1), .second, .val (.long q2), .second, .val (.long q3), .second, .val (.long q4), .second, .val (.long q5), .second, .val (.long q6), .second, .val (.ref b12), .val (.int (6 : Int32)), .val (.int (0 : Int32)), .val (.long q1), .second] [(.int (lcmpW q1 (1 : Int64)))])) _
    by_cases hl : q1 < (1 : Int64)
    · refine XS.ifNo X31.here hx rfl (hb hby d2_64) rfl (own_jtlt hl).2.1 ?_
      show Steps p.tables e below (T31.setTop (mkF m 67 #[.val (.ref a), .val (.long q1), .second, .val (.long q2), .second, .val (.long q3), .second, .val (.long q4), .second, .val (.long q5), .second, .val (.long q6), .second, .val (.ref b12), .val (.int (6 : Int32)), .val (.int (0 : Int32)), .val (.long q1), .second] [])) _
      refine XS.lload X31.here hx rfl (hb hby d2_67) rfl ?_
      show Steps p.tables e below (T31.setTop (mkF m 69 #[.val (.ref a), .val (.long q1), .second, .val (.long q2), .second, .val (.long q3), .second, .val (.long q4), .second, .val (.long q5), .second, .val (.long q6), .second, .val (.ref b12), .val (.int (6 : Int32)), .val (.int (0 : Int32)), .val (.long q1), .second] [(.long q1)])) _
      refine X31.ldc2Long hx hown (mvT hZ (wd_21 hw)) (g := (mkF m 69 #[.val (.ref a), .val (.long q1), .second, .val (.long q2), .second, .val (.long q3), .second, .val (.long q4), .second, .val (.long q5), .second, .val (.long q6), .second, .val (.ref b12), .val (.int (6 : Int32)), .val (.int (0 : Int32)), .val (.long q1), .second] [(.long q1)])) rfl (hb hby d2_69) _ ?_
      show Steps p.tables e below (T31.setTop (mkF m 72 #[.val (.ref a), .val (.long q1), .second, .val (.long q2), .second, .val (.long q3), .second, .val (.long q4), .second, .val (.long q5), .second, .val (.long q6), .second, .val (.ref b12), .val (.int (6 : Int32)), .val (.int (0 : Int32)), .val (.long q1), .second] [(.long (-1 : Int64)), (.long q1)])) _
      refine XS.lcmp X31.here hx rfl (hb hby d2_72) rfl ?_
      show Steps p.tables e below (T31.setTop (mkF m 73 #[.val (.ref a), .val (.long q1), .second, .val (.long q2), .second, .val (.long q3), .second, .val (.long q4), .second, .val (.long q5), .second, .val (.long q6), .second, .val (.ref b12), .val (.int (6 : Int32)), .val (.int (0 : Int32)), .val (.long q1), .second] [(.int (lcmpW q1 (-1 : Int64)))])) _
      refine XS.ifYes X31.here hx rfl (pc0 := 73) (pc' := 91) rfl (hb hby d2_73) rfl (own_jteq (k1.resolve_right fun q => q hl)).1 (by decide) (by decide) ?_
      show Steps p.tables e below (T31.setTop (mkF m 91 #[.val (.ref a), .val (.long q1), .second, .val (.long q2), .second, .val (.long q3), .second, .val (.long q4), .second, .val (.long q5), .second, .val (.long q6), .second, .val (.ref b12), .val (.int (6 : Int32)), .val (.int (0 : Int32)), .val (.long q1), .second] [])) _
      exact kk
    · refine XS.ifYes X31.here hx rfl (pc0 := 64) (pc' := 91) rfl (hb hby d2_64) rfl (own_jflt hl).2.1 (by decide) (by decide) ?_
      show Steps p.tables e below (T31.setTop (mkF m 91 #[.val (.ref a), .val (.long q1), .second, .val (.long q2), .second, .val (.long q3), .second, .val (.long q4), .second, .val (.long q5), .second, .val (.long q6), .second, .val (.ref b12), .val (.int (6 : Int32)), .val (.int (0 : Int32)), .val (.long q1), .second] [])) _
      exact kk
  refine own_up sg1 ?_
  show OwnOk p e below _ (T31.setTop (mkF m 91 #[.val (.ref a), .val (.long q1), .second, .val (.long q2), .second, .val (.long q3), .second, .val (.long q4), .second, .val (.long q5), .second, .val (.long q6), .second, .val (.ref b12), .val (.int (6 : Int32)), .val (.int (0 : Int32)), .val (.long q1), .second] []))
  have hi91_35 : ((0 : Int32) + (1 : Int32)) = (1 : Int32) := by decide
  refine own_up (fun tx kx => XS.iinc X31.here hx rfl (hb hby d2_91) rfl (l' := #[.val (.ref a), .val (.long q1), .second, .val (.long q2), .second, .val (.long q3), .second, .val (.long q4), .second, .val (.long q5), .second, .val (.long q6), .second, .val (.ref b12), .val (.int (6 : Int32)), .val (.int ((0 : Int32) + (1 : Int32))), .val (.long q1), .second]) rfl kx) ?_
  rw [hi91_35]
  show OwnOk p e below _ (T31.setTop (mkF m 94 #[.val (.ref a), .val (.long q1), .second, .val (.long q2), .second, .val (.long q3), .second, .val (.long q4), .second, .val (.long q5), .second, .val (.long q6), .second, .val (.ref b12), .val (.int (6 : Int32)), .val (.int (1 : Int32)), .val (.long q1), .second] []))
  refine own_up (fun tx kx => XS.goto X31.here hx rfl (pc0 := 94) (pc' := 46) rfl (hb hby d2_94) (by decide) (by decide) kx) ?_
  show OwnOk p e below _ (T31.setTop (mkF m 46 #[.val (.ref a), .val (.long q1), .second, .val (.long q2), .second, .val (.long q3), .second, .val (.long q4), .second, .val (.long q5), .second, .val (.long q6), .second, .val (.ref b12), .val (.int (6 : Int32)), .val (.int (1 : Int32)), .val (.long q1), .second] []))
  refine own_up (fun tx kx => XS.iload X31.here hx rfl (hb hby d2_46) rfl kx) ?_
  show OwnOk p e below _ (T31.setTop (mkF m 48 #[.val (.ref a), .val (.long q1), .second, .val (.long q2), .second, .val (.long q3), .second, .val (.long q4), .second, .val (.long q5), .second, .val (.long q6), .second, .val (.ref b12), .val (.int (6 : Int32)), .val (.int (1 : Int32)), .val (.long q1), .second] [(.int (1 : Int32))]))
  refine own_up (fun tx kx => XS.iload X31.here hx rfl (hb hby d2_48) rfl kx) ?_
  show OwnOk p e below _ (T31.setTop (mkF m 50 #[.val (.ref a), .val (.long q1), .second, .val (.long q2), .second, .val (.long q3), .second, .val (.long q4), .second, .val (.long q5), .second, .val (.long q6), .second, .val (.ref b12), .val (.int (6 : Int32)), .val (.int (1 : Int32)), .val (.long q1), .second] [(.int (6 : Int32)), (.int (1 : Int32))]))
  refine own_up (fun tx kx => XS.icmpNo X31.here hx rfl (hb hby d2_50) rfl (tlt (by decide)).2.1 kx) ?_
  show OwnOk p e below _ (T31.setTop (mkF m 53 #[.val (.ref a), .val (.long q1), .second, .val (.long q2), .second, .val (.long q3), .second, .val (.long q4), .second, .val (.long q5), .second, .val (.long q6), .second, .val (.ref b12), .val (.int (6 : Int32)), .val (.int (1 : Int32)), .val (.long q1), .second] []))
  refine own_up (fun tx kx => XS.aload X31.here hx rfl (hb hby d2_53) rfl rfl kx) ?_
  show OwnOk p e below _ (T31.setTop (mkF m 55 #[.val (.ref a), .val (.long q1), .second, .val (.long q2), .second, .val (.long q3), .second, .val (.long q4), .second, .val (.long q5), .second, .val (.long q6), .second, .val (.ref b12), .val (.int (6 : Int32)), .val (.int (1 : Int32)), .val (.long q1), .second] [(.ref b12)]))
  refine own_up (fun tx kx => XS.iload X31.here hx rfl (hb hby d2_55) rfl kx) ?_
  show OwnOk p e below _ (T31.setTop (mkF m 57 #[.val (.ref a), .val (.long q1), .second, .val (.long q2), .second, .val (.long q3), .second, .val (.long q4), .second, .val (.long q5), .second, .val (.long q6), .second, .val (.ref b12), .val (.int (6 : Int32)), .val (.int (1 : Int32)), .val (.long q1), .second] [(.int (1 : Int32)), (.ref b12)]))
  obtain ⟨cl36, Ar36, qc36, Sz36, Nn36, Hs36, Gf36⟩ := id V_b12_31
  have hin36 : ¬ ((1 : Int32) < 0 ∨ cl36.slots.size ≤ ((1 : Int32)).toNatClampNeg) := inb_of Sz36 ⟨by decide, by decide⟩
  have hat36 : cl36.slots[((1 : Int32)).toNatClampNeg]? = some (.long q2) := Hs36.at hin36 rfl
  refine own_up (fun tx kx => X31.laload hx (j := (1 : Int32)) (v := (.long q2)) (own_ar e31 Ar36.1) (State.isArrayOf_alike hZ.alike Ar36.2.1) Ar36.2.2 hin36 hat36 (g := (mkF m 57 #[.val (.ref a), .val (.long q1), .second, .val (.long q2), .second, .val (.long q3), .second, .val (.long q4), .second, .val (.long q5), .second, .val (.long q6), .second, .val (.ref b12), .val (.int (6 : Int32)), .val (.int (1 : Int32)), .val (.long q1), .second] [(.int (1 : Int32)), (.ref b12)])) rfl rfl (hb hby d2_57) _ kx) ?_
  show OwnOk p e below _ (T31.setTop (mkF m 58 #[.val (.ref a), .val (.long q1), .second, .val (.long q2), .second, .val (.long q3), .second, .val (.long q4), .second, .val (.long q5), .second, .val (.long q6), .second, .val (.ref b12), .val (.int (6 : Int32)), .val (.int (1 : Int32)), .val (.long q1), .second] [(.long q2)]))
  refine own_up (fun tx kx => XS.lstore X31.here hx rfl (hb hby d2_58) rfl (l' := #[.val (.ref a), .val (.long q1), .second, .val (.long q2), .second, .val (.long q3), .second, .val (.long q4), .second, .val (.long q5), .second, .val (.long q6), .second, .val (.ref b12), .val (.int (6 : Int32)), .val (.int (1 : Int32)), .val (.long q2), .second]) rfl kx) ?_
  show OwnOk p e below _ (T31.setTop (mkF m 60 #[.val (.ref a), .val (.long q1), .second, .val (.long q2), .second, .val (.long q3), .second, .val (.long q4), .second, .val (.long q5), .second, .val (.long q6), .second, .val (.ref b12), .val (.int (6 : Int32)), .val (.int (1 : Int32)), .val (.long q2), .second] []))
  have sg2 : ∀ tx, Steps p.tables e below (T31.setTop (mkF m 91 #[.val (.ref a), .val (.long q1), .second, .val (.long q2), .second, .val (.long q3), .second, .val (.long q4), .second, .val (.long q5), .second, .val (.long q6), .second, .val (.ref b12), .val (.int (6 : Int32)), .val (.int (1 : Int32)), .val (.long q2), .second] [])) tx → Steps p.tables e below (T31.setTop (mkF m 60 #[.val (.ref a), .val (.long q1), .second, .val (.long q2), .second, .val (.long q3), .second, .val (.long q4), .second, .val (.long q5), .second, .val (.long q6), .second, .val (.ref b12), .val (.int (6 : Int32)), .val (.int (1 : Int32)), .val (.long q2), .second] [])) tx := by
    intro tx kk
    show Steps p.tables e below (T31.setTop (mkF m 60 #[.val (.ref a), .val (.long q1), .second, .val (.long q2), .second, .val (.long q3), .second, .val (.long q4), .second, .val (.long q5), .second, .val (.long q6), .second, .val (.ref b12), .val (.int (6 : Int32)), .val (.int (1 : Int32)), .val (.long q2), .second] [])) _
    refine XS.lload X31.here hx rfl (hb hby d2_60) rfl ?_
    show Steps p.tables e below (T31.setTop (mkF m 62 #[.val (.ref a), .val (.long q1), .second, .val (.long q2), .second, .val (.long q3), .second, .val (.long q4), .second, .val (.long q5), .second, .val (.long q6), .second, .val (.ref b12), .val (.int (6 : Int32)), .val (.int (1 : Int32)), .val (.long q2), .second] [(.long q2)])) _
    refine XS.lconst X31.here hx rfl (hb hby d2_62) ?_
    show Steps p.tables e below (T31.setTop (mkF m 63 #[.val (.ref a), .val (.long q1), .second, .val (.long q2), .second, .val (.long q3), .second, .val (.long q4), .second, .val (.long q5), .second, .val (.long q6), .second, .val (.ref b12), .val (.int (6 : Int32)), .val (.int (1 : Int32)), .val (.long q2), .second] [(.long (1 : Int64)), (.long q2)])) _
    refine XS.lcmp X31.here hx rfl (hb hby d2_63) rfl ?_
    show Steps p.tables e below (T31.setTop (mkF m 64 #[.val (.ref a), .val (.long q1), .second, .val (.long q2), .second, .val (.long q3), .second, .val (.long q4), .second, .val (.long q5), .second, .val (.long q6), .second, .val (.ref b12), .val (.int (6 : Int32)), .val (.int (1 : Int32)), .val (.long q2), .second] [(.int (lcmpW q2 (1 : Int64)))])) _
    by_cases hl : q2 < (1 : Int64)
    · refine XS.ifNo X31.here hx rfl (hb hby d2_64) rfl (own_jtlt hl).2.1 ?_
      show Steps p.tables e below (T31.setTop (mkF m 67 #[.val (.ref a), .val (.long q1), .second, .val (.long q2), .second, .val (.long q3), .second, .val (.long q4), .second, .val (.long q5), .second, .val (.long q6), .second, .val (.ref b12), .val (.int (6 : Int32)), .val (.int (1 : Int32)), .val (.long q2), .second] [])) _
      refine XS.lload X31.here hx rfl (hb hby d2_67) rfl ?_
      show Steps p.tables e below (T31.setTop (mkF m 69 #[.val (.ref a), .val (.long q1), .second, .val (.long q2), .second, .val (.long q3), .second, .val (.long q4), .second, .val (.long q5), .second, .val (.long q6), .second, .val (.ref b12), .val (.int (6 : Int32)), .val (.int (1 : Int32)), .val (.long q2), .second] [(.long q2)])) _
      refine X31.ldc2Long hx hown (mvT hZ (wd_21 hw)) (g := (mkF m 69 #[.val (.ref a), .val (.long q1), .second, .val (.long q2), .second, .val (.long q3), .second, .val (.long q4), .second, .val (.long q5), .second, .val (.long q6), .second, .val (.ref b12), .val (.int (6 : Int32)), .val (.int (1 : Int32)), .val (.long q2), .second] [(.long q2)])) rfl (hb hby d2_69) _ ?_
      show Steps p.tables e below (T31.setTop (mkF m 72 #[.val (.ref a), .val (.long q1), .second, .val (.long q2), .second, .val (.long q3), .second, .val (.long q4), .second, .val (.long q5), .second, .val (.long q6), .second, .val (.ref b12), .val (.int (6 : Int32)), .val (.int (1 : Int32)), .val (.long q2), .second] [(.long (-1 : Int64)), (.long q2)])) _
      refine XS.lcmp X31.here hx rfl (hb hby d2_72) rfl ?_
      show Steps p.tables e below (T31.setTop (mkF m 73 #[.val (.ref a), .val (.long q1), .second, .val (.long q2), .second, .val (.long q3), .second, .val (.long q4), .second, .val (.long q5), .second, .val (.long q6), .second, .val (.ref b12), .val (.int (6 : Int32)), .val (.int (1 : Int32)), .val (.long q2), .second] [(.int (lcmpW q2 (-1 : Int64)))])) _
      refine XS.ifYes X31.here hx rfl (pc0 := 73) (pc' := 91) rfl (hb hby d2_73) rfl (own_jteq (k2.resolve_right fun q => q hl)).1 (by decide) (by decide) ?_
      show Steps p.tables e below (T31.setTop (mkF m 91 #[.val (.ref a), .val (.long q1), .second, .val (.long q2), .second, .val (.long q3), .second, .val (.long q4), .second, .val (.long q5), .second, .val (.long q6), .second, .val (.ref b12), .val (.int (6 : Int32)), .val (.int (1 : Int32)), .val (.long q2), .second] [])) _
      exact kk
    · refine XS.ifYes X31.here hx rfl (pc0 := 64) (pc' := 91) rfl (hb hby d2_64) rfl (own_jflt hl).2.1 (by decide) (by decide) ?_
      show Steps p.tables e below (T31.setTop (mkF m 91 #[.val (.ref a), .val (.long q1), .second, .val (.long q2), .second, .val (.long q3), .second, .val (.long q4), .second, .val (.long q5), .second, .val (.long q6), .second, .val (.ref b12), .val (.int (6 : Int32)), .val (.int (1 : Int32)), .val (.long q2), .second] [])) _
      exact kk
  refine own_up sg2 ?_
  show OwnOk p e below _ (T31.setTop (mkF m 91 #[.val (.ref a), .val (.long q1), .second, .val (.long q2), .second, .val (.long q3), .second, .val (.long q4), .second, .val (.long q5), .second, .val (.long q6), .second, .val (.ref b12), .val (.int (6 : Int32)), .val (.int (1 : Int32)), .val (.long q2), .second] []))
  have hi91_37 : ((1 : Int32) + (1 : Int32)) = (2 : Int32) := by decide
  refine own_up (fun tx kx => XS.iinc X31.here hx rfl (hb hby d2_91) rfl (l' := #[.val (.ref a), .val (.long q1), .second, .val (.long q2), .second, .val (.long q3), .second, .val (.long q4), .second, .val (.long q5), .second, .val (.long q6), .second, .val (.ref b12), .val (.int (6 : Int32)), .val (.int ((1 : Int32) + (1 : Int32))), .val (.long q2), .second]) rfl kx) ?_
  rw [hi91_37]
  show OwnOk p e below _ (T31.setTop (mkF m 94 #[.val (.ref a), .val (.long q1), .second, .val (.long q2), .second, .val (.long q3), .second, .val (.long q4), .second, .val (.long q5), .second, .val (.long q6), .second, .val (.ref b12), .val (.int (6 : Int32)), .val (.int (2 : Int32)), .val (.long q2), .second] []))
  refine own_up (fun tx kx => XS.goto X31.here hx rfl (pc0 := 94) (pc' := 46) rfl (hb hby d2_94) (by decide) (by decide) kx) ?_
  show OwnOk p e below _ (T31.setTop (mkF m 46 #[.val (.ref a), .val (.long q1), .second, .val (.long q2), .second, .val (.long q3), .second, .val (.long q4), .second, .val (.long q5), .second, .val (.long q6), .second, .val (.ref b12), .val (.int (6 : Int32)), .val (.int (2 : Int32)), .val (.long q2), .second] []))
  refine own_up (fun tx kx => XS.iload X31.here hx rfl (hb hby d2_46) rfl kx) ?_
  show OwnOk p e below _ (T31.setTop (mkF m 48 #[.val (.ref a), .val (.long q1), .second, .val (.long q2), .second, .val (.long q3), .second, .val (.long q4), .second, .val (.long q5), .second, .val (.long q6), .second, .val (.ref b12), .val (.int (6 : Int32)), .val (.int (2 : Int32)), .val (.long q2), .second] [(.int (2 : Int32))]))
  refine own_up (fun tx kx => XS.iload X31.here hx rfl (hb hby d2_48) rfl kx) ?_
  show OwnOk p e below _ (T31.setTop (mkF m 50 #[.val (.ref a), .val (.long q1), .second, .val (.long q2), .second, .val (.long q3), .second, .val (.long q4), .second, .val (.long q5), .second, .val (.long q6), .second, .val (.ref b12), .val (.int (6 : Int32)), .val (.int (2 : Int32)), .val (.long q2), .second] [(.int (6 : Int32)), (.int (2 : Int32))]))
  refine own_up (fun tx kx => XS.icmpNo X31.here hx rfl (hb hby d2_50) rfl (tlt (by decide)).2.1 kx) ?_
  show OwnOk p e below _ (T31.setTop (mkF m 53 #[.val (.ref a), .val (.long q1), .second, .val (.long q2), .second, .val (.long q3), .second, .val (.long q4), .second, .val (.long q5), .second, .val (.long q6), .second, .val (.ref b12), .val (.int (6 : Int32)), .val (.int (2 : Int32)), .val (.long q2), .second] []))
  refine own_up (fun tx kx => XS.aload X31.here hx rfl (hb hby d2_53) rfl rfl kx) ?_
  show OwnOk p e below _ (T31.setTop (mkF m 55 #[.val (.ref a), .val (.long q1), .second, .val (.long q2), .second, .val (.long q3), .second, .val (.long q4), .second, .val (.long q5), .second, .val (.long q6), .second, .val (.ref b12), .val (.int (6 : Int32)), .val (.int (2 : Int32)), .val (.long q2), .second] [(.ref b12)]))
  refine own_up (fun tx kx => XS.iload X31.here hx rfl (hb hby d2_55) rfl kx) ?_
  show OwnOk p e below _ (T31.setTop (mkF m 57 #[.val (.ref a), .val (.long q1), .second, .val (.long q2), .second, .val (.long q3), .second, .val (.long q4), .second, .val (.long q5), .second, .val (.long q6), .second, .val (.ref b12), .val (.int (6 : Int32)), .val (.int (2 : Int32)), .val (.long q2), .second] [(.int (2 : Int32)), (.ref b12)]))
  obtain ⟨cl38, Ar38, qc38, Sz38, Nn38, Hs38, Gf38⟩ := id V_b12_31
  have hin38 : ¬ ((2 : Int32) < 0 ∨ cl38.slots.size ≤ ((2 : Int32)).toNatClampNeg) := inb_of Sz38 ⟨by decide, by decide⟩
  have hat38 : cl38.slots[((2 : Int32)).toNatClampNeg]? = some (.long q3) := Hs38.at hin38 rfl
  refine own_up (fun tx kx => X31.laload hx (j := (2 : Int32)) (v := (.long q3)) (own_ar e31 Ar38.1) (State.isArrayOf_alike hZ.alike Ar38.2.1) Ar38.2.2 hin38 hat38 (g := (mkF m 57 #[.val (.ref a), .val (.long q1), .second, .val (.long q2), .second, .val (.long q3), .second, .val (.long q4), .second, .val (.long q5), .second, .val (.long q6), .second, .val (.ref b12), .val (.int (6 : Int32)), .val (.int (2 : Int32)), .val (.long q2), .second] [(.int (2 : Int32)), (.ref b12)])) rfl rfl (hb hby d2_57) _ kx) ?_
  show OwnOk p e below _ (T31.setTop (mkF m 58 #[.val (.ref a), .val (.long q1), .second, .val (.long q2), .second, .val (.long q3), .second, .val (.long q4), .second, .val (.long q5), .second, .val (.long q6), .second, .val (.ref b12), .val (.int (6 : Int32)), .val (.int (2 : Int32)), .val (.long q2), .second] [(.long q3)]))
  refine own_up (fun tx kx => XS.lstore X31.here hx rfl (hb hby d2_58) rfl (l' := #[.val (.ref a), .val (.long q1), .second, .val (.long q2), .second, .val (.long q3), .second, .val (.long q4), .second, .val (.long q5), .second, .val (.long q6), .second, .val (.ref b12), .val (.int (6 : Int32)), .val (.int (2 : Int32)), .val (.long q3), .second]) rfl kx) ?_
  show OwnOk p e below _ (T31.setTop (mkF m 60 #[.val (.ref a), .val (.long q1), .second, .val (.long q2), .second, .val (.long q3), .second, .val (.long q4), .second, .val (.long q5), .second, .val (.long q6), .second, .val (.ref b12), .val (.int (6 : Int32)), .val (.int (2 : Int32)), .val (.long q3), .second] []))
  have sg3 : ∀ tx, Steps p.tables e below (T31.setTop (mkF m 91 #[.val (.ref a), .val (.long q1), .second, .val (.long q2), .second, .val (.long q3), .second, .val (.long q4), .second, .val (.long q5), .second, .val (.long q6), .second, .val (.ref b12), .val (.int (6 : Int32)), .val (.int (2 : Int32)), .val (.long q3), .second] [])) tx → Steps p.tables e below (T31.setTop (mkF m 60 #[.val (.ref a), .val (.long q1), .second, .val (.long q2), .second, .val (.long q3), .second, .val (.long q4), .second, .val (.long q5), .second, .val (.long q6), .second, .val (.ref b12), .val (.int (6 : Int32)), .val (.int (2 : Int32)), .val (.long q3), .second] [])) tx := by
    intro tx kk
    show Steps p.tables e below (T31.setTop (mkF m 60 #[.val (.ref a), .val (.long q1), .second, .val (.long q2), .second, .val (.long q3), .second, .val (.long q4), .second, .val (.long q5), .second, .val (.long q6), .second, .val (.ref b12), .val (.int (6 : Int32)), .val (.int (2 : Int32)), .val (.long q3), .second] [])) _
    refine XS.lload X31.here hx rfl (hb hby d2_60) rfl ?_
    show Steps p.tables e below (T31.setTop (mkF m 62 #[.val (.ref a), .val (.long q1), .second, .val (.long q2), .second, .val (.long q3), .second, .val (.long q4), .second, .val (.long q5), .second, .val (.long q6), .second, .val (.ref b12), .val (.int (6 : Int32)), .val (.int (2 : Int32)), .val (.long q3), .second] [(.long q3)])) _
    refine XS.lconst X31.here hx rfl (hb hby d2_62) ?_
    show Steps p.tables e below (T31.setTop (mkF m 63 #[.val (.ref a), .val (.long q1), .second, .val (.long q2), .second, .val (.long q3), .second, .val (.long q4), .second, .val (.long q5), .second, .val (.long q6), .second, .val (.ref b12), .val (.int (6 : Int32)), .val (.int (2 : Int32)), .val (.long q3), .second] [(.long (1 : Int64)), (.long q3)])) _
    refine XS.lcmp X31.here hx rfl (hb hby d2_63) rfl ?_
    show Steps p.tables e below (T31.setTop (mkF m 64 #[.val (.ref a), .val (.long q1), .second, .val (.long q2), .second, .val (.long q3), .second, .val (.long q4), .second, .val (.long q5), .second, .val (.long q6), .second, .val (.ref b12), .val (.int (6 : Int32)), .val (.int (2 : Int32)), .val (.long q3), .second] [(.int (lcmpW q3 (1 : Int64)))])) _
    by_cases hl : q3 < (1 : Int64)
    · refine XS.ifNo X31.here hx rfl (hb hby d2_64) rfl (own_jtlt hl).2.1 ?_
      show Steps p.tables e below (T31.setTop (mkF m 67 #[.val (.ref a), .val (.long q1), .second, .val (.long q2), .second, .val (.long q3), .second, .val (.long q4), .second, .val (.long q5), .second, .val (.long q6), .second, .val (.ref b12), .val (.int (6 : Int32)), .val (.int (2 : Int32)), .val (.long q3), .second] [])) _
      refine XS.lload X31.here hx rfl (hb hby d2_67) rfl ?_
      show Steps p.tables e below (T31.setTop (mkF m 69 #[.val (.ref a), .val (.long q1), .second, .val (.long q2), .second, .val (.long q3), .second, .val (.long q4), .second, .val (.long q5), .second, .val (.long q6), .second, .val (.ref b12), .val (.int (6 : Int32)), .val (.int (2 : Int32)), .val (.long q3), .second] [(.long q3)])) _
      refine X31.ldc2Long hx hown (mvT hZ (wd_21 hw)) (g := (mkF m 69 #[.val (.ref a), .val (.long q1), .second, .val (.long q2), .second, .val (.long q3), .second, .val (.long q4), .second, .val (.long q5), .second, .val (.long q6), .second, .val (.ref b12), .val (.int (6 : Int32)), .val (.int (2 : Int32)), .val (.long q3), .second] [(.long q3)])) rfl (hb hby d2_69) _ ?_
      show Steps p.tables e below (T31.setTop (mkF m 72 #[.val (.ref a), .val (.long q1), .second, .val (.long q2), .second, .val (.long q3), .second, .val (.long q4), .second, .val (.long q5), .second, .val (.long q6), .second, .val (.ref b12), .val (.int (6 : Int32)), .val (.int (2 : Int32)), .val (.long q3), .second] [(.long (-1 : Int64)), (.long q3)])) _
      refine XS.lcmp X31.here hx rfl (hb hby d2_72) rfl ?_
      show Steps p.tables e below (T31.setTop (mkF m 73 #[.val (.ref a), .val (.long q1), .second, .val (.long q2), .second, .val (.long q3), .second, .val (.long q4), .second, .val (.long q5), .second, .val (.long q6), .second, .val (.ref b12), .val (.int (6 : Int32)), .val (.int (2 : Int32)), .val (.long q3), .second] [(.int (lcmpW q3 (-1 : Int64)))])) _
      refine XS.ifYes X31.here hx rfl (pc0 := 73) (pc' := 91) rfl (hb hby d2_73) rfl (own_jteq (k3.resolve_right fun q => q hl)).1 (by decide) (by decide) ?_
      show Steps p.tables e below (T31.setTop (mkF m 91 #[.val (.ref a), .val (.long q1), .second, .val (.long q2), .second, .val (.long q3), .second, .val (.long q4), .second, .val (.long q5), .second, .val (.long q6), .second, .val (.ref b12), .val (.int (6 : Int32)), .val (.int (2 : Int32)), .val (.long q3), .second] [])) _
      exact kk
    · refine XS.ifYes X31.here hx rfl (pc0 := 64) (pc' := 91) rfl (hb hby d2_64) rfl (own_jflt hl).2.1 (by decide) (by decide) ?_
      show Steps p.tables e below (T31.setTop (mkF m 91 #[.val (.ref a), .val (.long q1), .second, .val (.long q2), .second, .val (.long q3), .second, .val (.long q4), .second, .val (.long q5), .second, .val (.long q6), .second, .val (.ref b12), .val (.int (6 : Int32)), .val (.int (2 : Int32)), .val (.long q3), .second] [])) _
      exact kk
  refine own_up sg3 ?_
  show OwnOk p e below _ (T31.setTop (mkF m 91 #[.val (.ref a), .val (.long q1), .second, .val (.long q2), .second, .val (.long q3), .second, .val (.long q4), .second, .val (.long q5), .second, .val (.long q6), .second, .val (.ref b12), .val (.int (6 : Int32)), .val (.int (2 : Int32)), .val (.long q3), .second] []))
  have hi91_39 : ((2 : Int32) + (1 : Int32)) = (3 : Int32) := by decide
  refine own_up (fun tx kx => XS.iinc X31.here hx rfl (hb hby d2_91) rfl (l' := #[.val (.ref a), .val (.long q1), .second, .val (.long q2), .second, .val (.long q3), .second, .val (.long q4), .second, .val (.long q5), .second, .val (.long q6), .second, .val (.ref b12), .val (.int (6 : Int32)), .val (.int ((2 : Int32) + (1 : Int32))), .val (.long q3), .second]) rfl kx) ?_
  rw [hi91_39]
  show OwnOk p e below _ (T31.setTop (mkF m 94 #[.val (.ref a), .val (.long q1), .second, .val (.long q2), .second, .val (.long q3), .second, .val (.long q4), .second, .val (.long q5), .second, .val (.long q6), .second, .val (.ref b12), .val (.int (6 : Int32)), .val (.int (3 : Int32)), .val (.long q3), .second] []))
  refine own_up (fun tx kx => XS.goto X31.here hx rfl (pc0 := 94) (pc' := 46) rfl (hb hby d2_94) (by decide) (by decide) kx) ?_
  show OwnOk p e below _ (T31.setTop (mkF m 46 #[.val (.ref a), .val (.long q1), .second, .val (.long q2), .second, .val (.long q3), .second, .val (.long q4), .second, .val (.long q5), .second, .val (.long q6), .second, .val (.ref b12), .val (.int (6 : Int32)), .val (.int (3 : Int32)), .val (.long q3), .second] []))
  refine own_up (fun tx kx => XS.iload X31.here hx rfl (hb hby d2_46) rfl kx) ?_
  show OwnOk p e below _ (T31.setTop (mkF m 48 #[.val (.ref a), .val (.long q1), .second, .val (.long q2), .second, .val (.long q3), .second, .val (.long q4), .second, .val (.long q5), .second, .val (.long q6), .second, .val (.ref b12), .val (.int (6 : Int32)), .val (.int (3 : Int32)), .val (.long q3), .second] [(.int (3 : Int32))]))
  refine own_up (fun tx kx => XS.iload X31.here hx rfl (hb hby d2_48) rfl kx) ?_
  show OwnOk p e below _ (T31.setTop (mkF m 50 #[.val (.ref a), .val (.long q1), .second, .val (.long q2), .second, .val (.long q3), .second, .val (.long q4), .second, .val (.long q5), .second, .val (.long q6), .second, .val (.ref b12), .val (.int (6 : Int32)), .val (.int (3 : Int32)), .val (.long q3), .second] [(.int (6 : Int32)), (.int (3 : Int32))]))
  refine own_up (fun tx kx => XS.icmpNo X31.here hx rfl (hb hby d2_50) rfl (tlt (by decide)).2.1 kx) ?_
  show OwnOk p e below _ (T31.setTop (mkF m 53 #[.val (.ref a), .val (.long q1), .second, .val (.long q2), .second, .val (.long q3), .second, .val (.long q4), .second, .val (.long q5), .second, .val (.long q6), .second, .val (.ref b12), .val (.int (6 : Int32)), .val (.int (3 : Int32)), .val (.long q3), .second] []))
  refine own_up (fun tx kx => XS.aload X31.here hx rfl (hb hby d2_53) rfl rfl kx) ?_
  show OwnOk p e below _ (T31.setTop (mkF m 55 #[.val (.ref a), .val (.long q1), .second, .val (.long q2), .second, .val (.long q3), .second, .val (.long q4), .second, .val (.long q5), .second, .val (.long q6), .second, .val (.ref b12), .val (.int (6 : Int32)), .val (.int (3 : Int32)), .val (.long q3), .second] [(.ref b12)]))
  refine own_up (fun tx kx => XS.iload X31.here hx rfl (hb hby d2_55) rfl kx) ?_
  show OwnOk p e below _ (T31.setTop (mkF m 57 #[.val (.ref a), .val (.long q1), .second, .val (.long q2), .second, .val (.long q3), .second, .val (.long q4), .second, .val (.long q5), .second, .val (.long q6), .second, .val (.ref b12), .val (.int (6 : Int32)), .val (.int (3 : Int32)), .val (.long q3), .second] [(.int (3 : Int32)), (.ref b12)]))
  obtain ⟨cl40, Ar40, qc40, Sz40, Nn40, Hs40, Gf40⟩ := id V_b12_31
  have hin40 : ¬ ((3 : Int32) < 0 ∨ cl40.slots.size ≤ ((3 : Int32)).toNatClampNeg) := inb_of Sz40 ⟨by decide, by decide⟩
  have hat40 : cl40.slots[((3 : Int32)).toNatClampNeg]? = some (.long q4) := Hs40.at hin40 rfl
  refine own_up (fun tx kx => X31.laload hx (j := (3 : Int32)) (v := (.long q4)) (own_ar e31 Ar40.1) (State.isArrayOf_alike hZ.alike Ar40.2.1) Ar40.2.2 hin40 hat40 (g := (mkF m 57 #[.val (.ref a), .val (.long q1), .second, .val (.long q2), .second, .val (.long q3), .second, .val (.long q4), .second, .val (.long q5), .second, .val (.long q6), .second, .val (.ref b12), .val (.int (6 : Int32)), .val (.int (3 : Int32)), .val (.long q3), .second] [(.int (3 : Int32)), (.ref b12)])) rfl rfl (hb hby d2_57) _ kx) ?_
  show OwnOk p e below _ (T31.setTop (mkF m 58 #[.val (.ref a), .val (.long q1), .second, .val (.long q2), .second, .val (.long q3), .second, .val (.long q4), .second, .val (.long q5), .second, .val (.long q6), .second, .val (.ref b12), .val (.int (6 : Int32)), .val (.int (3 : Int32)), .val (.long q3), .second] [(.long q4)]))
  refine own_up (fun tx kx => XS.lstore X31.here hx rfl (hb hby d2_58) rfl (l' := #[.val (.ref a), .val (.long q1), .second, .val (.long q2), .second, .val (.long q3), .second, .val (.long q4), .second, .val (.long q5), .second, .val (.long q6), .second, .val (.ref b12), .val (.int (6 : Int32)), .val (.int (3 : Int32)), .val (.long q4), .second]) rfl kx) ?_
  show OwnOk p e below _ (T31.setTop (mkF m 60 #[.val (.ref a), .val (.long q1), .second, .val (.long q2), .second, .val (.long q3), .second, .val (.long q4), .second, .val (.long q5), .second, .val (.long q6), .second, .val (.ref b12), .val (.int (6 : Int32)), .val (.int (3 : Int32)), .val (.long q4), .second] []))
  have sg4 : ∀ tx, Steps p.tables e below (T31.setTop (mkF m 91 #[.val (.ref a), .val (.long q1), .second, .val (.long q2), .second, .val (.long q3), .second, .val (.long q4), .second, .val (.long q5), .second, .val (.long q6), .second, .val (.ref b12), .val (.int (6 : Int32)), .val (.int (3 : Int32)), .val (.long q4), .second] [])) tx → Steps p.tables e below (T31.setTop (mkF m 60 #[.val (.ref a), .val (.long q1), .second, .val (.long q2), .second, .val (.long q3), .second, .val (.long q4), .second, .val (.long q5), .second, .val (.long q6), .second, .val (.ref b12), .val (.int (6 : Int32)), .val (.int (3 : Int32)), .val (.long q4), .second] [])) tx := by
    intro tx kk
    show Steps p.tables e below (T31.setTop (mkF m 60 #[.val (.ref a), .val (.long q1), .second, .val (.long q2), .second, .val (.long q3), .second, .val (.long q4), .second, .val (.long q5), .second, .val (.long q6), .second, .val (.ref b12), .val (.int (6 : Int32)), .val (.int (3 : Int32)), .val (.long q4), .second] [])) _
    refine XS.lload X31.here hx rfl (hb hby d2_60) rfl ?_
    show Steps p.tables e below (T31.setTop (mkF m 62 #[.val (.ref a), .val (.long q1), .second, .val (.long q2), .second, .val (.long q3), .second, .val (.long q4), .second, .val (.long q5), .second, .val (.long q6), .second, .val (.ref b12), .val (.int (6 : Int32)), .val (.int (3 : Int32)), .val (.long q4), .second] [(.long q4)])) _
    refine XS.lconst X31.here hx rfl (hb hby d2_62) ?_
    show Steps p.tables e below (T31.setTop (mkF m 63 #[.val (.ref a), .val (.long q1), .second, .val (.long q2), .second, .val (.long q3), .second, .val (.long q4), .second, .val (.long q5), .second, .val (.long q6), .second, .val (.ref b12), .val (.int (6 : Int32)), .val (.int (3 : Int32)), .val (.long q4), .second] [(.long (1 : Int64)), (.long q4)])) _
    refine XS.lcmp X31.here hx rfl (hb hby d2_63) rfl ?_
    show Steps p.tables e below (T31.setTop (mkF m 64 #[.val (.ref a), .val (.long q1), .second, .val (.long q2), .second, .val (.long q3), .second, .val (.long q4), .second, .val (.long q5), .second, .val (.long q6), .second, .val (.ref b12), .val (.int (6 : Int32)), .val (.int (3 : Int32)), .val (.long q4), .second] [(.int (lcmpW q4 (1 : Int64)))])) _
    by_cases hl : q4 < (1 : Int64)
    · refine XS.ifNo X31.here hx rfl (hb hby d2_64) rfl (own_jtlt hl).2.1 ?_
      show Steps p.tables e below (T31.setTop (mkF m 67 #[.val (.ref a), .val (.long q1), .second, .val (.long q2), .second, .val (.long q3), .second, .val (.long q4), .second, .val (.long q5), .second, .val (.long q6), .second, .val (.ref b12), .val (.int (6 : Int32)), .val (.int (3 : Int32)), .val (.long q4), .second] [])) _
      refine XS.lload X31.here hx rfl (hb hby d2_67) rfl ?_
      show Steps p.tables e below (T31.setTop (mkF m 69 #[.val (.ref a), .val (.long q1), .second, .val (.long q2), .second, .val (.long q3), .second, .val (.long q4), .second, .val (.long q5), .second, .val (.long q6), .second, .val (.ref b12), .val (.int (6 : Int32)), .val (.int (3 : Int32)), .val (.long q4), .second] [(.long q4)])) _
      refine X31.ldc2Long hx hown (mvT hZ (wd_21 hw)) (g := (mkF m 69 #[.val (.ref a), .val (.long q1), .second, .val (.long q2), .second, .val (.long q3), .second, .val (.long q4), .second, .val (.long q5), .second, .val (.long q6), .second, .val (.ref b12), .val (.int (6 : Int32)), .val (.int (3 : Int32)), .val (.long q4), .second] [(.long q4)])) rfl (hb hby d2_69) _ ?_
      show Steps p.tables e below (T31.setTop (mkF m 72 #[.val (.ref a), .val (.long q1), .second, .val (.long q2), .second, .val (.long q3), .second, .val (.long q4), .second, .val (.long q5), .second, .val (.long q6), .second, .val (.ref b12), .val (.int (6 : Int32)), .val (.int (3 : Int32)), .val (.long q4), .second] [(.long (-1 : Int64)), (.long q4)])) _
      refine XS.lcmp X31.here hx rfl (hb hby d2_72) rfl ?_
      show Steps p.tables e below (T31.setTop (mkF m 73 #[.val (.ref a), .val (.long q1), .second, .val (.long q2), .second, .val (.long q3), .second, .val (.long q4), .second, .val (.long q5), .second, .val (.long q6), .second, .val (.ref b12), .val (.int (6 : Int32)), .val (.int (3 : Int32)), .val (.long q4), .second] [(.int (lcmpW q4 (-1 : Int64)))])) _
      refine XS.ifYes X31.here hx rfl (pc0 := 73) (pc' := 91) rfl (hb hby d2_73) rfl (own_jteq (k4.resolve_right fun q => q hl)).1 (by decide) (by decide) ?_
      show Steps p.tables e below (T31.setTop (mkF m 91 #[.val (.ref a), .val (.long q1), .second, .val (.long q2), .second, .val (.long q3), .second, .val (.long q4), .second, .val (.long q5), .second, .val (.long q6), .second, .val (.ref b12), .val (.int (6 : Int32)), .val (.int (3 : Int32)), .val (.long q4), .second] [])) _
      exact kk
    · refine XS.ifYes X31.here hx rfl (pc0 := 64) (pc' := 91) rfl (hb hby d2_64) rfl (own_jflt hl).2.1 (by decide) (by decide) ?_
      show Steps p.tables e below (T31.setTop (mkF m 91 #[.val (.ref a), .val (.long q1), .second, .val (.long q2), .second, .val (.long q3), .second, .val (.long q4), .second, .val (.long q5), .second, .val (.long q6), .second, .val (.ref b12), .val (.int (6 : Int32)), .val (.int (3 : Int32)), .val (.long q4), .second] [])) _
      exact kk
  refine own_up sg4 ?_
  show OwnOk p e below _ (T31.setTop (mkF m 91 #[.val (.ref a), .val (.long q1), .second, .val (.long q2), .second, .val (.long q3), .second, .val (.long q4), .second, .val (.long q5), .second, .val (.long q6), .second, .val (.ref b12), .val (.int (6 : Int32)), .val (.int (3 : Int32)), .val (.long q4), .second] []))
  have hi91_41 : ((3 : Int32) + (1 : Int32)) = (4 : Int32) := by decide
  refine own_up (fun tx kx => XS.iinc X31.here hx rfl (hb hby d2_91) rfl (l' := #[.val (.ref a), .val (.long q1), .second, .val (.long q2), .second, .val (.long q3), .second, .val (.long q4), .second, .val (.long q5), .second, .val (.long q6), .second, .val (.ref b12), .val (.int (6 : Int32)), .val (.int ((3 : Int32) + (1 : Int32))), .val (.long q4), .second]) rfl kx) ?_
  rw [hi91_41]
  show OwnOk p e below _ (T31.setTop (mkF m 94 #[.val (.ref a), .val (.long q1), .second, .val (.long q2), .second, .val (.long q3), .second, .val (.long q4), .second, .val (.long q5), .second, .val (.long q6), .second, .val (.ref b12), .val (.int (6 : Int32)), .val (.int (4 : Int32)), .val (.long q4), .second] []))
  refine own_up (fun tx kx => XS.goto X31.here hx rfl (pc0 := 94) (pc' := 46) rfl (hb hby d2_94) (by decide) (by decide) kx) ?_
  show OwnOk p e below _ (T31.setTop (mkF m 46 #[.val (.ref a), .val (.long q1), .second, .val (.long q2), .second, .val (.long q3), .second, .val (.long q4), .second, .val (.long q5), .second, .val (.long q6), .second, .val (.ref b12), .val (.int (6 : Int32)), .val (.int (4 : Int32)), .val (.long q4), .second] []))
  refine own_up (fun tx kx => XS.iload X31.here hx rfl (hb hby d2_46) rfl kx) ?_
  show OwnOk p e below _ (T31.setTop (mkF m 48 #[.val (.ref a), .val (.long q1), .second, .val (.long q2), .second, .val (.long q3), .second, .val (.long q4), .second, .val (.long q5), .second, .val (.long q6), .second, .val (.ref b12), .val (.int (6 : Int32)), .val (.int (4 : Int32)), .val (.long q4), .second] [(.int (4 : Int32))]))
  refine own_up (fun tx kx => XS.iload X31.here hx rfl (hb hby d2_48) rfl kx) ?_
  show OwnOk p e below _ (T31.setTop (mkF m 50 #[.val (.ref a), .val (.long q1), .second, .val (.long q2), .second, .val (.long q3), .second, .val (.long q4), .second, .val (.long q5), .second, .val (.long q6), .second, .val (.ref b12), .val (.int (6 : Int32)), .val (.int (4 : Int32)), .val (.long q4), .second] [(.int (6 : Int32)), (.int (4 : Int32))]))
  refine own_up (fun tx kx => XS.icmpNo X31.here hx rfl (hb hby d2_50) rfl (tlt (by decide)).2.1 kx) ?_
  show OwnOk p e below _ (T31.setTop (mkF m 53 #[.val (.ref a), .val (.long q1), .second, .val (.long q2), .second, .val (.long q3), .second, .val (.long q4), .second, .val (.long q5), .second, .val (.long q6), .second, .val (.ref b12), .val (.int (6 : Int32)), .val (.int (4 : Int32)), .val (.long q4), .second] []))
  refine own_up (fun tx kx => XS.aload X31.here hx rfl (hb hby d2_53) rfl rfl kx) ?_
  show OwnOk p e below _ (T31.setTop (mkF m 55 #[.val (.ref a), .val (.long q1), .second, .val (.long q2), .second, .val (.long q3), .second, .val (.long q4), .second, .val (.long q5), .second, .val (.long q6), .second, .val (.ref b12), .val (.int (6 : Int32)), .val (.int (4 : Int32)), .val (.long q4), .second] [(.ref b12)]))
  refine own_up (fun tx kx => XS.iload X31.here hx rfl (hb hby d2_55) rfl kx) ?_
  show OwnOk p e below _ (T31.setTop (mkF m 57 #[.val (.ref a), .val (.long q1), .second, .val (.long q2), .second, .val (.long q3), .second, .val (.long q4), .second, .val (.long q5), .second, .val (.long q6), .second, .val (.ref b12), .val (.int (6 : Int32)), .val (.int (4 : Int32)), .val (.long q4), .second] [(.int (4 : Int32)), (.ref b12)]))
  obtain ⟨cl42, Ar42, qc42, Sz42, Nn42, Hs42, Gf42⟩ := id V_b12_31
  have hin42 : ¬ ((4 : Int32) < 0 ∨ cl42.slots.size ≤ ((4 : Int32)).toNatClampNeg) := inb_of Sz42 ⟨by decide, by decide⟩
  have hat42 : cl42.slots[((4 : Int32)).toNatClampNeg]? = some (.long q5) := Hs42.at hin42 rfl
  refine own_up (fun tx kx => X31.laload hx (j := (4 : Int32)) (v := (.long q5)) (own_ar e31 Ar42.1) (State.isArrayOf_alike hZ.alike Ar42.2.1) Ar42.2.2 hin42 hat42 (g := (mkF m 57 #[.val (.ref a), .val (.long q1), .second, .val (.long q2), .second, .val (.long q3), .second, .val (.long q4), .second, .val (.long q5), .second, .val (.long q6), .second, .val (.ref b12), .val (.int (6 : Int32)), .val (.int (4 : Int32)), .val (.long q4), .second] [(.int (4 : Int32)), (.ref b12)])) rfl rfl (hb hby d2_57) _ kx) ?_
  show OwnOk p e below _ (T31.setTop (mkF m 58 #[.val (.ref a), .val (.long q1), .second, .val (.long q2), .second, .val (.long q3), .second, .val (.long q4), .second, .val (.long q5), .second, .val (.long q6), .second, .val (.ref b12), .val (.int (6 : Int32)), .val (.int (4 : Int32)), .val (.long q4), .second] [(.long q5)]))
  refine own_up (fun tx kx => XS.lstore X31.here hx rfl (hb hby d2_58) rfl (l' := #[.val (.ref a), .val (.long q1), .second, .val (.long q2), .second, .val (.long q3), .second, .val (.long q4), .second, .val (.long q5), .second, .val (.long q6), .second, .val (.ref b12), .val (.int (6 : Int32)), .val (.int (4 : Int32)), .val (.long q5), .second]) rfl kx) ?_
  show OwnOk p e below _ (T31.setTop (mkF m 60 #[.val (.ref a), .val (.long q1), .second, .val (.long q2), .second, .val (.long q3), .second, .val (.long q4), .second, .val (.long q5), .second, .val (.long q6), .second, .val (.ref b12), .val (.int (6 : Int32)), .val (.int (4 : Int32)), .val (.long q5), .second] []))
  have sg5 : ∀ tx, Steps p.tables e below (T31.setTop (mkF m 91 #[.val (.ref a), .val (.long q1), .second, .val (.long q2), .second, .val (.long q3), .second, .val (.long q4), .second, .val (.long q5), .second, .val (.long q6), .second, .val (.ref b12), .val (.int (6 : Int32)), .val (.int (4 : Int32)), .val (.long q5), .second] [])) tx → Steps p.tables e below (T31.setTop (mkF m 60 #[.val (.ref a), .val (.long q1), .second, .val (.long q2), .second, .val (.long q3), .second, .val (.long q4), .second, .val (.long q5), .second, .val (.long q6), .second, .val (.ref b12), .val (.int (6 : Int32)), .val (.int (4 : Int32)), .val (.long q5), .second] [])) tx := by
    intro tx kk
    show Steps p.tables e below (T31.setTop (mkF m 60 #[.val (.ref a), .val (.long q1), .second, .val (.long q2), .second, .val (.long q3), .second, .val (.long q4), .second, .val (.long q5), .second, .val (.long q6), .second, .val (.ref b12), .val (.int (6 : Int32)), .val (.int (4 : Int32)), .val (.long q5), .second] [])) _
    refine XS.lload X31.here hx rfl (hb hby d2_60) rfl ?_
    show Steps p.tables e below (T31.setTop (mkF m 62 #[.val (.ref a), .val (.long q1), .second, .val (.long q2), .second, .val (.long q3), .second, .val (.long q4), .second, .val (.long q5), .second, .val (.long q6), .second, .val (.ref b12), .val (.int (6 : Int32)), .val (.int (4 : Int32)), .val (.long q5), .second] [(.long q5)])) _
    refine XS.lconst X31.here hx rfl (hb hby d2_62) ?_
    show Steps p.tables e below (T31.setTop (mkF m 63 #[.val (.ref a), .val (.long q1), .second, .val (.long q2), .second, .val (.long q3), .second, .val (.long q4), .second, .val (.long q5), .second, .val (.long q6), .second, .val (.ref b12), .val (.int (6 : Int32)), .val (.int (4 : Int32)), .val (.long q5), .second] [(.long (1 : Int64)), (.long q5)])) _
    refine XS.lcmp X31.here hx rfl (hb hby d2_63) rfl ?_
    show Steps p.tables e below (T31.setTop (mkF m 64 #[.val (.ref a), .val (.long q1), .second, .val (.long q2), .second, .val (.long q3), .second, .val (.long q4), .second, .val (.long q5), .second, .val (.long q6), .second, .val (.ref b12), .val (.int (6 : Int32)), .val (.int (4 : Int32)), .val (.long q5), .second] [(.int (lcmpW q5 (1 : Int64)))])) _
    by_cases hl : q5 < (1 : Int64)
    · refine XS.ifNo X31.here hx rfl (hb hby d2_64) rfl (own_jtlt hl).2.1 ?_
      show Steps p.tables e below (T31.setTop (mkF m 67 #[.val (.ref a), .val (.long q1), .second, .val (.long q2), .second, .val (.long q3), .second, .val (.long q4), .second, .val (.long q5), .second, .val (.long q6), .second, .val (.ref b12), .val (.int (6 : Int32)), .val (.int (4 : Int32)), .val (.long q5), .second] [])) _
      refine XS.lload X31.here hx rfl (hb hby d2_67) rfl ?_
      show Steps p.tables e below (T31.setTop (mkF m 69 #[.val (.ref a), .val (.long q1), .second, .val (.long q2), .second, .val (.long q3), .second, .val (.long q4), .second, .val (.long q5), .second, .val (.long q6), .second, .val (.ref b12), .val (.int (6 : Int32)), .val (.int (4 : Int32)), .val (.long q5), .second] [(.long q5)])) _
      refine X31.ldc2Long hx hown (mvT hZ (wd_21 hw)) (g := (mkF m 69 #[.val (.ref a), .val (.long q1), .second, .val (.long q2), .second, .val (.long q3), .second, .val (.long q4), .second, .val (.long q5), .second, .val (.long q6), .second, .val (.ref b12), .val (.int (6 : Int32)), .val (.int (4 : Int32)), .val (.long q5), .second] [(.long q5)])) rfl (hb hby d2_69) _ ?_
      show Steps p.tables e below (T31.setTop (mkF m 72 #[.val (.ref a), .val (.long q1), .second, .val (.long q2), .second, .val (.long q3), .second, .val (.long q4), .second, .val (.long q5), .second, .val (.long q6), .second, .val (.ref b12), .val (.int (6 : Int32)), .val (.int (4 : Int32)), .val (.long q5), .second] [(.long (-1 : Int64)), (.long q5)])) _
      refine XS.lcmp X31.here hx rfl (hb hby d2_72) rfl ?_
      show Steps p.tables e below (T31.setTop (mkF m 73 #[.val (.ref a), .val (.long q1), .second, .val (.long q2), .second, .val (.long q3), .second, .val (.long q4), .second, .val (.long q5), .second, .val (.long q6), .second, .val (.ref b12), .val (.int (6 : Int32)), .val (.int (4 : Int32)), .val (.long q5), .second] [(.int (lcmpW q5 (-1 : Int64)))])) _
      refine XS.ifYes X31.here hx rfl (pc0 := 73) (pc' := 91) rfl (hb hby d2_73) rfl (own_jteq (k5.resolve_right fun q => q hl)).1 (by decide) (by decide) ?_
      show Steps p.tables e below (T31.setTop (mkF m 91 #[.val (.ref a), .val (.long q1), .second, .val (.long q2), .second, .val (.long q3), .second, .val (.long q4), .second, .val (.long q5), .second, .val (.long q6), .second, .val (.ref b12), .val (.int (6 : Int32)), .val (.int (4 : Int32)), .val (.long q5), .second] [])) _
      exact kk
    · refine XS.ifYes X31.here hx rfl (pc0 := 64) (pc' := 91) rfl (hb hby d2_64) rfl (own_jflt hl).2.1 (by decide) (by decide) ?_
      show Steps p.tables e below (T31.setTop (mkF m 91 #[.val (.ref a), .val (.long q1), .second, .val (.long q2), .second, .val (.long q3), .second, .val (.long q4), .second, .val (.long q5), .second, .val (.long q6), .second, .val (.ref b12), .val (.int (6 : Int32)), .val (.int (4 : Int32)), .val (.long q5), .second] [])) _
      exact kk
  refine own_up sg5 ?_
  show OwnOk p e below _ (T31.setTop (mkF m 91 #[.val (.ref a), .val (.long q1), .second, .val (.long q2), .second, .val (.long q3), .second, .val (.long q4), .second, .val (.long q5), .second, .val (.long q6), .second, .val (.ref b12), .val (.int (6 : Int32)), .val (.int (4 : Int32)), .val (.long q5), .second] []))
  have hi91_43 : ((4 : Int32) + (1 : Int32)) = (5 : Int32) := by decide
  refine own_up (fun tx kx => XS.iinc X31.here hx rfl (hb hby d2_91) rfl (l' := #[.val (.ref a), .val (.long q1), .second, .val (.long q2), .second, .val (.long q3), .second, .val (.long q4), .second, .val (.long q5), .second, .val (.long q6), .second, .val (.ref b12), .val (.int (6 : Int32)), .val (.int ((4 : Int32) + (1 : Int32))), .val (.long q5), .second]) rfl kx) ?_
  rw [hi91_43]
  show OwnOk p e below _ (T31.setTop (mkF m 94 #[.val (.ref a), .val (.long q1), .second, .val (.long q2), .second, .val (.long q3), .second, .val (.long q4), .second, .val (.long q5), .second, .val (.long q6), .second, .val (.ref b12), .val (.int (6 : Int32)), .val (.int (5 : Int32)), .val (.long q5), .second] []))
  refine own_up (fun tx kx => XS.goto X31.here hx rfl (pc0 := 94) (pc' := 46) rfl (hb hby d2_94) (by decide) (by decide) kx) ?_
  show OwnOk p e below _ (T31.setTop (mkF m 46 #[.val (.ref a), .val (.long q1), .second, .val (.long q2), .second, .val (.long q3), .second, .val (.long q4), .second, .val (.long q5), .second, .val (.long q6), .second, .val (.ref b12), .val (.int (6 : Int32)), .val (.int (5 : Int32)), .val (.long q5), .second] []))
  refine own_up (fun tx kx => XS.iload X31.here hx rfl (hb hby d2_46) rfl kx) ?_
  show OwnOk p e below _ (T31.setTop (mkF m 48 #[.val (.ref a), .val (.long q1), .second, .val (.long q2), .second, .val (.long q3), .second, .val (.long q4), .second, .val (.long q5), .second, .val (.long q6), .second, .val (.ref b12), .val (.int (6 : Int32)), .val (.int (5 : Int32)), .val (.long q5), .second] [(.int (5 : Int32))]))
  refine own_up (fun tx kx => XS.iload X31.here hx rfl (hb hby d2_48) rfl kx) ?_
  show OwnOk p e below _ (T31.setTop (mkF m 50 #[.val (.ref a), .val (.long q1), .second, .val (.long q2), .second, .val (.long q3), .second, .val (.long q4), .second, .val (.long q5), .second, .val (.long q6), .second, .val (.ref b12), .val (.int (6 : Int32)), .val (.int (5 : Int32)), .val (.long q5), .second] [(.int (6 : Int32)), (.int (5 : Int32))]))
  refine own_up (fun tx kx => XS.icmpNo X31.here hx rfl (hb hby d2_50) rfl (tlt (by decide)).2.1 kx) ?_
  show OwnOk p e below _ (T31.setTop (mkF m 53 #[.val (.ref a), .val (.long q1), .second, .val (.long q2), .second, .val (.long q3), .second, .val (.long q4), .second, .val (.long q5), .second, .val (.long q6), .second, .val (.ref b12), .val (.int (6 : Int32)), .val (.int (5 : Int32)), .val (.long q5), .second] []))
  refine own_up (fun tx kx => XS.aload X31.here hx rfl (hb hby d2_53) rfl rfl kx) ?_
  show OwnOk p e below _ (T31.setTop (mkF m 55 #[.val (.ref a), .val (.long q1), .second, .val (.long q2), .second, .val (.long q3), .second, .val (.long q4), .second, .val (.long q5), .second, .val (.long q6), .second, .val (.ref b12), .val (.int (6 : Int32)), .val (.int (5 : Int32)), .val (.long q5), .second] [(.ref b12)]))
  refine own_up (fun tx kx => XS.iload X31.here hx rfl (hb hby d2_55) rfl kx) ?_
  show OwnOk p e below _ (T31.setTop (mkF m 57 #[.val (.ref a), .val (.long q1), .second, .val (.long q2), .second, .val (.long q3), .second, .val (.long q4), .second, .val (.long q5), .second, .val (.long q6), .second, .val (.ref b12), .val (.int (6 : Int32)), .val (.int (5 : Int32)), .val (.long q5), .second] [(.int (5 : Int32)), (.ref b12)]))
  obtain ⟨cl44, Ar44, qc44, Sz44, Nn44, Hs44, Gf44⟩ := id V_b12_31
  have hin44 : ¬ ((5 : Int32) < 0 ∨ cl44.slots.size ≤ ((5 : Int32)).toNatClampNeg) := inb_of Sz44 ⟨by decide, by decide⟩
  have hat44 : cl44.slots[((5 : Int32)).toNatClampNeg]? = some (.long q6) := Hs44.at hin44 rfl
  refine own_up (fun tx kx => X31.laload hx (j := (5 : Int32)) (v := (.long q6)) (own_ar e31 Ar44.1) (State.isArrayOf_alike hZ.alike Ar44.2.1) Ar44.2.2 hin44 hat44 (g := (mkF m 57 #[.val (.ref a), .val (.long q1), .second, .val (.long q2), .second, .val (.long q3), .second, .val (.long q4), .second, .val (.long q5), .second, .val (.long q6), .second, .val (.ref b12), .val (.int (6 : Int32)), .val (.int (5 : Int32)), .val (.long q5), .second] [(.int (5 : Int32)), (.ref b12)])) rfl rfl (hb hby d2_57) _ kx) ?_
  show OwnOk p e below _ (T31.setTop (mkF m 58 #[.val (.ref a), .val (.long q1), .second, .val (.long q2), .second, .val (.long q3), .second, .val (.long q4), .second, .val (.long q5), .second, .val (.long q6), .second, .val (.ref b12), .val (.int (6 : Int32)), .val (.int (5 : Int32)), .val (.long q5), .second] [(.long q6)]))
  refine own_up (fun tx kx => XS.lstore X31.here hx rfl (hb hby d2_58) rfl (l' := #[.val (.ref a), .val (.long q1), .second, .val (.long q2), .second, .val (.long q3), .second, .val (.long q4), .second, .val (.long q5), .second, .val (.long q6), .second, .val (.ref b12), .val (.int (6 : Int32)), .val (.int (5 : Int32)), .val (.long q6), .second]) rfl kx) ?_
  show OwnOk p e below _ (T31.setTop (mkF m 60 #[.val (.ref a), .val (.long q1), .second, .val (.long q2), .second, .val (.long q3), .second, .val (.long q4), .second, .val (.long q5), .second, .val (.long q6), .second, .val (.ref b12), .val (.int (6 : Int32)), .val (.int (5 : Int32)), .val (.long q6), .second] []))
  have sg6 : ∀ tx, Steps p.tables e below (T31.setTop (mkF m 91 #[.val (.ref a), .val (.long q1), .second, .val (.long q2), .second, .val (.long q3), .second, .val (.long q4), .second, .val (.long q5), .second, .val (.long q6), .second, .val (.ref b12), .val (.int (6 : Int32)), .val (.int (5 : Int32)), .val (.long q6), .second] [])) tx → Steps p.tables e below (T31.setTop (mkF m 60 #[.val (.ref a), .val (.long q1), .second, .val (.long q2), .second, .val (.long q3), .second, .val (.long q4), .second, .val (.long q5), .second, .val (.long q6), .second, .val (.ref b12), .val (.int (6 : Int32)), .val (.int (5 : Int32)), .val (.long q6), .second] [])) tx := by
    intro tx kk
    show Steps p.tables e below (T31.setTop (mkF m 60 #[.val (.ref a), .val (.long q1), .second, .val (.long q2), .second, .val (.long q3), .second, .val (.long q4), .second, .val (.long q5), .second, .val (.long q6), .second, .val (.ref b12), .val (.int (6 : Int32)), .val (.int (5 : Int32)), .val (.long q6), .second] [])) _
    refine XS.lload X31.here hx rfl (hb hby d2_60) rfl ?_
    show Steps p.tables e below (T31.setTop (mkF m 62 #[.val (.ref a), .val (.long q1), .second, .val (.long q2), .second, .val (.long q3), .second, .val (.long q4), .second, .val (.long q5), .second, .val (.long q6), .second, .val (.ref b12), .val (.int (6 : Int32)), .val (.int (5 : Int32)), .val (.long q6), .second] [(.long q6)])) _
    refine XS.lconst X31.here hx rfl (hb hby d2_62) ?_
    show Steps p.tables e below (T31.setTop (mkF m 63 #[.val (.ref a), .val (.long q1), .second, .val (.long q2), .second, .val (.long q3), .second, .val (.long q4), .second, .val (.long q5), .second, .val (.long q6), .second, .val (.ref b12), .val (.int (6 : Int32)), .val (.int (5 : Int32)), .val (.long q6), .second] [(.long (1 : Int64)), (.long q6)])) _
    refine XS.lcmp X31.here hx rfl (hb hby d2_63) rfl ?_
    show Steps p.tables e below (T31.setTop (mkF m 64 #[.val (.ref a), .val (.long q1), .second, .val (.long q2), .second, .val (.long q3), .second, .val (.long q4), .second, .val (.long q5), .second, .val (.long q6), .second, .val (.ref b12), .val (.int (6 : Int32)), .val (.int (5 : Int32)), .val (.long q6), .second] [(.int (lcmpW q6 (1 : Int64)))])) _
    by_cases hl : q6 < (1 : Int64)
    · refine XS.ifNo X31.here hx rfl (hb hby d2_64) rfl (own_jtlt hl).2.1 ?_
      show Steps p.tables e below (T31.setTop (mkF m 67 #[.val (.ref a), .val (.long q1), .second, .val (.long q2), .second, .val (.long q3), .second, .val (.long q4), .second, .val (.long q5), .second, .val (.long q6), .second, .val (.ref b12), .val (.int (6 : Int32)), .val (.int (5 : Int32)), .val (.long q6), .second] [])) _
      refine XS.lload X31.here hx rfl (hb hby d2_67) rfl ?_
      show Steps p.tables e below (T31.setTop (mkF m 69 #[.val (.ref a), .val (.long q1), .second, .val (.long q2), .second, .val (.long q3), .second, .val (.long q4), .second, .val (.long q5), .second, .val (.long q6), .second, .val (.ref b12), .val (.int (6 : Int32)), .val (.int (5 : Int32)), .val (.long q6), .second] [(.long q6)])) _
      refine X31.ldc2Long hx hown (mvT hZ (wd_21 hw)) (g := (mkF m 69 #[.val (.ref a), .val (.long q1), .second, .val (.long q2), .second, .val (.long q3), .second, .val (.long q4), .second, .val (.long q5), .second, .val (.long q6), .second, .val (.ref b12), .val (.int (6 : Int32)), .val (.int (5 : Int32)), .val (.long q6), .second] [(.long q6)])) rfl (hb hby d2_69) _ ?_
      show Steps p.tables e below (T31.setTop (mkF m 72 #[.val (.ref a), .val (.long q1), .second, .val (.long q2), .second, .val (.long q3), .second, .val (.long q4), .second, .val (.long q5), .second, .val (.long q6), .second, .val (.ref b12), .val (.int (6 : Int32)), .val (.int (5 : Int32)), .val (.long q6), .second] [(.long (-1 : Int64)), (.long q6)])) _
      refine XS.lcmp X31.here hx rfl (hb hby d2_72) rfl ?_
      show Steps p.tables e below (T31.setTop (mkF m 73 #[.val (.ref a), .val (.long q1), .second, .val (.long q2), .second, .val (.long q3), .second, .val (.long q4), .second, .val (.long q5), .second, .val (.long q6), .second, .val (.ref b12), .val (.int (6 : Int32)), .val (.int (5 : Int32)), .val (.long q6), .second] [(.int (lcmpW q6 (-1 : Int64)))])) _
      refine XS.ifYes X31.here hx rfl (pc0 := 73) (pc' := 91) rfl (hb hby d2_73) rfl (own_jteq (k6.resolve_right fun q => q hl)).1 (by decide) (by decide) ?_
      show Steps p.tables e below (T31.setTop (mkF m 91 #[.val (.ref a), .val (.long q1), .second, .val (.long q2), .second, .val (.long q3), .second, .val (.long q4), .second, .val (.long q5), .second, .val (.long q6), .second, .val (.ref b12), .val (.int (6 : Int32)), .val (.int (5 : Int32)), .val (.long q6), .second] [])) _
      exact kk
    · refine XS.ifYes X31.here hx rfl (pc0 := 64) (pc' := 91) rfl (hb hby d2_64) rfl (own_jflt hl).2.1 (by decide) (by decide) ?_
      show Steps p.tables e below (T31.setTop (mkF m 91 #[.val (.ref a), .val (.long q1), .second, .val (.long q2), .second, .val (.long q3), .second, .val (.long q4), .second, .val (.long q5), .second, .val (.long q6), .second, .val (.ref b12), .val (.int (6 : Int32)), .val (.int (5 : Int32)), .val (.long q6), .second] [])) _
      exact kk
  refine own_up sg6 ?_
  show OwnOk p e below _ (T31.setTop (mkF m 91 #[.val (.ref a), .val (.long q1), .second, .val (.long q2), .second, .val (.long q3), .second, .val (.long q4), .second, .val (.long q5), .second, .val (.long q6), .second, .val (.ref b12), .val (.int (6 : Int32)), .val (.int (5 : Int32)), .val (.long q6), .second] []))
  have hi91_45 : ((5 : Int32) + (1 : Int32)) = (6 : Int32) := by decide
  refine own_up (fun tx kx => XS.iinc X31.here hx rfl (hb hby d2_91) rfl (l' := #[.val (.ref a), .val (.long q1), .second, .val (.long q2), .second, .val (.long q3), .second, .val (.long q4), .second, .val (.long q5), .second, .val (.long q6), .second, .val (.ref b12), .val (.int (6 : Int32)), .val (.int ((5 : Int32) + (1 : Int32))), .val (.long q6), .second]) rfl kx) ?_
  rw [hi91_45]
  show OwnOk p e below _ (T31.setTop (mkF m 94 #[.val (.ref a), .val (.long q1), .second, .val (.long q2), .second, .val (.long q3), .second, .val (.long q4), .second, .val (.long q5), .second, .val (.long q6), .second, .val (.ref b12), .val (.int (6 : Int32)), .val (.int (6 : Int32)), .val (.long q6), .second] []))
  refine own_up (fun tx kx => XS.goto X31.here hx rfl (pc0 := 94) (pc' := 46) rfl (hb hby d2_94) (by decide) (by decide) kx) ?_
  show OwnOk p e below _ (T31.setTop (mkF m 46 #[.val (.ref a), .val (.long q1), .second, .val (.long q2), .second, .val (.long q3), .second, .val (.long q4), .second, .val (.long q5), .second, .val (.long q6), .second, .val (.ref b12), .val (.int (6 : Int32)), .val (.int (6 : Int32)), .val (.long q6), .second] []))
  refine own_up (fun tx kx => XS.iload X31.here hx rfl (hb hby d2_46) rfl kx) ?_
  show OwnOk p e below _ (T31.setTop (mkF m 48 #[.val (.ref a), .val (.long q1), .second, .val (.long q2), .second, .val (.long q3), .second, .val (.long q4), .second, .val (.long q5), .second, .val (.long q6), .second, .val (.ref b12), .val (.int (6 : Int32)), .val (.int (6 : Int32)), .val (.long q6), .second] [(.int (6 : Int32))]))
  refine own_up (fun tx kx => XS.iload X31.here hx rfl (hb hby d2_48) rfl kx) ?_
  show OwnOk p e below _ (T31.setTop (mkF m 50 #[.val (.ref a), .val (.long q1), .second, .val (.long q2), .second, .val (.long q3), .second, .val (.long q4), .second, .val (.long q5), .second, .val (.long q6), .second, .val (.ref b12), .val (.int (6 : Int32)), .val (.int (6 : Int32)), .val (.long q6), .second] [(.int (6 : Int32)), (.int (6 : Int32))]))
  refine own_up (fun tx kx => XS.icmpYes X31.here hx rfl (pc0 := 50) (pc' := 97) rfl (hb hby d2_50) rfl (flt (by decide)).2.1 (by decide) (by decide) kx) ?_
  show OwnOk p e below _ (T31.setTop (mkF m 97 #[.val (.ref a), .val (.long q1), .second, .val (.long q2), .second, .val (.long q3), .second, .val (.long q4), .second, .val (.long q5), .second, .val (.long q6), .second, .val (.ref b12), .val (.int (6 : Int32)), .val (.int (6 : Int32)), .val (.long q6), .second] []))
  refine own_up (fun tx kx => XS.aloadN X31.here hx rfl (hb hby d2_97) rfl rfl kx) ?_
  show OwnOk p e below _ (T31.setTop (mkF m 98 #[.val (.ref a), .val (.long q1), .second, .val (.long q2), .second, .val (.long q3), .second, .val (.long q4), .second, .val (.long q5), .second, .val (.long q6), .second, .val (.ref b12), .val (.int (6 : Int32)), .val (.int (6 : Int32)), .val (.long q6), .second] [(.ref a)]))
  refine own_up (fun tx kx => XS.lloadN X31.here hx rfl (hb hby d2_98) rfl kx) ?_
  show OwnOk p e below _ (T31.setTop (mkF m 99 #[.val (.ref a), .val (.long q1), .second, .val (.long q2), .second, .val (.long q3), .second, .val (.long q4), .second, .val (.long q5), .second, .val (.long q6), .second, .val (.ref b12), .val (.int (6 : Int32)), .val (.int (6 : Int32)), .val (.long q6), .second] [(.long q1), (.ref a)]))
  have F_mapSlotMb_a_46 := (((((((F_mapSlotMb_a.ext E12).other W16 (Or.inl (Nat.ne_of_lt lt_a_b12))).other W19 (Or.inl (Nat.ne_of_lt lt_a_b12))).other W22 (Or.inl (Nat.ne_of_lt lt_a_b12))).other W25 (Or.inl (Nat.ne_of_lt lt_a_b12))).other W28 (Or.inl (Nat.ne_of_lt lt_a_b12))).other W31 (Or.inl (Nat.ne_of_lt lt_a_b12)))
  have E_a_47 := (((((((E_a.ext E12).wr W16).wr W19).wr W22).wr W25).wr W28).wr W31)
  obtain ⟨T48, h48, X48, e48, W48, st48⟩ := putF X31 hx hZ hown (host := "") (Or.inl (wd_22 hw)) Via.refl e31 F_mapSlotMb_a_46 E_a_47 (Or.inr ⟨(wd_23 hw), rfl, hnm⟩) (wd_6 hw) (ty := .long) (by decide) rfl rfl (g := (mkF m 99 #[.val (.ref a), .val (.long q1), .second, .val (.long q2), .second, .val (.long q3), .second, .val (.long q4), .second, .val (.long q5), .second, .val (.long q6), .second, .val (.ref b12), .val (.int (6 : Int32)), .val (.int (6 : Int32)), .val (.long q6), .second] [(.long q1), (.ref a)])) rfl rfl (hb hby d2_99)
  have Fw48 := Fld.same W48 F_mapSlotMb_a_46
  have N48 := Fr.snoc X48 N31 n0_a
  have OL49 := OL32.wr W48 n0_a
  have KP49 := KP32.wr W48 (Or.inl (List.mem_of_getElem? (i := 0) rfl))
  refine own_up st48 ?_
  show OwnOk p e below _ (T48.setTop (mkF m 102 #[.val (.ref a), .val (.long q1), .second, .val (.long q2), .second, .val (.long q3), .second, .val (.long q4), .second, .val (.long q5), .second, .val (.long q6), .second, .val (.ref b12), .val (.int (6 : Int32)), .val (.int (6 : Int32)), .val (.long q6), .second] []))
  refine own_up (fun tx kx => XS.aloadN X48.here hx rfl (hb hby d2_102) rfl rfl kx) ?_
  show OwnOk p e below _ (T48.setTop (mkF m 103 #[.val (.ref a), .val (.long q1), .second, .val (.long q2), .second, .val (.long q3), .second, .val (.long q4), .second, .val (.long q5), .second, .val (.long q6), .second, .val (.ref b12), .val (.int (6 : Int32)), .val (.int (6 : Int32)), .val (.long q6), .second] [(.ref a)]))
  refine own_up (fun tx kx => XS.lloadN X48.here hx rfl (hb hby d2_103) rfl kx) ?_
  show OwnOk p e below _ (T48.setTop (mkF m 104 #[.val (.ref a), .val (.long q1), .second, .val (.long q2), .second, .val (.long q3), .second, .val (.long q4), .second, .val (.long q5), .second, .val (.long q6), .second, .val (.ref b12), .val (.int (6 : Int32)), .val (.int (6 : Int32)), .val (.long q6), .second] [(.long q2), (.ref a)]))
  have F_reduceSlotMb_a_50 := ((((((((F_reduceSlotMb_a.ext E12).other W16 (Or.inl (Nat.ne_of_lt lt_a_b12))).other W19 (Or.inl (Nat.ne_of_lt lt_a_b12))).other W22 (Or.inl (Nat.ne_of_lt lt_a_b12))).other W25 (Or.inl (Nat.ne_of_lt lt_a_b12))).other W28 (Or.inl (Nat.ne_of_lt lt_a_b12))).other W31 (Or.inl (Nat.ne_of_lt lt_a_b12))).other W48 (Or.inr (slot_ne (Or.inr (wd_25 hw)) (Or.inr (wd_23 hw)) (by decide) (t := .long) (t' := .long) (by decide) (by decide))))
  have E_a_51 := (E_a_47.wr W48)
  obtain ⟨T52, h52, X52, e52, W52, st52⟩ := putF X48 hx hZ hown (host := "") (Or.inl (wd_24 hw)) Via.refl e48 F_reduceSlotMb_a_50 E_a_51 (Or.inr ⟨(wd_25 hw), rfl, hnm⟩) (wd_6 hw) (ty := .long) (by decide) rfl rfl (g := (mkF m 104 #[.val (.ref a), .val (.long q1), .second, .val (.long q2), .second, .val (.long q3), .second, .val (.long q4), .second, .val (.long q5), .second, .val (.long q6), .second, .val (.ref b12), .val (.int (6 : Int32)), .val (.int (6 : Int32)), .val (.long q6), .second] [(.long q2), (.ref a)])) rfl rfl (hb hby d2_104)
  have Fw52 := Fld.same W52 F_reduceSlotMb_a_50
  have N52 := Fr.snoc X52 N48 n0_a
  have OL53 := OL49.wr W52 n0_a
  have KP53 := KP49.wr W52 (Or.inl (List.mem_of_getElem? (i := 0) rfl))
  refine own_up st52 ?_
  show OwnOk p e below _ (T52.setTop (mkF m 107 #[.val (.ref a), .val (.long q1), .second, .val (.long q2), .second, .val (.long q3), .second, .val (.long q4), .second, .val (.long q5), .second, .val (.long q6), .second, .val (.ref b12), .val (.int (6 : Int32)), .val (.int (6 : Int32)), .val (.long q6), .second] []))
  refine own_up (fun tx kx => XS.aloadN X52.here hx rfl (hb hby d2_107) rfl rfl kx) ?_
  show OwnOk p e below _ (T52.setTop (mkF m 108 #[.val (.ref a), .val (.long q1), .second, .val (.long q2), .second, .val (.long q3), .second, .val (.long q4), .second, .val (.long q5), .second, .val (.long q6), .second, .val (.ref b12), .val (.int (6 : Int32)), .val (.int (6 : Int32)), .val (.long q6), .second] [(.ref a)]))
  refine own_up (fun tx kx => XS.lload X52.here hx rfl (hb hby d2_108) rfl kx) ?_
  show OwnOk p e below _ (T52.setTop (mkF m 110 #[.val (.ref a), .val (.long q1), .second, .val (.long q2), .second, .val (.long q3), .second, .val (.long q4), .second, .val (.long q5), .second, .val (.long q6), .second, .val (.ref b12), .val (.int (6 : Int32)), .val (.int (6 : Int32)), .val (.long q6), .second] [(.long q3), (.ref a)]))
  have F_maxMapMb_a_54 := (((((((((F_maxMapMb_a.ext E12).other W16 (Or.inl (Nat.ne_of_lt lt_a_b12))).other W19 (Or.inl (Nat.ne_of_lt lt_a_b12))).other W22 (Or.inl (Nat.ne_of_lt lt_a_b12))).other W25 (Or.inl (Nat.ne_of_lt lt_a_b12))).other W28 (Or.inl (Nat.ne_of_lt lt_a_b12))).other W31 (Or.inl (Nat.ne_of_lt lt_a_b12))).other W48 (Or.inr (slot_ne (Or.inr (wd_27 hw)) (Or.inr (wd_23 hw)) (by decide) (t := .long) (t' := .long) (by decide) (by decide)))).other W52 (Or.inr (slot_ne (Or.inr (wd_27 hw)) (Or.inr (wd_25 hw)) (by decide) (t := .long) (t' := .long) (by decide) (by decide))))
  have E_a_55 := (E_a_51.wr W52)
  obtain ⟨T56, h56, X56, e56, W56, st56⟩ := putF X52 hx hZ hown (host := "") (Or.inl (wd_26 hw)) Via.refl e52 F_maxMapMb_a_54 E_a_55 (Or.inr ⟨(wd_27 hw), rfl, hnm⟩) (wd_6 hw) (ty := .long) (by decide) rfl rfl (g := (mkF m 110 #[.val (.ref a), .val (.long q1), .second, .val (.long q2), .second, .val (.long q3), .second, .val (.long q4), .second, .val (.long q5), .second, .val (.long q6), .second, .val (.ref b12), .val (.int (6 : Int32)), .val (.int (6 : Int32)), .val (.long q6), .second] [(.long q3), (.ref a)])) rfl rfl (hb hby d2_110)
  have Fw56 := Fld.same W56 F_maxMapMb_a_54
  have N56 := Fr.snoc X56 N52 n0_a
  have OL57 := OL53.wr W56 n0_a
  have KP57 := KP53.wr W56 (Or.inl (List.mem_of_getElem? (i := 0) rfl))
  refine own_up st56 ?_
  show OwnOk p e below _ (T56.setTop (mkF m 113 #[.val (.ref a), .val (.long q1), .second, .val (.long q2), .second, .val (.long q3), .second, .val (.long q4), .second, .val (.long q5), .second, .val (.long q6), .second, .val (.ref b12), .val (.int (6 : Int32)), .val (.int (6 : Int32)), .val (.long q6), .second] []))
  refine own_up (fun tx kx => XS.aloadN X56.here hx rfl (hb hby d2_113) rfl rfl kx) ?_
  show OwnOk p e below _ (T56.setTop (mkF m 114 #[.val (.ref a), .val (.long q1), .second, .val (.long q2), .second, .val (.long q3), .second, .val (.long q4), .second, .val (.long q5), .second, .val (.long q6), .second, .val (.ref b12), .val (.int (6 : Int32)), .val (.int (6 : Int32)), .val (.long q6), .second] [(.ref a)]))
  refine own_up (fun tx kx => XS.lload X56.here hx rfl (hb hby d2_114) rfl kx) ?_
  show OwnOk p e below _ (T56.setTop (mkF m 116 #[.val (.ref a), .val (.long q1), .second, .val (.long q2), .second, .val (.long q3), .second, .val (.long q4), .second, .val (.long q5), .second, .val (.long q6), .second, .val (.ref b12), .val (.int (6 : Int32)), .val (.int (6 : Int32)), .val (.long q6), .second] [(.long q4), (.ref a)]))
  have F_maxReduceMb_a_58 := ((((((((((F_maxReduceMb_a.ext E12).other W16 (Or.inl (Nat.ne_of_lt lt_a_b12))).other W19 (Or.inl (Nat.ne_of_lt lt_a_b12))).other W22 (Or.inl (Nat.ne_of_lt lt_a_b12))).other W25 (Or.inl (Nat.ne_of_lt lt_a_b12))).other W28 (Or.inl (Nat.ne_of_lt lt_a_b12))).other W31 (Or.inl (Nat.ne_of_lt lt_a_b12))).other W48 (Or.inr (slot_ne (Or.inr (wd_29 hw)) (Or.inr (wd_23 hw)) (by decide) (t := .long) (t' := .long) (by decide) (by decide)))).other W52 (Or.inr (slot_ne (Or.inr (wd_29 hw)) (Or.inr (wd_25 hw)) (by decide) (t := .long) (t' := .long) (by decide) (by decide)))).other W56 (Or.inr (slot_ne (Or.inr (wd_29 hw)) (Or.inr (wd_27 hw)) (by decide) (t := .long) (t' := .long) (by decide) (by decide))))
  have E_a_59 := (E_a_55.wr W56)
  obtain ⟨T60, h60, X60, e60, W60, st60⟩ := putF X56 hx hZ hown (host := "") (Or.inl (wd_28 hw)) Via.refl e56 F_maxReduceMb_a_58 E_a_59 (Or.inr ⟨(wd_29 hw), rfl, hnm⟩) (wd_6 hw) (ty := .long) (by decide) rfl rfl (g := (mkF m 116 #[.val (.ref a), .val (.long q1), .second, .val (.long q2), .second, .val (.long q3), .second, .val (.long q4), .second, .val (.long q5), .second, .val (.long q6), .second, .val (.ref b12), .val (.int (6 : Int32)), .val (.int (6 : Int32)), .val (.long q6), .second] [(.long q4), (.ref a)])) rfl rfl (hb hby d2_116)
  have Fw60 := Fld.same W60 F_maxReduceMb_a_58
  have N60 := Fr.snoc X60 N56 n0_a
  have OL61 := OL57.wr W60 n0_a
  have KP61 := KP57.wr W60 (Or.inl (List.mem_of_getElem? (i := 0) rfl))
  refine own_up st60 ?_
  show OwnOk p e below _ (T60.setTop (mkF m 119 #[.val (.ref a), .val (.long q1), .second, .val (.long q2), .second, .val (.long q3), .second, .val (.long q4), .second, .val (.long q5), .second, .val (.long q6), .second, .val (.ref b12), .val (.int (6 : Int32)), .val (.int (6 : Int32)), .val (.long q6), .second] []))
  refine own_up (fun tx kx => XS.aloadN X60.here hx rfl (hb hby d2_119) rfl rfl kx) ?_
  show OwnOk p e below _ (T60.setTop (mkF m 120 #[.val (.ref a), .val (.long q1), .second, .val (.long q2), .second, .val (.long q3), .second, .val (.long q4), .second, .val (.long q5), .second, .val (.long q6), .second, .val (.ref b12), .val (.int (6 : Int32)), .val (.int (6 : Int32)), .val (.long q6), .second] [(.ref a)]))
  refine own_up (fun tx kx => XS.lload X60.here hx rfl (hb hby d2_120) rfl kx) ?_
  show OwnOk p e below _ (T60.setTop (mkF m 122 #[.val (.ref a), .val (.long q1), .second, .val (.long q2), .second, .val (.long q3), .second, .val (.long q4), .second, .val (.long q5), .second, .val (.long q6), .second, .val (.ref b12), .val (.int (6 : Int32)), .val (.int (6 : Int32)), .val (.long q6), .second] [(.long q5), (.ref a)]))
  have F_jobMapMb_a_62 := (((((((((((F_jobMapMb_a.ext E12).other W16 (Or.inl (Nat.ne_of_lt lt_a_b12))).other W19 (Or.inl (Nat.ne_of_lt lt_a_b12))).other W22 (Or.inl (Nat.ne_of_lt lt_a_b12))).other W25 (Or.inl (Nat.ne_of_lt lt_a_b12))).other W28 (Or.inl (Nat.ne_of_lt lt_a_b12))).other W31 (Or.inl (Nat.ne_of_lt lt_a_b12))).other W48 (Or.inr (slot_ne (Or.inr (wd_31 hw)) (Or.inr (wd_23 hw)) (by decide) (t := .long) (t' := .long) (by decide) (by decide)))).other W52 (Or.inr (slot_ne (Or.inr (wd_31 hw)) (Or.inr (wd_25 hw)) (by decide) (t := .long) (t' := .long) (by decide) (by decide)))).other W56 (Or.inr (slot_ne (Or.inr (wd_31 hw)) (Or.inr (wd_27 hw)) (by decide) (t := .long) (t' := .long) (by decide) (by decide)))).other W60 (Or.inr (slot_ne (Or.inr (wd_31 hw)) (Or.inr (wd_29 hw)) (by decide) (t := .long) (t' := .long) (by decide) (by decide))))
  have E_a_63 := (E_a_59.wr W60)
  obtain ⟨T64, h64, X64, e64, W64, st64⟩ := putF X60 hx hZ hown (host := "") (Or.inl (wd_30 hw)) Via.refl e60 F_jobMapMb_a_62 E_a_63 (Or.inr ⟨(wd_31 hw), rfl, hnm⟩) (wd_6 hw) (ty := .long) (by decide) rfl rfl (g := (mkF m 122 #[.val (.ref a), .val (.long q1), .second, .val (.long q2), .second, .val (.long q3), .second, .val (.long q4), .second, .val (.long q5), .second, .val (.long q6), .second, .val (.ref b12), .val (.int (6 : Int32)), .val (.int (6 : Int32)), .val (.long q6), .second] [(.long q5), (.ref a)])) rfl rfl (hb hby d2_122)
  have Fw64 := Fld.same W64 F_jobMapMb_a_62
  have N64 := Fr.snoc X64 N60 n0_a
  have OL65 := OL61.wr W64 n0_a
  have KP65 := KP61.wr W64 (Or.inl (List.mem_of_getElem? (i := 0) rfl))
  refine own_up st64 ?_
  show OwnOk p e below _ (T64.setTop (mkF m 125 #[.val (.ref a), .val (.long q1), .second, .val (.long q2), .second, .val (.long q3), .second, .val (.long q4), .second, .val (.long q5), .second, .val (.long q6), .second, .val (.ref b12), .val (.int (6 : Int32)), .val (.int (6 : Int32)), .val (.long q6), .second] []))
  refine own_up (fun tx kx => XS.aloadN X64.here hx rfl (hb hby d2_125) rfl rfl kx) ?_
  show OwnOk p e below _ (T64.setTop (mkF m 126 #[.val (.ref a), .val (.long q1), .second, .val (.long q2), .second, .val (.long q3), .second, .val (.long q4), .second, .val (.long q5), .second, .val (.long q6), .second, .val (.ref b12), .val (.int (6 : Int32)), .val (.int (6 : Int32)), .val (.long q6), .second] [(.ref a)]))
  refine own_up (fun tx kx => XS.lload X64.here hx rfl (hb hby d2_126) rfl kx) ?_
  show OwnOk p e below _ (T64.setTop (mkF m 128 #[.val (.ref a), .val (.long q1), .second, .val (.long q2), .second, .val (.long q3), .second, .val (.long q4), .second, .val (.long q5), .second, .val (.long q6), .second, .val (.ref b12), .val (.int (6 : Int32)), .val (.int (6 : Int32)), .val (.long q6), .second] [(.long q6), (.ref a)]))
  have F_jobReduceMb_a_66 := ((((((((((((F_jobReduceMb_a.ext E12).other W16 (Or.inl (Nat.ne_of_lt lt_a_b12))).other W19 (Or.inl (Nat.ne_of_lt lt_a_b12))).other W22 (Or.inl (Nat.ne_of_lt lt_a_b12))).other W25 (Or.inl (Nat.ne_of_lt lt_a_b12))).other W28 (Or.inl (Nat.ne_of_lt lt_a_b12))).other W31 (Or.inl (Nat.ne_of_lt lt_a_b12))).other W48 (Or.inr (slot_ne (Or.inr (wd_33 hw)) (Or.inr (wd_23 hw)) (by decide) (t := .long) (t' := .long) (by decide) (by decide)))).other W52 (Or.inr (slot_ne (Or.inr (wd_33 hw)) (Or.inr (wd_25 hw)) (by decide) (t := .long) (t' := .long) (by decide) (by decide)))).other W56 (Or.inr (slot_ne (Or.inr (wd_33 hw)) (Or.inr (wd_27 hw)) (by decide) (t := .long) (t' := .long) (by decide) (by decide)))).other W60 (Or.inr (slot_ne (Or.inr (wd_33 hw)) (Or.inr (wd_29 hw)) (by decide) (t := .long) (t' := .long) (by decide) (by decide)))).other W64 (Or.inr (slot_ne (Or.inr (wd_33 hw)) (Or.inr (wd_31 hw)) (by decide) (t := .long) (t' := .long) (by decide) (by decide))))
  have E_a_67 := (E_a_63.wr W64)
  obtain ⟨T68, h68, X68, e68, W68, st68⟩ := putF X64 hx hZ hown (host := "") (Or.inl (wd_32 hw)) Via.refl e64 F_jobReduceMb_a_66 E_a_67 (Or.inr ⟨(wd_33 hw), rfl, hnm⟩) (wd_6 hw) (ty := .long) (by decide) rfl rfl (g := (mkF m 128 #[.val (.ref a), .val (.long q1), .second, .val (.long q2), .second, .val (.long q3), .second, .val (.long q4), .second, .val (.long q5), .second, .val (.long q6), .second, .val (.ref b12), .val (.int (6 : Int32)), .val (.int (6 : Int32)), .val (.long q6), .second] [(.long q6), (.ref a)])) rfl rfl (hb hby d2_128)
  have Fw68 := Fld.same W68 F_jobReduceMb_a_66
  have N68 := Fr.snoc X68 N64 n0_a
  have OL69 := OL65.wr W68 n0_a
  have KP69 := KP65.wr W68 (Or.inl (List.mem_of_getElem? (i := 0) rfl))
  refine own_up st68 ?_
  show OwnOk p e below _ (T68.setTop (mkF m 131 #[.val (.ref a), .val (.long q1), .second, .val (.long q2), .second, .val (.long q3), .second, .val (.long q4), .second, .val (.long q5), .second, .val (.long q6), .second, .val (.ref b12), .val (.int (6 : Int32)), .val (.int (6 : Int32)), .val (.long q6), .second] []))
  have E_a_70 := (E_a_67.wr W68)
  have F_mapSlotMb_a_71 := (((((Fw48.other W52 (Or.inr (slot_ne (Or.inr (wd_23 hw)) (Or.inr (wd_25 hw)) (by decide) (t := .long) (t' := .long) (by decide) (by decide)))).other W56 (Or.inr (slot_ne (Or.inr (wd_23 hw)) (Or.inr (wd_27 hw)) (by decide) (t := .long) (t' := .long) (by decide) (by decide)))).other W60 (Or.inr (slot_ne (Or.inr (wd_23 hw)) (Or.inr (wd_29 hw)) (by decide) (t := .long) (t' := .long) (by decide) (by decide)))).other W64 (Or.inr (slot_ne (Or.inr (wd_23 hw)) (Or.inr (wd_31 hw)) (by decide) (t := .long) (t' := .long) (by decide) (by decide)))).other W68 (Or.inr (slot_ne (Or.inr (wd_23 hw)) (Or.inr (wd_33 hw)) (by decide) (t := .long) (t' := .long) (by decide) (by decide))))
  have F_reduceSlotMb_a_72 := ((((Fw52.other W56 (Or.inr (slot_ne (Or.inr (wd_25 hw)) (Or.inr (wd_27 hw)) (by decide) (t := .long) (t' := .long) (by decide) (by decide)))).other W60 (Or.inr (slot_ne (Or.inr (wd_25 hw)) (Or.inr (wd_29 hw)) (by decide) (t := .long) (t' := .long) (by decide) (by decide)))).other W64 (Or.inr (slot_ne (Or.inr (wd_25 hw)) (Or.inr (wd_31 hw)) (by decide) (t := .long) (t' := .long) (by decide) (by decide)))).other W68 (Or.inr (slot_ne (Or.inr (wd_25 hw)) (Or.inr (wd_33 hw)) (by decide) (t := .long) (t' := .long) (by decide) (by decide))))
  have F_jobMapMb_a_73 := (Fw64.other W68 (Or.inr (slot_ne (Or.inr (wd_31 hw)) (Or.inr (wd_33 hw)) (by decide) (t := .long) (t' := .long) (by decide) (by decide))))
  refine own_retV X68 hx (show meth.sig.returnType = none from hret) hlk (hb hby d2_131) e68 (Nat.le_of_ble_eq_true rfl) (Nat.le_of_ble_eq_true rfl) ?_
  exact ⟨rfl, N68, KP69, E_a_70, F_mapSlotMb_a_71, F_reduceSlotMb_a_72, F_jobMapMb_a_73, Fw68⟩
def Q_rm9 (a1 : Addr) (h0 : Heap) (n0 : Nat) (v : Option Value) (h : Heap) (L : List Loc) : Prop := v = some (.ref a1) ∧ Fr n0 L ∧ h = h0
set_option maxRecDepth 65536 in
set_option maxHeartbeats 40000000 in
theorem rm9 (l : Launch) (Z : State) (a0 : Array Value) (hw : ∀ d ∈ tables_1, d.before a0 Z = true) (a1 a2 : Addr) (h0 : Heap) (n0 : Nat) (OL : Old Z n0 h0)  :
    own_Met l Z (⟨"java/util/Objects", "requireNonNull", "(Ljava/lang/Object;Ljava/lang/String;)Ljava/lang/Object;"⟩ : MethodName) jdk_31_method_11_code 2 (some (.object "java/lang/Object")) ({ frames := 0, cells := 0, slots := 0, locals := 0 } : Room) #[(.ref a1), (.ref a2)] h0 (Q_rm9 a1 h0 n0) := by
  refine own_body (L0 := #[.val (.ref a1), .val (.ref a2)]) (plainFor_of_name (by first | (simp [plainName, overriddenIn]; done) | decide +kernel)) (fun m => by first | (simp [entryFrame, mkF, argsToLocals, Value.category]; done) | rfl) ?_
  intro p e s m below meth c s₁ hx hby hml hZ hown hnm hret hlk X0 e0
  have N0 := Fr.nil n0
  have Z0 : n0 ≤ h0.size := OL.1 ▸ OL.2.1
  show OwnOk p e below _ (s₁.setTop (mkF m 0 #[.val (.ref a1), .val (.ref a2)] []))
  refine own_up (fun tx kx => XS.aloadN X0.here hx rfl (hb hby d9_0) rfl rfl kx) ?_
  show OwnOk p e below _ (s₁.setTop (mkF m 1 #[.val (.ref a1), .val (.ref a2)] [(.ref a1)]))
  refine own_up (fun tx kx => XS.ifnonnullYes X0.here hx rfl (pc0 := 1) (pc' := 13) rfl (hb hby d9_1) rfl (by decide) (by decide) kx) ?_
  show OwnOk p e below _ (s₁.setTop (mkF m 13 #[.val (.ref a1), .val (.ref a2)] []))
  refine own_up (fun tx kx => XS.aloadN X0.here hx rfl (hb hby d9_13) rfl rfl kx) ?_
  show OwnOk p e below _ (s₁.setTop (mkF m 14 #[.val (.ref a1), .val (.ref a2)] [(.ref a1)]))
  refine own_retR X0 hx (t := (.object "java/lang/Object")) (show meth.sig.returnType = some (.object "java/lang/Object") from hret) rfl hlk rfl (hb hby d9_14) e0 (Nat.le_of_ble_eq_true rfl) (Nat.le_of_ble_eq_true rfl) ?_
  exact ⟨rfl, N0, rfl⟩
def Q_rm8 (Z : State) (a : Addr) (h0 : Heap) (n0 : Nat) (v : Option Value) (h : Heap) (L : List Loc) : Prop := v = none ∧ Fr n0 L ∧ Keep h0 h [a] ∧ Exa Z h a "com/example/slotwright/slotwright/sched/JobSpec" ∧ (Fld Z h a "com/example/slotwright/slotwright/sched/JobSpec" "mapMemoryMb" "J" (.long (-1 : Int64))) ∧ (Fld Z h a "com/example/slotwright/slotwright/sched/JobSpec" "reduceMemoryMb" "J" (.long (-1 : Int64)))
set_option maxRecDepth 65536 in
set_option maxHeartbeats 40000000 in
theorem rm8 (l : Launch) (Z : State) (a0 : Array Value) (hw : ∀ d ∈ tables_1, d.before a0 Z = true) (a s1 s2 s3 r : Addr) (h0 : Heap) (n0 : Nat) (OL : Old Z n0 h0) (E_a : Exa Z h0 a "com/example/slotwright/slotwright/sched/JobSpec") (F_name_a : Fld Z h0 a "com/example/slotwright/slotwright/sched/JobSpec" "name" "Ljava/lang/String;" .null) (F_queue_a : Fld Z h0 a "com/example/slotwright/slotwright/sched/JobSpec" "queue" "Ljava/lang/String;" .null) (F_user_a : Fld Z h0 a "com/example/slotwright/slotwright/sched/JobSpec" "user" "Ljava/lang/String;" .null) (F_maps_a : Fld Z h0 a "com/example/slotwright/slotwright/sched/JobSpec" "maps" "I" (.int (0 : Int32))) (F_reduces_a : Fld Z h0 a "com/example/slotwright/slotwright/sched/JobSpec" "reduces" "I" (.int (0 : Int32))) (F_priority_a : Fld Z h0 a "com/example/slotwright/slotwright/sched/JobSpec" "priority" "Lcom/example/slotwright/slotwright/sched/JobPriority;" .null) (F_mapMemoryMb_a : Fld Z h0 a "com/example/slotwright/slotwright/sched/JobSpec" "mapMemoryMb" "J" (.long (0 : Int64))) (F_reduceMemoryMb_a : Fld Z h0 a "com/example/slotwright/slotwright/sched/JobSpec" "reduceMemoryMb" "J" (.long (0 : Int64))) (F_deadlineMs_a : Fld Z h0 a "com/example/slotwright/slotwright/sched/JobSpec" "deadlineMs" "J" (.long (0 : Int64))) (F_profile_a : Fld Z h0 a "com/example/slotwright/slotwright/sched/JobSpec" "profile" "Ljava/lang/String;" .null) (n0_a : n0 ≤ a) :
    own_MetW l Z (⟨"com/example/slotwright/slotwright/sched/JobSpec", "<init>", "(Ljava/lang/String;Ljava/lang/String;Ljava/lang/String;IILcom/example/slotwright/slotwright/sched/JobPriority;JJJLjava/lang/String;)V"⟩ : MethodName) prog_102_method_1_code 19 none ({ frames := 2, cells := 3, slots := 38, locals := 24 } : Room) #[(.ref a), (.ref s1), (.ref s2), (.ref s3), (.int (1 : Int32)), (.int (1 : Int32)), (.ref r), (.long (-1 : Int64)), (.long (-1 : Int64)), (.long (-1 : Int64)), .null] h0 (Q_rm8 Z a h0 n0) := by
  refine own_bodyW (L0 := #[.val (.ref a), .val (.ref s1), .val (.ref s2), .val (.ref s3), .val (.int (1 : Int32)), .val (.int (1 : Int32)), .val (.ref r), .val (.long (-1 : Int64)), .second, .val (.long (-1 : Int64)), .second, .val (.long (-1 : Int64)), .second, .val .null, .unset, .unset, .unset, .unset, .unset]) (plainFor_of_name (by first | (simp [plainName, overriddenIn]; done) | decide +kernel)) (fun m => by first | (simp [entryFrame, mkF, argsToLocals, Value.category]; done) | rfl) ?_
  intro p e s m below meth c s₁ hx hby hml hZ hown hnm hret hlk X0 e0
  have N0 := Fr.nil n0
  have Z0 : n0 ≤ h0.size := OL.1 ▸ OL.2.1
  have hB := own_From.start s h0
  show OwnOk p e below _ (s₁.setTop (mkF m 0 #[.val (.ref a), .val (.ref s1), .val (.ref s2), .val (.ref s3), .val (.int (1 : Int32)), .val (.int (1 : Int32)), .val (.ref r), .val (.long (-1 : Int64)), .second, .val (.long (-1 : Int64)), .second, .val (.long (-1 : Int64)), .second, .val .null, .unset, .unset, .unset, .unset, .unset] []))
  have KP0 : Keep h0 h0 [a] := Keep.refl h0 _
  refine own_up (fun tx kx => XS.aloadN X0.here hx rfl (hb hby d8_0) rfl rfl kx) ?_
  show OwnOk p e below _ (s₁.setTop (mkF m 1 #[.val (.ref a), .val (.ref s1), .val (.ref s2), .val (.ref s3), .val (.int (1 : Int32)), .val (.int (1 : Int32)), .val (.ref r), .val (.long (-1 : Int64)), .second, .val (.long (-1 : Int64)), .second, .val (.long (-1 : Int64)), .second, .val .null, .unset, .unset, .unset, .unset, .unset] [(.ref a)]))
  refine own_callC X0 hx hZ (y := (⟨"java/lang/Record", "<init>", "()V"⟩ : MethodName)) rfl hown (wd_63 hw) (wd_13 hw) (wd_15 hw) (wd_16 hw) (by decide) (rm3 l Z a0 hw a h0 n0 OL) e0 (argsL := []) (rest := []) (a := a) (by rw [hml]; rfl) (lenOf pd_0 rfl) rfl rfl (W := 0) rfl (hb hby d8_1) (by decide) (by decide) (by decide) (by decide) (fun T11 v11 L11 X11 hQ11 => ?_)
  obtain ⟨rfl, Nq11, hh11⟩ := hQ11
  have N11 := Fr.app N0 Nq11
  show OwnOk p e below _ (T11.setTop (mkF m 4 #[.val (.ref a), .val (.ref s1), .val (.ref s2), .val (.ref s3), .val (.int (1 : Int32)), .val (.int (1 : Int32)), .val (.ref r), .val (.long (-1 : Int64)), .second, .val (.long (-1 : Int64)), .second, .val (.long (-1 : Int64)), .second, .val .null, .unset, .unset, .unset, .unset, .unset] []))
  refine own_up (fun tx kx => XS.aload X11.here hx rfl (hb hby d8_4) rfl rfl kx) ?_
  show OwnOk p e below _ (T11.setTop (mkF m 6 #[.val (.ref a), .val (.ref s1), .val (.ref s2), .val (.ref s3), .val (.int (1 : Int32)), .val (.int (1 : Int32)), .val (.ref r), .val (.long (-1 : Int64)), .second, .val (.long (-1 : Int64)), .second, .val (.long (-1 : Int64)), .second, .val .null, .unset, .unset, .unset, .unset, .unset] [(.ref r)]))
  refine own_ldc X11 hB hx hZ hown (wd_64 hw) (own_wS hw) hh11 (hb hby d8_6) (n := 32) (by decide) (by decide) (by decide) (by decide) (fun s12 ls12 T12 h12 X12 hB12 hZ12 hown12 e12 E12 => ?_)
  have OL12 := OL.ext E12
  have KP12 := KP0.ext E12
  show OwnOk p e below _ (T12.setTop (mkF m 8 #[.val (.ref a), .val (.ref s1), .val (.ref s2), .val (.ref s3), .val (.int (1 : Int32)), .val (.int (1 : Int32)), .val (.ref r), .val (.long (-1 : Int64)), .second, .val (.long (-1 : Int64)), .second, .val (.long (-1 : Int64)), .second, .val .null, .unset, .unset, .unset, .unset, .unset] [(.ref ls12), (.ref r)]))
  refine own_callS X12 hx hZ12 (y := (⟨"java/util/Objects", "requireNonNull", "(Ljava/lang/Object;Ljava/lang/String;)Ljava/lang/Object;"⟩ : MethodName)) hown12 (wd_65 hw) (wd_66 hw) (wd_67 hw) (wd_68 hw) (by decide) (rm9 l Z a0 hw r ls12 h12 n0 OL12) e12 (argsL := [(.ref r), (.ref ls12)]) (rest := []) (by rw [hml]; rfl) (lenOf pd_1 rfl) rfl rfl (W := 0) rfl (hb hby d8_8) (by decide) (by decide) (by decide) (by decide) (fun T13 v13 L13 X13 hQ13 => ?_)
  obtain ⟨rfl, Nq13, hh13⟩ := hQ13
  have N13 := Fr.app N11 Nq13
  show OwnOk p e below _ (T13.setTop (mkF m 11 #[.val (.ref a), .val (.ref s1), .val (.ref s2), .val (.ref s3), .val (.int (1 : Int32)), .val (.int (1 : Int32)), .val (.ref r), .val (.long (-1 : Int64)), .second, .val (.long (-1 : Int64)), .second, .val (.long (-1 : Int64)), .second, .val .null, .unset, .unset, .unset, .unset, .unset] [(.ref r)]))
  refine own_up (fun tx kx => XS.pop X13.here hx rfl (hb hby d8_11) rfl rfl kx) ?_
  show OwnOk p e below _ (T13.setTop (mkF m 12 #[.val (.ref a), .val (.ref s1), .val (.ref s2), .val (.ref s3), .val (.int (1 : Int32)), .val (.int (1 : Int32)), .val (.ref r), .val (.long (-1 : Int64)), .second, .val (.long (-1 : Int64)), .second, .val (.long (-1 : Int64)), .second, .val .null, .unset, .unset, .unset, .unset, .unset] []))
  refine own_up (fun tx kx => XS.iconst X13.here hx rfl (hb hby d8_12) kx) ?_
  show OwnOk p e below _ (T13.setTop (mkF m 13 #[.val (.ref a), .val (.ref s1), .val (.ref s2), .val (.ref s3), .val (.int (1 : Int32)), .val (.int (1 : Int32)), .val (.ref r), .val (.long (-1 : Int64)), .second, .val (.long (-1 : Int64)), .second, .val (.long (-1 : Int64)), .second, .val .null, .unset, .unset, .unset, .unset, .unset] [(.int (2 : Int32))]))
  obtain ⟨T14, h14, k14, X14, e14, E14, A14, st14⟩ := newP (aty := .long) X13 hx hZ12 (wd_20 hw) hh13 (g := (mkF m 13 #[.val (.ref a), .val (.ref s1), .val (.ref s2), .val (.ref s3), .val (.int (1 : Int32)), .val (.int (1 : Int32)), .val (.ref r), .val (.long (-1 : Int64)), .second, .val (.long (-1 : Int64)), .second, .val (.long (-1 : Int64)), .second, .val .null, .unset, .unset, .unset, .unset, .unset] [(.int (2 : Int32))])) rfl (hb hby d8_13) rfl (by decide) (cap := 2) (by decide) (by decide) (by decide) (by decide)
  obtain ⟨b14, g14⟩ : ∃ z, z = h12.size := ⟨_, rfl⟩
  rw [← g14] at A14 st14
  have sz_b14 : h12.size ≤ b14 := Nat.le_of_eq g14.symm
  have E_a_16 := (E_a.ext E12)
  have lt_a_b14 : a < b14 := Nat.lt_of_lt_of_le E_a_16.lt sz_b14
  have n0_b14 : n0 ≤ b14 := Nat.le_trans (own_n0 OL12) sz_b14
  have ws_b14 : h0.size ≤ b14 := Nat.le_trans KP12.1 sz_b14
  have V_b14 : Arv Z h14 b14 k14 .long (2 : Int32) [(.long (0 : Int64)), (.long (0 : Int64))] (.long (0 : Int64)) := (Arv.new A14 (by decide)).pad (pad_rep [] (.long (0 : Int64)) 2)
  have OL17 := OL12.ext E14
  have KP17 := KP12.ext E14
  have hB17 := hB12.ext E14
  refine own_up st14 ?_
  show OwnOk p e below _ (T14.setTop (mkF m 15 #[.val (.ref a), .val (.ref s1), .val (.ref s2), .val (.ref s3), .val (.int (1 : Int32)), .val (.int (1 : Int32)), .val (.ref r), .val (.long (-1 : Int64)), .second, .val (.long (-1 : Int64)), .second, .val (.long (-1 : Int64)), .second, .val .null, .unset, .unset, .unset, .unset, .unset] [(.ref b14)]))
  refine own_up (fun tx kx => XS.dup X14.here hx rfl (hb hby d8_15) rfl rfl kx) ?_
  show OwnOk p e below _ (T14.setTop (mkF m 16 #[.val (.ref a), .val (.ref s1), .val (.ref s2), .val (.ref s3), .val (.int (1 : Int32)), .val (.int (1 : Int32)), .val (.ref r), .val (.long (-1 : Int64)), .second, .val (.long (-1 : Int64)), .second, .val (.long (-1 : Int64)), .second, .val .null, .unset, .unset, .unset, .unset, .unset] [(.ref b14), (.ref b14)]))
  refine own_up (fun tx kx => XS.iconst X14.here hx rfl (hb hby d8_16) kx) ?_
  show OwnOk p e below _ (T14.setTop (mkF m 17 #[.val (.ref a), .val (.ref s1), .val (.ref s2), .val (.ref s3), .val (.int (1 : Int32)), .val (.int (1 : Int32)), .val (.ref r), .val (.long (-1 : Int64)), .second, .val (.long (-1 : Int64)), .second, .val (.long (-1 : Int64)), .second, .val .null, .unset, .unset, .unset, .unset, .unset] [(.int (0 : Int32)), (.ref b14), (.ref b14)]))
  refine own_up (fun tx kx => XS.lload X14.here hx rfl (hb hby d8_17) rfl kx) ?_
  show OwnOk p e below _ (T14.setTop (mkF m 19 #[.val (.ref a), .val (.ref s1), .val (.ref s2), .val (.ref s3), .val (.int (1 : Int32)), .val (.int (1 : Int32)), .val (.ref r), .val (.long (-1 : Int64)), .second, .val (.long (-1 : Int64)), .second, .val (.long (-1 : Int64)), .second, .val .null, .unset, .unset, .unset, .unset, .unset] [(.long (-1 : Int64)), (.int (0 : Int32)), (.ref b14), (.ref b14)]))
  obtain ⟨cl18, Ar18, qc18, Sz18, Nn18, Hs18, Gf18⟩ := id V_b14
  have hin18 : ¬ ((0 : Int32) < 0 ∨ cl18.slots.size ≤ ((0 : Int32)).toNatClampNeg) := inb_of Sz18 ⟨by decide, by decide⟩
  obtain ⟨T19, h19, X19, e19, W19, st19⟩ := stJ X14 hx hZ12 e14 Ar18 (j := (0 : Int32)) hin18 (g := (mkF m 19 #[.val (.ref a), .val (.ref s1), .val (.ref s2), .val (.ref s3), .val (.int (1 : Int32)), .val (.int (1 : Int32)), .val (.ref r), .val (.long (-1 : Int64)), .second, .val (.long (-1 : Int64)), .second, .val (.long (-1 : Int64)), .second, .val .null, .unset, .unset, .unset, .unset, .unset] [(.long (-1 : Int64)), (.int (0 : Int32)), (.ref b14), (.ref b14)])) rfl rfl (hb hby d8_19)
  have V_b14_19 : Arv Z h19 b14 k14 .long (2 : Int32) [(.long (-1 : Int64)), (.long (0 : Int64))] (.long (0 : Int64)) := Arv.set Ar18 qc18 Sz18 Nn18 Hs18 Gf18 rfl W19 0 rfl (Nat.le_of_ble_eq_true rfl)
  have N19 := Fr.snoc X19 N13 n0_b14
  have OL20 := OL17.wr W19 n0_b14
  have KP20 := KP17.wr W19 (Or.inr ws_b14)
  have hB20 := hB17.wr W19
  refine own_up st19 ?_
  show OwnOk p e below _ (T19.setTop (mkF m 20 #[.val (.ref a), .val (.ref s1), .val (.ref s2), .val (.ref s3), .val (.int (1 : Int32)), .val (.int (1 : Int32)), .val (.ref r), .val (.long (-1 : Int64)), .second, .val (.long (-1 : Int64)), .second, .val (.long (-1 : Int64)), .second, .val .null, .unset, .unset, .unset, .unset, .unset] [(.ref b14)]))
  refine own_up (fun tx kx => XS.dup X19.here hx rfl (hb hby d8_20) rfl rfl kx) ?_
  show OwnOk p e below _ (T19.setTop (mkF m 21 #[.val (.ref a), .val (.ref s1), .val (.ref s2), .val (.ref s3), .val (.int (1 : Int32)), .val (.int (1 : Int32)), .val (.ref r), .val (.long (-1 : Int64)), .second, .val (.long (-1 : Int64)), .second, .val (.long (-1 : Int64)), .second, .val .null, .unset, .unset, .unset, .unset, .unset] [(.ref b14), (.ref b14)]))
  refine own_up (fun tx kx => XS.iconst X19.here hx rfl (hb hby d8_21) kx) ?_
  show OwnOk p e below _ (T19.setTop (mkF m 22 #[.val (.ref a), .val (.ref s1), .val (.ref s2), .val (.ref s3), .val (.int (1 : Int32)), .val (.int (1 : Int32)), .val (.ref r), .val (.long (-1 : Int64)), .second, .val (.long (-1 : Int64)), .second, .val (.long (-1 : Int64)), .second, .val .null, .unset, .unset, .unset, .unset, .unset] [(.int (1 : Int32)), (.ref b14), (.ref b14)]))
  refine own_up (fun tx kx => XS.lload X19.here hx rfl (hb hby d8_22) rfl kx) ?_
  show OwnOk p e below _ (T19.setTop (mkF m 24 #[.val (.ref a), .val (.ref s1), .val (.ref s2), .val (.ref s3), .val (.int (1 : Int32)), .val (.int (1 : Int32)), .val (.ref r), .val (.long (-1 : Int64)), .second, .val (.long (-1 : Int64)), .second, .val (.long (-1 : Int64)), .second, .val .null, .unset, .unset, .unset, .unset, .unset] [(.long (-1 : Int64)), (.int (1 : Int32)), (.ref b14), (.ref b14)]))
  obtain ⟨cl21, Ar21, qc21, Sz21, Nn21, Hs21, Gf21⟩ := id V_b14_19
  have hin21 : ¬ ((1 : Int32) < 0 ∨ cl21.slots.size ≤ ((1 : Int32)).toNatClampNeg) := inb_of Sz21 ⟨by decide, by decide⟩
  obtain ⟨T22, h22, X22, e22, W22, st22⟩ := stJ X19 hx hZ12 e19 Ar21 (j := (1 : Int32)) hin21 (g := (mkF m 24 #[.val (.ref a), .val (.ref s1), .val (.ref s2), .val (.ref s3), .val (.int (1 : Int32)), .val (.int (1 : Int32)), .val (.ref r), .val (.long (-1 : Int64)), .second, .val (.long (-1 : Int64)), .second, .val (.long (-1 : Int64)), .second, .val .null, .unset, .unset, .unset, .unset, .unset] [(.long (-1 : Int64)), (.int (1 : Int32)), (.ref b14), (.ref b14)])) rfl rfl (hb hby d8_24)
  have V_b14_22 : Arv Z h22 b14 k14 .long (2 : Int32) [(.long (-1 : Int64)), (.long (-1 : Int64))] (.long (0 : Int64)) := Arv.set Ar21 qc21 Sz21 Nn21 Hs21 Gf21 rfl W22 1 rfl (Nat.le_of_ble_eq_true rfl)
  have N22 := Fr.snoc X22 N19 n0_b14
  have OL23 := OL20.wr W22 n0_b14
  have KP23 := KP20.wr W22 (Or.inr ws_b14)
  have hB23 := hB20.wr W22
  refine own_up st22 ?_
  show OwnOk p e below _ (T22.setTop (mkF m 25 #[.val (.ref a), .val (.ref s1), .val (.ref s2), .val (.ref s3), .val (.int (1 : Int32)), .val (.int (1 : Int32)), .val (.ref r), .val (.long (-1 : Int64)), .second, .val (.long (-1 : Int64)), .second, .val (.long (-1 : Int64)), .second, .val .null, .unset, .unset, .unset, .unset, .unset] [(.ref b14)]))
  refine own_up (fun tx kx => XS.astore X22.here hx rfl (hb hby d8_25) rfl rfl (l' := #[.val (.ref a), .val (.ref s1), .val (.ref s2), .val (.ref s3), .val (.int (1 : Int32)), .val (.int (1 : Int32)), .val (.ref r), .val (.long (-1 : Int64)), .second, .val (.long (-1 : Int64)), .second, .val (.long (-1 : Int64)), .second, .val .null, .val (.ref b14), .unset, .unset, .unset, .unset]) rfl kx) ?_
  show OwnOk p e below _ (T22.setTop (mkF m 27 #[.val (.ref a), .val (.ref s1), .val (.ref s2), .val (.ref s3), .val (.int (1 : Int32)), .val (.int (1 : Int32)), .val (.ref r), .val (.long (-1 : Int64)), .second, .val (.long (-1 : Int64)), .second, .val (.long (-1 : Int64)), .second, .val .null, .val (.ref b14), .unset, .unset, .unset, .unset] []))
  refine own_up (fun tx kx => XS.aload X22.here hx rfl (hb hby d8_27) rfl rfl kx) ?_
  show OwnOk p e below _ (T22.setTop (mkF m 29 #[.val (.ref a), .val (.ref s1), .val (.ref s2), .val (.ref s3), .val (.int (1 : Int32)), .val (.int (1 : Int32)), .val (.ref r), .val (.long (-1 : Int64)), .second, .val (.long (-1 : Int64)), .second, .val (.long (-1 : Int64)), .second, .val .null, .val (.ref b14), .unset, .unset, .unset, .unset] [(.ref b14)]))
  obtain ⟨cl24, Ar24, qc24, Sz24, Nn24, Hs24, Gf24⟩ := id V_b14_22
  have hlen24 : cl24.slots.size.toInt32 = (2 : Int32) := len_of Sz24 Nn24
  refine own_up (fun tx kx => X22.arraylength hx (own_ar e22 Ar24.1) (State.isArrayOf_alike hZ12.alike Ar24.2.1) (g := (mkF m 29 #[.val (.ref a), .val (.ref s1), .val (.ref s2), .val (.ref s3), .val (.int (1 : Int32)), .val (.int (1 : Int32)), .val (.ref r), .val (.long (-1 : Int64)), .second, .val (.long (-1 : Int64)), .second, .val (.long (-1 : Int64)), .second, .val .null, .val (.ref b14), .unset, .unset, .unset, .unset] [(.ref b14)])) rfl rfl (hb hby d8_29) _ kx) ?_
  rw [hlen24]
  show OwnOk p e below _ (T22.setTop (mkF m 30 #[.val (.ref a), .val (.ref s1), .val (.ref s2), .val (.ref s3), .val (.int (1 : Int32)), .val (.int (1 : Int32)), .val (.ref r), .val (.long (-1 : Int64)), .second, .val (.long (-1 : Int64)), .second, .val (.long (-1 : Int64)), .second, .val .null, .val (.ref b14), .unset, .unset, .unset, .unset] [(.int (2 : Int32))]))
  refine own_up (fun tx kx => XS.istore X22.here hx rfl (hb hby d8_30) rfl (l' := #[.val (.ref a), .val (.ref s1), .val (.ref s2), .val (.ref s3), .val (.int (1 : Int32)), .val (.int (1 : Int32)), .val (.ref r), .val (.long (-1 : Int64)), .second, .val (.long (-1 : Int64)), .second, .val (.long (-1 : Int64)), .second, .val .null, .val (.ref b14), .val (.int (2 : Int32)), .unset, .unset, .unset]) rfl kx) ?_
  show OwnOk p e below _ (T22.setTop (mkF m 32 #[.val (.ref a), .val (.ref s1), .val (.ref s2), .val (.ref s3), .val (.int (1 : Int32)), .val (.int (1 : Int32)), .val (.ref r), .val (.long (-1 : Int64)), .second, .val (.long (-1 : Int64)), .second, .val (.long (-1 : Int64)), .second, .val .null, .val (.ref b14), .val (.int (2 : Int32)), .unset, .unset, .unset] []))
  refine own_up (fun tx kx => XS.iconst X22.here hx rfl (hb hby d8_32) kx) ?_
  show OwnOk p e below _ (T22.setTop (mkF m 33 #[.val (.ref a), .val (.ref s1), .val (.ref s2), .val (.ref s3), .val (.int (1 : Int32)), .val (.int (1 : Int32)), .val (.ref r), .val (.long (-1 : Int64)), .second, .val (.long (-1 : Int64)), .second, .val (.long (-1 : Int64)), .second, .val .null, .val (.ref b14), .val (.int (2 : Int32)), .unset, .unset, .unset] [(.int (0 : Int32))]))
  refine own_up (fun tx kx => XS.istore X22.here hx rfl (hb hby d8_33) rfl (l' := #[.val (.ref a), .val (.ref s1), .val (.ref s2), .val (.ref s3), .val (.int (1 : Int32)), .val (.int (1 : Int32)), .val (.ref r), .val (.long (-1 : Int64)), .second, .val (.long (-1 : Int64)), .second, .val (.long (-1 : Int64)), .second, .val .null, .val (.ref b14), .val (.int (2 : Int32)), .val (.int (0 : Int32)), .unset, .unset]) rfl kx) ?_
  show OwnOk p e below _ (T22.setTop (mkF m 35 #[.val (.ref a), .val (.ref s1), .val (.ref s2), .val (.ref s3), .val (.int (1 : Int32)), .val (.int (1 : Int32)), .val (.ref r), .val (.long (-1 : Int64)), .second, .val (.long (-1 : Int64)), .second, .val (.long (-1 : Int64)), .second, .val .null, .val (.ref b14), .val (.int (2 : Int32)), .val (.int (0 : Int32)), .unset, .unset] []))
  refine own_up (fun tx kx => XS.iload X22.here hx rfl (hb hby d8_35) rfl kx) ?_
  show OwnOk p e below _ (T22.setTop (mkF m 37 #[.val (.ref a), .val (.ref s1), .val (.ref s2), .val (.ref s3), .val (.int (1 : Int32)), .val (.int (1 : Int32)), .val (.ref r), .val (.long (-1 : Int64)), .second, .val (.long (-1 : Int64)), .second, .val (.long (-1 : Int64)), .second, .val .null, .val (.ref b14), .val (.int (2 : Int32)), .val (.int (0 : Int32)), .unset, .unset] [(.int (0 : Int32))]))
  refine own_up (fun tx kx => XS.iload X22.here hx rfl (hb hby d8_37) rfl kx) ?_
  show OwnOk p e below _ (T22.setTop (mkF m 39 #[.val (.ref a), .val (.ref s1), .val (.ref s2), .val (.ref s3), .val (.int (1 : Int32)), .val (.int (1 : Int32)), .val (.ref r), .val (.long (-1 : Int64)), .second, .val (.long (-1 : Int64)), .second, .val (.long (-1 : Int64)), .second, .val .null, .val (.ref b14), .val (.int (2 : Int32)), .val (.int (0 : Int32)), .unset, .unset] [(.int (2 : Int32)), (.int (0 : Int32))]))
  refine own_up (fun tx kx => XS.icmpNo X22.here hx rfl (hb hby d8_39) rfl (tlt (by decide)).2.1 kx) ?_
  show OwnOk p e below _ (T22.setTop (mkF m 42 #[.val (.ref a), .val (.ref s1), .val (.ref s2), .val (.ref s3), .val (.int (1 : Int32)), .val (.int (1 : Int32)), .val (.ref r), .val (.long (-1 : Int64)), .second, .val (.long (-1 : Int64)), .second, .val (.long (-1 : Int64)), .second, .val .null, .val (.ref b14), .val (.int (2 : Int32)), .val (.int (0 : Int32)), .unset, .unset] []))
  refine own_up (fun tx kx => XS.aload X22.here hx rfl (hb hby d8_42) rfl rfl kx) ?_
  show OwnOk p e below _ (T22.setTop (mkF m 44 #[.val (.ref a), .val (.ref s1), .val (.ref s2), .val (.ref s3), .val (.int (1 : Int32)), .val (.int (1 : Int32)), .val (.ref r), .val (.long (-1 : Int64)), .second, .val (.long (-1 : Int64)), .second, .val (.long (-1 : Int64)), .second, .val .null, .val (.ref b14), .val (.int (2 : Int32)), .val (.int (0 : Int32)), .unset, .unset] [(.ref b14)]))
  refine own_up (fun tx kx => XS.iload X22.here hx rfl (hb hby d8_44) rfl kx) ?_
  show OwnOk p e below _ (T22.setTop (mkF m 46 #[.val (.ref a), .val (.ref s1), .val (.ref s2), .val (.ref s3), .val (.int (1 : Int32)), .val (.int (1 : Int32)), .val (.ref r), .val (.long (-1 : Int64)), .second, .val (.long (-1 : Int64)), .second, .val (.long (-1 : Int64)), .second, .val .null, .val (.ref b14), .val (.int (2 : Int32)), .val (.int (0 : Int32)), .unset, .unset] [(.int (0 : Int32)), (.ref b14)]))
  obtain ⟨cl25, Ar25, qc25, Sz25, Nn25, Hs25, Gf25⟩ := id V_b14_22
  have hin25 : ¬ ((0 : Int32) < 0 ∨ cl25.slots.size ≤ ((0 : Int32)).toNatClampNeg) := inb_of Sz25 ⟨by decide, by decide⟩
  have hat25 : cl25.slots[((0 : Int32)).toNatClampNeg]? = some (.long (-1 : Int64)) := Hs25.at hin25 rfl
  refine own_up (fun tx kx => X22.laload hx (j := (0 : Int32)) (v := (.long (-1 : Int64))) (own_ar e22 Ar25.1) (State.isArrayOf_alike hZ12.alike Ar25.2.1) Ar25.2.2 hin25 hat25 (g := (mkF m 46 #[.val (.ref a), .val (.ref s1), .val (.ref s2), .val (.ref s3), .val (.int (1 : Int32)), .val (.int (1 : Int32)), .val (.ref r), .val (.long (-1 : Int64)), .second, .val (.long (-1 : Int64)), .second, .val (.long (-1 : Int64)), .second, .val .null, .val (.ref b14), .val (.int (2 : Int32)), .val (.int (0 : Int32)), .unset, .unset] [(.int (0 : Int32)), (.ref b14)])) rfl rfl (hb hby d8_46) _ kx) ?_
  show OwnOk p e below _ (T22.setTop (mkF m 47 #[.val (.ref a), .val (.ref s1), .val (.ref s2), .val (.ref s3), .val (.int (1 : Int32)), .val (.int (1 : Int32)), .val (.ref r), .val (.long (-1 : Int64)), .second, .val (.long (-1 : Int64)), .second, .val (.long (-1 : Int64)), .second, .val .null, .val (.ref b14), .val (.int (2 : Int32)), .val (.int (0 : Int32)), .unset, .unset] [(.long (-1 : Int64))]))
  refine own_up (fun tx kx => XS.lstore X22.here hx rfl (hb hby d8_47) rfl (l' := #[.val (.ref a), .val (.ref s1), .val (.ref s2), .val (.ref s3), .val (.int (1 : Int32)), .val (.int (1 : Int32)), .val (.ref r), .val (.long (-1 : Int64)), .second, .val (.long (-1 : Int64)), .second, .val (.long (-1 : Int64)), .second, .val .null, .val (.ref b14), .val (.int (2 : Int32)), .val (.int (0 : Int32)), .val (.long (-1 : Int64)), .second]) rfl kx) ?_
  show OwnOk p e below _ (T22.setTop (mkF m 49 #[.val (.ref a), .val (.ref s1), .val (.ref s2), .val (.ref s3), .val (.int (1 : Int32)), .val (.int (1 : Int32)), .val (.ref r), .val (.long (-1 : Int64)), .second, .val (.long (-1 : Int64)), .second, .val (.long (-1 : Int64)), .second, .val .null, .val (.ref b14), .val (.int (2 : Int32)), .val (.int (0 : Int32)), .val (.long (-1 : Int64)), .second] []))
  refine own_up (fun tx kx => XS.lload X22.here hx rfl (hb hby d8_49) rfl kx) ?_
  show OwnOk p e below _ (T22.setTop (mkF m 51 #[.val (.ref a), .val (.ref s1), .val (.ref s2), .val (.ref s3), .val (.int (1 : Int32)), .val (.int (1 : Int32)), .val (.ref r), .val (.long (-1 : Int64)), .second, .val (.long (-1 : Int64)), .second, .val (.long (-1 : Int64)), .second, .val .null, .val (.ref b14), .val (.int (2 : Int32)), .val (.int (0 : Int32)), .val (.long (-1 : Int64)), .second] [(.long (-1 : Int64))]))
  refine own_up (fun tx kx => XS.lconst X22.here hx rfl (hb hby d8_51) kx) ?_
  show OwnOk p e below _ (T22.setTop (mkF m 52 #[.val (.ref a), .val (.ref s1), .val (.ref s2), .val (.ref s3), .val (.int (1 : Int32)), .val (.int (1 : Int32)), .val (.ref r), .val (.long (-1 : Int64)), .second, .val (.long (-1 : Int64)), .second, .val (.long (-1 : Int64)), .second, .val .null, .val (.ref b14), .val (.int (2 : Int32)), .val (.int (0 : Int32)), .val (.long (-1 : Int64)), .second] [(.long (1 : Int64)), (.long (-1 : Int64))]))
  refine own_up (fun tx kx => XS.lcmp X22.here hx rfl (hb hby d8_52) rfl kx) ?_
  show OwnOk p e below _ (T22.setTop (mkF m 53 #[.val (.ref a), .val (.ref s1), .val (.ref s2), .val (.ref s3), .val (.int (1 : Int32)), .val (.int (1 : Int32)), .val (.ref r), .val (.long (-1 : Int64)), .second, .val (.long (-1 : Int64)), .second, .val (.long (-1 : Int64)), .second, .val .null, .val (.ref b14), .val (.int (2 : Int32)), .val (.int (0 : Int32)), .val (.long (-1 : Int64)), .second] [(.int (lcmpW (-1 : Int64) (1 : Int64)))]))
  refine own_up (fun tx kx => XS.ifNo X22.here hx rfl (hb hby d8_53) rfl (own_jtlt (by decide)).2.1 kx) ?_
  show OwnOk p e below _ (T22.setTop (mkF m 56 #[.val (.ref a), .val (.ref s1), .val (.ref s2), .val (.ref s3), .val (.int (1 : Int32)), .val (.int (1 : Int32)), .val (.ref r), .val (.long (-1 : Int64)), .second, .val (.long (-1 : Int64)), .second, .val (.long (-1 : Int64)), .second, .val .null, .val (.ref b14), .val (.int (2 : Int32)), .val (.int (0 : Int32)), .val (.long (-1 : Int64)), .second] []))
  refine own_up (fun tx kx => XS.lload X22.here hx rfl (hb hby d8_56) rfl kx) ?_
  show OwnOk p e below _ (T22.setTop (mkF m 58 #[.val (.ref a), .val (.ref s1), .val (.ref s2), .val (.ref s3), .val (.int (1 : Int32)), .val (.int (1 : Int32)), .val (.ref r), .val (.long (-1 : Int64)), .second, .val (.long (-1 : Int64)), .second, .val (.long (-1 : Int64)), .second, .val .null, .val (.ref b14), .val (.int (2 : Int32)), .val (.int (0 : Int32)), .val (.long (-1 : Int64)), .second] [(.long (-1 : Int64))]))
  refine own_up (fun tx kx => X22.ldc2Long hx hown12 (mvT hZ12 (wd_56 hw)) (g := (mkF m 58 #[.val (.ref a), .val (.ref s1), .val (.ref s2), .val (.ref s3), .val (.int (1 : Int32)), .val (.int (1 : Int32)), .val (.ref r), .val (.long (-1 : Int64)), .second, .val (.long (-1 : Int64)), .second, .val (.long (-1 : Int64)), .second, .val .null, .val (.ref b14), .val (.int (2 : Int32)), .val (.int (0 : Int32)), .val (.long (-1 : Int64)), .second] [(.long (-1 : Int64))])) rfl (hb hby d8_58) _ kx) ?_
  show OwnOk p e below _ (T22.setTop (mkF m 61 #[.val (.ref a), .val (.ref s1), .val (.ref s2), .val (.ref s3), .val (.int (1 : Int32)), .val (.int (1 : Int32)), .val (.ref r), .val (.long (-1 : Int64)), .second, .val (.long (-1 : Int64)), .second, .val (.long (-1 : Int64)), .second, .val .null, .val (.ref b14), .val (.int (2 : Int32)), .val (.int (0 : Int32)), .val (.long (-1 : Int64)), .second] [(.long (-1 : Int64)), (.long (-1 : Int64))]))
  refine own_up (fun tx kx => XS.lcmp X22.here hx rfl (hb hby d8_61) rfl kx) ?_
  show OwnOk p e below _ (T22.setTop (mkF m 62 #[.val (.ref a), .val (.ref s1), .val (.ref s2), .val (.ref s3), .val (.int (1 : Int32)), .val (.int (1 : Int32)), .val (.ref r), .val (.long (-1 : Int64)), .second, .val (.long (-1 : Int64)), .second, .val (.long (-1 : Int64)), .second, .val .null, .val (.ref b14), .val (.int (2 : Int32)), .val (.int (0 : Int32)), .val (.long (-1 : Int64)), .second] [(.int (lcmpW (-1 : Int64) (-1 : Int64)))]))
  refine own_up (fun tx kx => XS.ifYes X22.here hx rfl (pc0 := 62) (pc' := 81) rfl (hb hby d8_62) rfl (own_jteq rfl).1 (by decide) (by decide) kx) ?_
  show OwnOk p e below _ (T22.setTop (mkF m 81 #[.val (.ref a), .val (.ref s1), .val (.ref s2), .val (.ref s3), .val (.int (1 : Int32)), .val (.int (1 : Int32)), .val (.ref r), .val (.long (-1 : Int64)), .second, .val (.long (-1 : Int64)), .second, .val (.long (-1 : Int64)), .second, .val .null, .val (.ref b14), .val (.int (2 : Int32)), .val (.int (0 : Int32)), .val (.long (-1 : Int64)), .second] []))
  have hi81_26 : ((0 : Int32) + (1 : Int32)) = (1 : Int32) := by decide
  refine own_up (fun tx kx => XS.iinc X22.here hx rfl (hb hby d8_81) rfl (l' := #[.val (.ref a), .val (.ref s1), .val (.ref s2), .val (.ref s3), .val (.int (1 : Int32)), .val (.int (1 : Int32)), .val (.ref r), .val (.long (-1 : Int64)), .second, .val (.long (-1 : Int64)), .second, .val (.long (-1 : Int64)), .second, .val .null, .val (.ref b14), .val (.int (2 : Int32)), .val (.int ((0 : Int32) + (1 : Int32))), .val (.long (-1 : Int64)), .second]) rfl kx) ?_
  rw [hi81_26]
  show OwnOk p e below _ (T22.setTop (mkF m 84 #[.val (.ref a), .val (.ref s1), .val (.ref s2), .val (.ref s3), .val (.int (1 : Int32)), .val (.int (1 : Int32)), .val (.ref r), .val (.long (-1 : Int64)), .second, .val (.long (-1 : Int64)), .second, .val (.long (-1 : Int64)), .second, .val .null, .val (.ref b14), .val (.int (2 : Int32)), .val (.int (1 : Int32)), .val (.long (-1 : Int64)), .second] []))
  refine own_up (fun tx kx => XS.goto X22.here hx rfl (pc0 := 84) (pc' := 35) rfl (hb hby d8_84) (by decide) (by decide) kx) ?_
  show OwnOk p e below _ (T22.setTop (mkF m 35 #[.val (.ref a), .val (.ref s1), .val (.ref s2), .val (.ref s3), .val (.int (1 : Int32)), .val (.int (1 : Int32)), .val (.ref r), .val (.long (-1 : Int64)), .second, .val (.long (-1 : Int64)), .second, .val (.long (-1 : Int64)), .second, .val .null, .val (.ref b14), .val (.int (2 : Int32)), .val (.int (1 : Int32)), .val (.long (-1 : Int64)), .second] []))
  refine own_up (fun tx kx => XS.iload X22.here hx rfl (hb hby d8_35) rfl kx) ?_
  show OwnOk p e below _ (T22.setTop (mkF m 37 #[.val (.ref a), .val (.ref s1), .val (.ref s2), .val (.ref s3), .val (.int (1 : Int32)), .val (.int (1 : Int32)), .val (.ref r), .val (.long (-1 : Int64)), .second, .val (.long (-1 : Int64)), .second, .val (.long (-1 : Int64)), .second, .val .null, .val (.ref b14), .val (.int (2 : Int32)), .val (.int (1 : Int32)), .val (.long (-1 : Int64)), .second] [(.int (1 : Int32))]))
  refine own_up (fun tx kx => XS.iload X22.here hx rfl (hb hby d8_37) rfl kx) ?_
  show OwnOk p e below _ (T22.setTop (mkF m 39 #[.val (.ref a), .val (.ref s1), .val (.ref s2), .val (.ref s3), .val (.int (1 : Int32)), .val (.int (1 : Int32)), .val (.ref r), .val (.long (-1 : Int64)), .second, .val (.long (-1 : Int64)), .second, .val (.long (-1 : Int64)), .second, .val .null, .val (.ref b14), .val (.int (2 : Int32)), .val (.int (1 : Int32)), .val (.long (-1 : Int64)), .second] [(.int (2 : Int32)), (.int (1 : Int32))]))
  refine own_up (fun tx kx => XS.icmpNo X22.here hx rfl (hb hby d8_39) rfl (tlt (by decide)).2.1 kx) ?_
  show OwnOk p e below _ (T22.setTop (mkF m 42 #[.val (.ref a), .val (.ref s1), .val (.ref s2), .val (.ref s3), .val (.int (1 : Int32)), .val (.int (1 : Int32)), .val (.ref r), .val (.long (-1 : Int64)), .second, .val (.long (-1 : Int64)), .second, .val (.long (-1 : Int64)), .second, .val .null, .val (.ref b14), .val (.int (2 : Int32)), .val (.int (1 : Int32)), .val (.long (-1 : Int64)), .second] []))
  refine own_up (fun tx kx => XS.aload X22.here hx rfl (hb hby d8_42) rfl rfl kx) ?_
  show OwnOk p e below _ (T22.setTop (mkF m 44 #[.val (.ref a), .val (.ref s1), .val (.ref s2), .val (.ref s3), .val (.int (1 : Int32)), .val (.int (1 : Int32)), .val (.ref r), .val (.long (-1 : Int64)), .second, .val (.long (-1 : Int64)), .second, .val (.long (-1 : Int64)), .second, .val .null, .val (.ref b14), .val (.int (2 : Int32)), .val (.int (1 : Int32)), .val (.long (-1 : Int64)), .second] [(.ref b14)]))
  refine own_up (fun tx kx => XS.iload X22.here hx rfl (hb hby d8_44) rfl kx) ?_
  show OwnOk p e below _ (T22.setTop (mkF m 46 #[.val (.ref a), .val (.ref s1), .val (.ref s2), .val (.ref s3), .val (.int (1 : Int32)), .val (.int (1 : Int32)), .val (.ref r), .val (.long (-1 : Int64)), .second, .val (.long (-1 : Int64)), .second, .val (.long (-1 : Int64)), .second, .val .null, .val (.ref b14), .val (.int (2 : Int32)), .val (.int (1 : Int32)), .val (.long (-1 : Int64)), .second] [(.int (1 : Int32)), (.ref b14)]))
  obtain ⟨cl27, Ar27, qc27, Sz27, Nn27, Hs27, Gf27⟩ := id V_b14_22
  have hin27 : ¬ ((1 : Int32) < 0 ∨ cl27.slots.size ≤ ((1 : Int32)).toNatClampNeg) := inb_of Sz27 ⟨by decide, by decide⟩
  have hat27 : cl27.slots[((1 : Int32)).toNatClampNeg]? = some (.long (-1 : Int64)) := Hs27.at hin27 rfl
  refine own_up (fun tx kx => X22.laload hx (j := (1 : Int32)) (v := (.long (-1 : Int64))) (own_ar e22 Ar27.1) (State.isArrayOf_alike hZ12.alike Ar27.2.1) Ar27.2.2 hin27 hat27 (g := (mkF m 46 #[.val (.ref a), .val (.ref s1), .val (.ref s2), .val (.ref s3), .val (.int (1 : Int32)), .val (.int (1 : Int32)), .val (.ref r), .val (.long (-1 : Int64)), .second, .val (.long (-1 : Int64)), .second, .val (.long (-1 : Int64)), .second, .val .null, .val (.ref b14), .val (.int (2 : Int32)), .val (.int (1 : Int32)), .val (.long (-1 : Int64)), .second] [(.int (1 : Int32)), (.ref b14)])) rfl rfl (hb hby d8_46) _ kx) ?_
  show OwnOk p e below _ (T22.setTop (mkF m 47 #[.val (.ref a), .val (.ref s1), .val (.ref s2), .val (.ref s3), .val (.int (1 : Int32)), .val (.int (1 : Int32)), .val (.ref r), .val (.long (-1 : Int64)), .second, .val (.long (-1 : Int64)), .second, .val (.long (-1 : Int64)), .second, .val .null, .val (.ref b14), .val (.int (2 : Int32)), .val (.int (1 : Int32)), .val (.long (-1 : Int64)), .second] [(.long (-1 : Int64))]))
  refine own_up (fun tx kx => XS.lstore X22.here hx rfl (hb hby d8_47) rfl (l' := #[.val (.ref a), .val (.ref s1), .val (.ref s2), .val (.ref s3), .val (.int (1 : Int32)), .val (.int (1 : Int32)), .val (.ref r), .val (.long (-1 : Int64)), .second, .val (.long (-1 : Int64)), .second, .val (.long (-1 : Int64)), .second, .val .null, .val (.ref b14), .val (.int (2 : Int32)), .val (.int (1 : Int32)), .val (.long (-1 : Int64)), .second]) rfl kx) ?_
  show OwnOk p e below _ (T22.setTop (mkF m 49 #[.val (.ref a), .val (.ref s1), .val (.ref s2), .val (.ref s3), .val (.int (1 : Int32)), .val (.int (1 : Int32)), .val (.ref r), .val (.long (-1 : Int64)), .second, .val (.long (-1 : Int64)), .second, .val (.long (-1 : Int64)), .second, .val .null, .val (.ref b14), .val (.int (2 : Int32)), .val (.int (1 : Int32)), .val (.long (-1 : Int64)), .second] []))
  refine own_up (fun tx kx => XS.lload X22.here hx rfl (hb hby d8_49) rfl kx) ?_
  show OwnOk p e below _ (T22.setTop (mkF m 51 #[.val (.ref a), .val (.ref s1), .val (.ref s2), .val (.ref s3), .val (.int (1 : Int32)), .val (.int (1 : Int32)), .val (.ref r), .val (.long (-1 : Int64)), .second, .val (.long (-1 : Int64)), .second, .val (.long (-1 : Int64)), .second, .val .null, .val (.ref b14), .val (.int (2 : Int32)), .val (.int (1 : Int32)), .val (.long (-1 : Int64)), .second] [(.long (-1 : Int64))]))
  refine own_up (fun tx kx => XS.lconst X22.here hx rfl (hb hby d8_51) kx) ?_
  show OwnOk p e below _ (T22.setTop (mkF m 52 #[.val (.ref a), .val (.ref s1), .val (.ref s2), .val (.ref s3), .val (.int (1 : Int32)), .val (.int (1 : Int32)), .val (.ref r), .val (.long (-1 : Int64)), .second, .val (.long (-1 : Int64)), .second, .val (.long (-1 : Int64)), .second, .val .null, .val (.ref b14), .val (.int (2 : Int32)), .val (.int (1 : Int32)), .val (.long (-1 : Int64)), .second] [(.long (1 : Int64)), (.long (-1 : Int64))]))
  refine own_up (fun tx kx => XS.lcmp X22.here hx rfl (hb hby d8_52) rfl kx) ?_
  show OwnOk p e below _ (T22.setTop (mkF m 53 #[.val (.ref a), .val (.ref s1), .val (.ref s2), .val (.ref s3), .val (.int (1 : Int32)), .val (.int (1 : Int32)), .val (.ref r), .val (.long (-1 : Int64)), .second, .val (.long (-1 : Int64)), .second, .val (.long (-1 : Int64)), .second, .val .null, .val (.ref b14), .val (.int (2 : Int32)), .val (.int (1 : Int32)), .val (.long (-1 : Int64)), .second] [(.int (lcmpW (-1 : Int64) (1 : Int64)))]))
  refine own_up (fun tx kx => XS.ifNo X22.here hx rfl (hb hby d8_53) rfl (own_jtlt (by decide)).2.1 kx) ?_
  show OwnOk p e below _ (T22.setTop (mkF m 56 #[.val (.ref a), .val (.ref s1), .val (.ref s2), .val (.ref s3), .val (.int (1 : Int32)), .val (.int (1 : Int32)), .val (.ref r), .val (.long (-1 : Int64)), .second, .val (.long (-1 : Int64)), .second, .val (.long (-1 : Int64)), .second, .val .null, .val (.ref b14), .val (.int (2 : Int32)), .val (.int (1 : Int32)), .val (.long (-1 : Int64)), .second] []))
  refine own_up (fun tx kx => XS.lload X22.here hx rfl (hb hby d8_56) rfl kx) ?_
  show OwnOk p e below _ (T22.setTop (mkF m 58 #[.val (.ref a), .val (.ref s1), .val (.ref s2), .val (.ref s3), .val (.int (1 : Int32)), .val (.int (1 : Int32)), .val (.ref r), .val (.long (-1 : Int64)), .second, .val (.long (-1 : Int64)), .second, .val (.long (-1 : Int64)), .second, .val .null, .val (.ref b14), .val (.int (2 : Int32)), .val (.int (1 : Int32)), .val (.long (-1 : Int64)), .second] [(.long (-1 : Int64))]))
  refine own_up (fun tx kx => X22.ldc2Long hx hown12 (mvT hZ12 (wd_56 hw)) (g := (mkF m 58 #[.val (.ref a), .val (.ref s1), .val (.ref s2), .val (.ref s3), .val (.int (1 : Int32)), .val (.int (1 : Int32)), .val (.ref r), .val (.long (-1 : Int64)), .second, .val (.long (-1 : Int64)), .second, .val (.long (-1 : Int64)), .second, .val .null, .val (.ref b14), .val (.int (2 : Int32)), .val (.int (1 : Int32)), .val (.long (-1 : Int64)), .second] [(.long (-1 : Int64))])) rfl (hb hby d8_58) _ kx) ?_
  show OwnOk p e below _ (T22.setTop (mkF m 61 #[.val (.ref a), .val (.ref s1), .val (.ref s2), .val (.ref s3), .val (.int (1 : Int32)), .val (.int (1 : Int32)), .val (.ref r), .val (.long (-1 : Int64)), .second, .val (.long (-1 : Int64)), .second, .val (.long (-1 : Int64)), .second, .val .null, .val (.ref b14), .val (.int (2 : Int32)), .val (.int (1 : Int32)), .val (.long (-1 : Int64)), .second] [(.long (-1 : Int64)), (.long (-1 : Int64))]))
  refine own_up (fun tx kx => XS.lcmp X22.here hx rfl (hb hby d8_61) rfl kx) ?_
  show OwnOk p e below _ (T22.setTop (mkF m 62 #[.val (.ref a), .val (.ref s1), .val (.ref s2), .val (.ref s3), .val (.int (1 : Int32)), .val (.int (1 : Int32)), .val (.ref r), .val (.long (-1 : Int64)), .second, .val (.long (-1 : Int64)), .second, .val (.long (-1 : Int64)), .second, .val .null, .val (.ref b14), .val (.int (2 : Int32)), .val (.int (1 : Int32)), .val (.long (-1 : Int64)), .second] [(.int (lcmpW (-1 : Int64) (-1 : Int64)))]))
  refine own_up (fun tx kx => XS.ifYes X22.here hx rfl (pc0 := 62) (pc' := 81) rfl (hb hby d8_62) rfl (own_jteq rfl).1 (by decide) (by decide) kx) ?_
  show OwnOk p e below _ (T22.setTop (mkF m 81 #[.val (.ref a), .val (.ref s1), .val (.ref s2), .val (.ref s3), .val (.int (1 : Int32)), .val (.int (1 : Int32)), .val (.ref r), .val (.long (-1 : Int64)), .second, .val (.long (-1 : Int64)), .second, .val (.long (-1 : Int64)), .second, .val .null, .val (.ref b14), .val (.int (2 : Int32)), .val (.int (1 : Int32)), .val (.long (-1 : Int64)), .second] []))
  have hi81_28 : ((1 : Int32) + (1 : Int32)) = (2 : Int32) := by decide
  refine own_up (fun tx kx => XS.iinc X22.here hx rfl (hb hby d8_81) rfl (l' := #[.val (.ref a), .val (.ref s1), .val (.ref s2), .val (.ref s3), .val (.int (1 : Int32)), .val (.int (1 : Int32)), .val (.ref r), .val (.long (-1 : Int64)), .second, .val (.long (-1 : Int64)), .second, .val (.long (-1 : Int64)), .second, .val .null, .val (.ref b14), .val (.int (2 : Int32)), .val (.int ((1 : Int32) + (1 : Int32))), .val (.long (-1 : Int64)), .second]) rfl kx) ?_
  rw [hi81_28]
  show OwnOk p e below _ (T22.setTop (mkF m 84 #[.val (.ref a), .val (.ref s1), .val (.ref s2), .val (.ref s3), .val (.int (1 : Int32)), .val (.int (1 : Int32)), .val (.ref r), .val (.long (-1 : Int64)), .second, .val (.long (-1 : Int64)), .second, .val (.long (-1 : Int64)), .second, .val .null, .val (.ref b14), .val (.int (2 : Int32)), .val (.int (2 : Int32)), .val (.long (-1 : Int64)), .second] []))
  refine own_up (fun tx kx => XS.goto X22.here hx rfl (pc0 := 84) (pc' := 35) rfl (hb hby d8_84) (by decide) (by decide) kx) ?_
  show OwnOk p e below _ (T22.setTop (mkF m 35 #[.val (.ref a), .val (.ref s1), .val (.ref s2), .val (.ref s3), .val (.int (1 : Int32)), .val (.int (1 : Int32)), .val (.ref r), .val (.long (-1 : Int64)), .second, .val (.long (-1 : Int64)), .second, .val (.long (-1 : Int64)), .second, .val .null, .val (.ref b14), .val (.int (2 : Int32)), .val (.int (2 : Int32)), .val (.long (-1 : Int64)), .second] []))
  refine own_up (fun tx kx => XS.iload X22.here hx rfl (hb hby d8_35) rfl kx) ?_
  show OwnOk p e below _ (T22.setTop (mkF m 37 #[.val (.ref a), .val (.ref s1), .val (.ref s2), .val (.ref s3), .val (.int (1 : Int32)), .val (.int (1 : Int32)), .val (.ref r), .val (.long (-1 : Int64)), .second, .val (.long (-1 : Int64)), .second, .val (.long (-1 : Int64)), .second, .val .null, .val (.ref b14), .val (.int (2 : Int32)), .val (.int (2 : Int32)), .val (.long (-1 : Int64)), .second] [(.int (2 : Int32))]))
  refine own_up (fun tx kx => XS.iload X22.here hx rfl (hb hby d8_37) rfl kx) ?_
  show OwnOk p e below _ (T22.setTop (mkF m 39 #[.val (.ref a), .val (.ref s1), .val (.ref s2), .val (.ref s3), .val (.int (1 : Int32)), .val (.int (1 : Int32)), .val (.ref r), .val (.long (-1 : Int64)), .second, .val (.long (-1 : Int64)), .second, .val (.long (-1 : Int64)), .second, .val .null, .val (.ref b14), .val (.int (2 : Int32)), .val (.int (2 : Int32)), .val (.long (-1 : Int64)), .second] [(.int (2 : Int32)), (.int (2 : Int32))]))
  refine own_up (fun tx kx => XS.icmpYes X22.here hx rfl (pc0 := 39) (pc' := 87) rfl (hb hby d8_39) rfl (flt (by decide)).2.1 (by decide) (by decide) kx) ?_
  show OwnOk p e below _ (T22.setTop (mkF m 87 #[.val (.ref a), .val (.ref s1), .val (.ref s2), .val (.ref s3), .val (.int (1 : Int32)), .val (.int (1 : Int32)), .val (.ref r), .val (.long (-1 : Int64)), .second, .val (.long (-1 : Int64)), .second, .val (.long (-1 : Int64)), .second, .val .null, .val (.ref b14), .val (.int (2 : Int32)), .val (.int (2 : Int32)), .val (.long (-1 : Int64)), .second] []))
  refine own_up (fun tx kx => XS.lload X22.here hx rfl (hb hby d8_87) rfl kx) ?_
  show OwnOk p e below _ (T22.setTop (mkF m 89 #[.val (.ref a), .val (.ref s1), .val (.ref s2), .val (.ref s3), .val (.int (1 : Int32)), .val (.int (1 : Int32)), .val (.ref r), .val (.long (-1 : Int64)), .second, .val (.long (-1 : Int64)), .second, .val (.long (-1 : Int64)), .second, .val .null, .val (.ref b14), .val (.int (2 : Int32)), .val (.int (2 : Int32)), .val (.long (-1 : Int64)), .second] [(.long (-1 : Int64))]))
  refine own_up (fun tx kx => XS.lconst X22.here hx rfl (hb hby d8_89) kx) ?_
  show OwnOk p e below _ (T22.setTop (mkF m 90 #[.val (.ref a), .val (.ref s1), .val (.ref s2), .val (.ref s3), .val (.int (1 : Int32)), .val (.int (1 : Int32)), .val (.ref r), .val (.long (-1 : Int64)), .second, .val (.long (-1 : Int64)), .second, .val (.long (-1 : Int64)), .second, .val .null, .val (.ref b14), .val (.int (2 : Int32)), .val (.int (2 : Int32)), .val (.long (-1 : Int64)), .second] [(.long (0 : Int64)), (.long (-1 : Int64))]))
  refine own_up (fun tx kx => XS.lcmp X22.here hx rfl (hb hby d8_90) rfl kx) ?_
  show OwnOk p e below _ (T22.setTop (mkF m 91 #[.val (.ref a), .val (.ref s1), .val (.ref s2), .val (.ref s3), .val (.int (1 : Int32)), .val (.int (1 : Int32)), .val (.ref r), .val (.long (-1 : Int64)), .second, .val (.long (-1 : Int64)), .second, .val (.long (-1 : Int64)), .second, .val .null, .val (.ref b14), .val (.int (2 : Int32)), .val (.int (2 : Int32)), .val (.long (-1 : Int64)), .second] [(.int (lcmpW (-1 : Int64) (0 : Int64)))]))
  refine own_up (fun tx kx => XS.ifNo X22.here hx rfl (hb hby d8_91) rfl (own_jtlt (by decide)).2.1 kx) ?_
  show OwnOk p e below _ (T22.setTop (mkF m 94 #[.val (.ref a), .val (.ref s1), .val (.ref s2), .val (.ref s3), .val (.int (1 : Int32)), .val (.int (1 : Int32)), .val (.ref r), .val (.long (-1 : Int64)), .second, .val (.long (-1 : Int64)), .second, .val (.long (-1 : Int64)), .second, .val .null, .val (.ref b14), .val (.int (2 : Int32)), .val (.int (2 : Int32)), .val (.long (-1 : Int64)), .second] []))
  refine own_up (fun tx kx => XS.lload X22.here hx rfl (hb hby d8_94) rfl kx) ?_
  show OwnOk p e below _ (T22.setTop (mkF m 96 #[.val (.ref a), .val (.ref s1), .val (.ref s2), .val (.ref s3), .val (.int (1 : Int32)), .val (.int (1 : Int32)), .val (.ref r), .val (.long (-1 : Int64)), .second, .val (.long (-1 : Int64)), .second, .val (.long (-1 : Int64)), .second, .val .null, .val (.ref b14), .val (.int (2 : Int32)), .val (.int (2 : Int32)), .val (.long (-1 : Int64)), .second] [(.long (-1 : Int64))]))
  refine own_up (fun tx kx => X22.ldc2Long hx hown12 (mvT hZ12 (wd_56 hw)) (g := (mkF m 96 #[.val (.ref a), .val (.ref s1), .val (.ref s2), .val (.ref s3), .val (.int (1 : Int32)), .val (.int (1 : Int32)), .val (.ref r), .val (.long (-1 : Int64)), .second, .val (.long (-1 : Int64)), .second, .val (.long (-1 : Int64)), .second, .val .null, .val (.ref b14), .val (.int (2 : Int32)), .val (.int (2 : Int32)), .val (.long (-1 : Int64)), .second] [(.long (-1 : Int64))])) rfl (hb hby d8_96) _ kx) ?_
  show OwnOk p e below _ (T22.setTop (mkF m 99 #[.val (.ref a), .val (.ref s1), .val (.ref s2), .val (.ref s3), .val (.int (1 : Int32)), .val (.int (1 : Int32)), .val (.ref r), .val (.long (-1 : Int64)), .second, .val (.long (-1 : Int64)), .second, .val (.long (-1 : Int64)), .second, .val .null, .val (.ref b14), .val (.int (2 : Int32)), .val (.int (2 : Int32)), .val (.long (-1 : Int64)), .second] [(.long (-1 : Int64)), (.long (-1 : Int64))]))
  refine own_up (fun tx kx => XS.lcmp X22.here hx rfl (hb hby d8_99) rfl kx) ?_
  show OwnOk p e below _ (T22.setTop (mkF m 100 #[.val (.ref a), .val (.ref s1), .val (.ref s2), .val (.ref s3), .val (.int (1 : Int32)), .val (.int (1 : Int32)), .val (.ref r), .val (.long (-1 : Int64)), .second, .val (.long (-1 : Int64)), .second, .val (.long (-1 : Int64)), .second, .val .null, .val (.ref b14), .val (.int (2 : Int32)), .val (.int (2 : Int32)), .val (.long (-1 : Int64)), .second] [(.int (lcmpW (-1 : Int64) (-1 : Int64)))]))
  refine own_up (fun tx kx => XS.ifNo X22.here hx rfl (hb hby d8_100) rfl (own_jteq rfl).2 kx) ?_
  show OwnOk p e below _ (T22.setTop (mkF m 103 #[.val (.ref a), .val (.ref s1), .val (.ref s2), .val (.ref s3), .val (.int (1 : Int32)), .val (.int (1 : Int32)), .val (.ref r), .val (.long (-1 : Int64)), .second, .val (.long (-1 : Int64)), .second, .val (.long (-1 : Int64)), .second, .val .null, .val (.ref b14), .val (.int (2 : Int32)), .val (.int (2 : Int32)), .val (.long (-1 : Int64)), .second] []))
  refine own_up (fun tx kx => XS.lload X22.here hx rfl (hb hby d8_103) rfl kx) ?_
  show OwnOk p e below _ (T22.setTop (mkF m 105 #[.val (.ref a), .val (.ref s1), .val (.ref s2), .val (.ref s3), .val (.int (1 : Int32)), .val (.int (1 : Int32)), .val (.ref r), .val (.long (-1 : Int64)), .second, .val (.long (-1 : Int64)), .second, .val (.long (-1 : Int64)), .second, .val .null, .val (.ref b14), .val (.int (2 : Int32)), .val (.int (2 : Int32)), .val (.long (-1 : Int64)), .second] [(.long (-1 : Int64))]))
  refine own_up (fun tx kx => X22.ldc2Long hx hown12 (mvT hZ12 (wd_56 hw)) (g := (mkF m 105 #[.val (.ref a), .val (.ref s1), .val (.ref s2), .val (.ref s3), .val (.int (1 : Int32)), .val (.int (1 : Int32)), .val (.ref r), .val (.long (-1 : Int64)), .second, .val (.long (-1 : Int64)), .second, .val (.long (-1 : Int64)), .second, .val .null, .val (.ref b14), .val (.int (2 : Int32)), .val (.int (2 : Int32)), .val (.long (-1 : Int64)), .second] [(.long (-1 : Int64))])) rfl (hb hby d8_105) _ kx) ?_
  show OwnOk p e below _ (T22.setTop (mkF m 108 #[.val (.ref a), .val (.ref s1), .val (.ref s2), .val (.ref s3), .val (.int (1 : Int32)), .val (.int (1 : Int32)), .val (.ref r), .val (.long (-1 : Int64)), .second, .val (.long (-1 : Int64)), .second, .val (.long (-1 : Int64)), .second, .val .null, .val (.ref b14), .val (.int (2 : Int32)), .val (.int (2 : Int32)), .val (.long (-1 : Int64)), .second] [(.long (-1 : Int64)), (.long (-1 : Int64))]))
  refine own_up (fun tx kx => XS.lcmp X22.here hx rfl (hb hby d8_108) rfl kx) ?_
  show OwnOk p e below _ (T22.setTop (mkF m 109 #[.val (.ref a), .val (.ref s1), .val (.ref s2), .val (.ref s3), .val (.int (1 : Int32)), .val (.int (1 : Int32)), .val (.ref r), .val (.long (-1 : Int64)), .second, .val (.long (-1 : Int64)), .second, .val (.long (-1 : Int64)), .second, .val .null, .val (.ref b14), .val (.int (2 : Int32)), .val (.int (2 : Int32)), .val (.long (-1 : Int64)), .second] [(.int (lcmpW (-1 : Int64) (-1 : Int64)))]))
  refine own_up (fun tx kx => XS.ifYes X22.here hx rfl (pc0 := 109) (pc' := 135) rfl (hb hby d8_109) rfl (own_jteq rfl).1 (by decide) (by decide) kx) ?_
  show OwnOk p e below _ (T22.setTop (mkF m 135 #[.val (.ref a), .val (.ref s1), .val (.ref s2), .val (.ref s3), .val (.int (1 : Int32)), .val (.int (1 : Int32)), .val (.ref r), .val (.long (-1 : Int64)), .second, .val (.long (-1 : Int64)), .second, .val (.long (-1 : Int64)), .second, .val .null, .val (.ref b14), .val (.int (2 : Int32)), .val (.int (2 : Int32)), .val (.long (-1 : Int64)), .second] []))
  refine own_up (fun tx kx => XS.aloadN X22.here hx rfl (hb hby d8_135) rfl rfl kx) ?_
  show OwnOk p e below _ (T22.setTop (mkF m 136 #[.val (.ref a), .val (.ref s1), .val (.ref s2), .val (.ref s3), .val (.int (1 : Int32)), .val (.int (1 : Int32)), .val (.ref r), .val (.long (-1 : Int64)), .second, .val (.long (-1 : Int64)), .second, .val (.long (-1 : Int64)), .second, .val .null, .val (.ref b14), .val (.int (2 : Int32)), .val (.int (2 : Int32)), .val (.long (-1 : Int64)), .second] [(.ref a)]))
  refine own_up (fun tx kx => XS.aloadN X22.here hx rfl (hb hby d8_136) rfl rfl kx) ?_
  show OwnOk p e below _ (T22.setTop (mkF m 137 #[.val (.ref a), .val (.ref s1), .val (.ref s2), .val (.ref s3), .val (.int (1 : Int32)), .val (.int (1 : Int32)), .val (.ref r), .val (.long (-1 : Int64)), .second, .val (.long (-1 : Int64)), .second, .val (.long (-1 : Int64)), .second, .val .null, .val (.ref b14), .val (.int (2 : Int32)), .val (.int (2 : Int32)), .val (.long (-1 : Int64)), .second] [(.ref s1), (.ref a)]))
  have F_name_a_29 := ((((F_name_a.ext E12).ext E14).other W19 (Or.inl (Nat.ne_of_lt lt_a_b14))).other W22 (Or.inl (Nat.ne_of_lt lt_a_b14)))
  have E_a_30 := (((E_a_16.ext E14).wr W19).wr W22)
  obtain ⟨T31, h31, X31, e31, W31, st31⟩ := putF X22 hx hZ12 hown12 (host := "") (Or.inl (wd_69 hw)) Via.refl e22 F_name_a_29 E_a_30 (Or.inr ⟨(wd_70 hw), rfl, hnm⟩) (wd_35 hw) (ty := (.object "java/lang/String")) (by decide) rfl rfl (g := (mkF m 137 #[.val (.ref a), .val (.ref s1), .val (.ref s2), .val (.ref s3), .val (.int (1 : Int32)), .val (.int (1 : Int32)), .val (.ref r), .val (.long (-1 : Int64)), .second, .val (.long (-1 : Int64)), .second, .val (.long (-1 : Int64)), .second, .val .null, .val (.ref b14), .val (.int (2 : Int32)), .val (.int (2 : Int32)), .val (.long (-1 : Int64)), .second] [(.ref s1), (.ref a)])) rfl rfl (hb hby d8_137)
  have Fw31 := Fld.same W31 F_name_a_29
  have N31 := Fr.snoc X31 N22 n0_a
  have OL32 := OL23.wr W31 n0_a
  have KP32 := KP23.wr W31 (Or.inl (List.mem_of_getElem? (i := 0) rfl))
  have hB32 := hB23.wr W31
  refine own_up st31 ?_
  show OwnOk p e below _ (T31.setTop (mkF m 140 #[.val (.ref a), .val (.ref s1), .val (.ref s2), .val (.ref s3), .val (.int (1 : Int32)), .val (.int (1 : Int32)), .val (.ref r), .val (.long (-1 : Int64)), .second, .val (.long (-1 : Int64)), .second, .val (.long (-1 : Int64)), .second, .val .null, .val (.ref b14), .val (.int (2 : Int32)), .val (.int (2 : Int32)), .val (.long (-1 : Int64)), .second] []))
  refine own_up (fun tx kx => XS.aloadN X31.here hx rfl (hb hby d8_140) rfl rfl kx) ?_
  show OwnOk p e below _ (T31.setTop (mkF m 141 #[.val (.ref a), .val (.ref s1), .val (.ref s2), .val (.ref s3), .val (.int (1 : Int32)), .val (.int (1 : Int32)), .val (.ref r), .val (.long (-1 : Int64)), .second, .val (.long (-1 : Int64)), .second, .val (.long (-1 : Int64)), .second, .val .null, .val (.ref b14), .val (.int (2 : Int32)), .val (.int (2 : Int32)), .val (.long (-1 : Int64)), .second] [(.ref a)]))
  refine own_up (fun tx kx => XS.aloadN X31.here hx rfl (hb hby d8_141) rfl rfl kx) ?_
  show OwnOk p e below _ (T31.setTop (mkF m 142 #[.val (.ref a), .val (.ref s1), .val (.ref s2), .val (.ref s3), .val (.int (1 : Int32)), .val (.int (1 : Int32)), .val (.ref r), .val (.long (-1 : Int64)), .second, .val (.long (-1 : Int64)), .second, .val (.long (-1 : Int64)), .second, .val .null, .val (.ref b14), .val (.int (2 : Int32)), .val (.int (2 : Int32)), .val (.long (-1 : Int64)), .second] [(.ref s2), (.ref a)]))
  have F_queue_a_33 := (((((F_queue_a.ext E12).ext E14).other W19 (Or.inl (Nat.ne_of_lt lt_a_b14))).other W22 (Or.inl (Nat.ne_of_lt lt_a_b14))).other W31 (Or.inr (slot_ne (Or.inr (wd_72 hw)) (Or.inr (wd_70 hw)) (by decide) (t := (.object "java/lang/String")) (t' := (.object "java/lang/String")) (by decide) (by decide))))
  have E_a_34 := (E_a_30.wr W31)
  obtain ⟨T35, h35, X35, e35, W35, st35⟩ := putF X31 hx hZ12 hown12 (host := "") (Or.inl (wd_71 hw)) Via.refl e31 F_queue_a_33 E_a_34 (Or.inr ⟨(wd_72 hw), rfl, hnm⟩) (wd_35 hw) (ty := (.object "java/lang/String")) (by decide) rfl rfl (g := (mkF m 142 #[.val (.ref a), .val (.ref s1), .val (.ref s2), .val (.ref s3), .val (.int (1 : Int32)), .val (.int (1 : Int32)), .val (.ref r), .val (.long (-1 : Int64)), .second, .val (.long (-1 : Int64)), .second, .val (.long (-1 : Int64)), .second, .val .null, .val (.ref b14), .val (.int (2 : Int32)), .val (.int (2 : Int32)), .val (.long (-1 : Int64)), .second] [(.ref s2), (.ref a)])) rfl rfl (hb hby d8_142)
  have Fw35 := Fld.same W35 F_queue_a_33
  have N35 := Fr.snoc X35 N31 n0_a
  have OL36 := OL32.wr W35 n0_a
  have KP36 := KP32.wr W35 (Or.inl (List.mem_of_getElem? (i := 0) rfl))
  have hB36 := hB32.wr W35
  refine own_up st35 ?_
  show OwnOk p e below _ (T35.setTop (mkF m 145 #[.val (.ref a), .val (.ref s1), .val (.ref s2), .val (.ref s3), .val (.int (1 : Int32)), .val (.int (1 : Int32)), .val (.ref r), .val (.long (-1 : Int64)), .second, .val (.long (-1 : Int64)), .second, .val (.long (-1 : Int64)), .second, .val .null, .val (.ref b14), .val (.int (2 : Int32)), .val (.int (2 : Int32)), .val (.long (-1 : Int64)), .second] []))
  refine own_up (fun tx kx => XS.aloadN X35.here hx rfl (hb hby d8_145) rfl rfl kx) ?_
  show OwnOk p e below _ (T35.setTop (mkF m 146 #[.val (.ref a), .val (.ref s1), .val (.ref s2), .val (.ref s3), .val (.int (1 : Int32)), .val (.int (1 : Int32)), .val (.ref r), .val (.long (-1 : Int64)), .second, .val (.long (-1 : Int64)), .second, .val (.long (-1 : Int64)), .second, .val .null, .val (.ref b14), .val (.int (2 : Int32)), .val (.int (2 : Int32)), .val (.long (-1 : Int64)), .second] [(.ref a)]))
  refine own_up (fun tx kx => XS.aloadN X35.here hx rfl (hb hby d8_146) rfl rfl kx) ?_
  show OwnOk p e below _ (T35.setTop (mkF m 147 #[.val (.ref a), .val (.ref s1), .val (.ref s2), .val (.ref s3), .val (.int (1 : Int32)), .val (.int (1 : Int32)), .val (.ref r), .val (.long (-1 : Int64)), .second, .val (.long (-1 : Int64)), .second, .val (.long (-1 : Int64)), .second, .val .null, .val (.ref b14), .val (.int (2 : Int32)), .val (.int (2 : Int32)), .val (.long (-1 : Int64)), .second] [(.ref s3), (.ref a)]))
  have F_user_a_37 := ((((((F_user_a.ext E12).ext E14).other W19 (Or.inl (Nat.ne_of_lt lt_a_b14))).other W22 (Or.inl (Nat.ne_of_lt lt_a_b14))).other W31 (Or.inr (slot_ne (Or.inr (wd_74 hw)) (Or.inr (wd_70 hw)) (by decide) (t := (.object "java/lang/String")) (t' := (.object "java/lang/String")) (by decide) (by decide)))).other W35 (Or.inr (slot_ne (Or.inr (wd_74 hw)) (Or.inr (wd_72 hw)) (by decide) (t := (.object "java/lang/String")) (t' := (.object "java/lang/String")) (by decide) (by decide))))
  have E_a_38 := (E_a_34.wr W35)
  obtain ⟨T39, h39, X39, e39, W39, st39⟩ := putF X35 hx hZ12 hown12 (host := "") (Or.inl (wd_73 hw)) Via.refl e35 F_user_a_37 E_a_38 (Or.inr ⟨(wd_74 hw), rfl, hnm⟩) (wd_35 hw) (ty := (.object "java/lang/String")) (by decide) rfl rfl (g := (mkF m 147 #[.val (.ref a), .val (.ref s1), .val (.ref s2), .val (.ref s3), .val (.int (1 : Int32)), .val (.int (1 : Int32)), .val (.ref r), .val (.long (-1 : Int64)), .second, .val (.long (-1 : Int64)), .second, .val (.long (-1 : Int64)), .second, .val .null, .val (.ref b14), .val (.int (2 : Int32)), .val (.int (2 : Int32)), .val (.long (-1 : Int64)), .second] [(.ref s3), (.ref a)])) rfl rfl (hb hby d8_147)
  have Fw39 := Fld.same W39 F_user_a_37
  have N39 := Fr.snoc X39 N35 n0_a
  have OL40 := OL36.wr W39 n0_a
  have KP40 := KP36.wr W39 (Or.inl (List.mem_of_getElem? (i := 0) rfl))
  have hB40 := hB36.wr W39
  refine own_up st39 ?_
  show OwnOk p e below _ (T39.setTop (mkF m 150 #[.val (.ref a), .val (.ref s1), .val (.ref s2), .val (.ref s3), .val (.int (1 : Int32)), .val (.int (1 : Int32)), .val (.ref r), .val (.long (-1 : Int64)), .second, .val (.long (-1 : Int64)), .second, .val (.long (-1 : Int64)), .second, .val .null, .val (.ref b14), .val (.int (2 : Int32)), .val (.int (2 : Int32)), .val (.long (-1 : Int64)), .second] []))
  refine own_up (fun tx kx => XS.aloadN X39.here hx rfl (hb hby d8_150) rfl rfl kx) ?_
  show OwnOk p e below _ (T39.setTop (mkF m 151 #[.val (.ref a), .val (.ref s1), .val (.ref s2), .val (.ref s3), .val (.int (1 : Int32)), .val (.int (1 : Int32)), .val (.ref r), .val (.long (-1 : Int64)), .second, .val (.long (-1 : Int64)), .second, .val (.long (-1 : Int64)), .second, .val .null, .val (.ref b14), .val (.int (2 : Int32)), .val (.int (2 : Int32)), .val (.long (-1 : Int64)), .second] [(.ref a)]))
  refine own_up (fun tx kx => XS.iload X39.here hx rfl (hb hby d8_151) rfl kx) ?_
  show OwnOk p e below _ (T39.setTop (mkF m 153 #[.val (.ref a), .val (.ref s1), .val (.ref s2), .val (.ref s3), .val (.int (1 : Int32)), .val (.int (1 : Int32)), .val (.ref r), .val (.long (-1 : Int64)), .second, .val (.long (-1 : Int64)), .second, .val (.long (-1 : Int64)), .second, .val .null, .val (.ref b14), .val (.int (2 : Int32)), .val (.int (2 : Int32)), .val (.long (-1 : Int64)), .second] [(.int (1 : Int32)), (.ref a)]))
  have F_maps_a_41 := (((((((F_maps_a.ext E12).ext E14).other W19 (Or.inl (Nat.ne_of_lt lt_a_b14))).other W22 (Or.inl (Nat.ne_of_lt lt_a_b14))).other W31 (Or.inr (slot_ne (Or.inr (wd_76 hw)) (Or.inr (wd_70 hw)) (by decide) (t := .int) (t' := (.object "java/lang/String")) (by decide) (by decide)))).other W35 (Or.inr (slot_ne (Or.inr (wd_76 hw)) (Or.inr (wd_72 hw)) (by decide) (t := .int) (t' := (.object "java/lang/String")) (by decide) (by decide)))).other W39 (Or.inr (slot_ne (Or.inr (wd_76 hw)) (Or.inr (wd_74 hw)) (by decide) (t := .int) (t' := (.object "java/lang/String")) (by decide) (by decide))))
  have E_a_42 := (E_a_38.wr W39)
  obtain ⟨T43, h43, X43, e43, W43, st43⟩ := putF X39 hx hZ12 hown12 (host := "") (Or.inl (wd_75 hw)) Via.refl e39 F_maps_a_41 E_a_42 (Or.inr ⟨(wd_76 hw), rfl, hnm⟩) (wd_35 hw) (ty := .int) (by decide) rfl rfl (g := (mkF m 153 #[.val (.ref a), .val (.ref s1), .val (.ref s2), .val (.ref s3), .val (.int (1 : Int32)), .val (.int (1 : Int32)), .val (.ref r), .val (.long (-1 : Int64)), .second, .val (.long (-1 : Int64)), .second, .val (.long (-1 : Int64)), .second, .val .null, .val (.ref b14), .val (.int (2 : Int32)), .val (.int (2 : Int32)), .val (.long (-1 : Int64)), .second] [(.int (1 : Int32)), (.ref a)])) rfl rfl (hb hby d8_153)
  have Fw43 := Fld.same W43 F_maps_a_41
  have N43 := Fr.snoc X43 N39 n0_a
  have OL44 := OL40.wr W43 n0_a
  have KP44 := KP40.wr W43 (Or.inl (List.mem_of_getElem? (i := 0) rfl))
  have hB44 := hB40.wr W43
  refine own_up st43 ?_
  show OwnOk p e below _ (T43.setTop (mkF m 156 #[.val (.ref a), .val (.ref s1), .val (.ref s2), .val (.ref s3), .val (.int (1 : Int32)), .val (.int (1 : Int32)), .val (.ref r), .val (.long (-1 : Int64)), .second, .val (.long (-1 : Int64)), .second, .val (.long (-1 : Int64)), .second, .val .null, .val (.ref b14), .val (.int (2 : Int32)), .val (.int (2 : Int32)), .val (.long (-1 : Int64)), .second] []))
  refine own_up (fun tx kx => XS.aloadN X43.here hx rfl (hb hby d8_156) rfl rfl kx) ?_
  show OwnOk p e below _ (T43.setTop (mkF m 157 #[.val (.ref a), .val (.ref s1), .val (.ref s2), .val (.ref s3), .val (.int (1 : Int32)), .val (.int (1 : Int32)), .val (.ref r), .val (.long (-1 : Int64)), .second, .val (.long (-1 : Int64)), .second, .val (.long (-1 : Int64)), .second, .val .null, .val (.ref b14), .val (.int (2 : Int32)), .val (.int (2 : Int32)), .val (.long (-1 : Int64)), .second] [(.ref a)]))
  refine own_up (fun tx kx => XS.iload X43.here hx rfl (hb hby d8_157) rfl kx) ?_
  show OwnOk p e below _ (T43.setTop (mkF m 159 #[.val (.ref a), .val (.ref s1), .val (.ref s2), .val (.ref s3), .val (.int (1 : Int32)), .val (.int (1 : Int32)), .val (.ref r), .val (.long (-1 : Int64)), .second, .val (.long (-1 : Int64)), .second, .val (.long (-1 : Int64)), .second, .val .null, .val (.ref b14), .val (.int (2 : Int32)), .val (.int (2 : Int32)), .val (.long (-1 : Int64)), .second] [(.int (1 : Int32)), (.ref a)]))
  have F_reduces_a_45 := ((((((((F_reduces_a.ext E12).ext E14).other W19 (Or.inl (Nat.ne_of_lt lt_a_b14))).other W22 (Or.inl (Nat.ne_of_lt lt_a_b14))).other W31 (Or.inr (slot_ne (Or.inr (wd_78 hw)) (Or.inr (wd_70 hw)) (by decide) (t := .int) (t' := (.object "java/lang/String")) (by decide) (by decide)))).other W35 (Or.inr (slot_ne (Or.inr (wd_78 hw)) (Or.inr (wd_72 hw)) (by decide) (t := .int) (t' := (.object "java/lang/String")) (by decide) (by decide)))).other W39 (Or.inr (slot_ne (Or.inr (wd_78 hw)) (Or.inr (wd_74 hw)) (by decide) (t := .int) (t' := (.object "java/lang/String")) (by decide) (by decide)))).other W43 (Or.inr (slot_ne (Or.inr (wd_78 hw)) (Or.inr (wd_76 hw)) (by decide) (t := .int) (t' := .int) (by decide) (by decide))))
  have E_a_46 := (E_a_42.wr W43)
  obtain ⟨T47, h47, X47, e47, W47, st47⟩ := putF X43 hx hZ12 hown12 (host := "") (Or.inl (wd_77 hw)) Via.refl e43 F_reduces_a_45 E_a_46 (Or.inr ⟨(wd_78 hw), rfl, hnm⟩) (wd_35 hw) (ty := .int) (by decide) rfl rfl (g := (mkF m 159 #[.val (.ref a), .val (.ref s1), .val (.ref s2), .val (.ref s3), .val (.int (1 : Int32)), .val (.int (1 : Int32)), .val (.ref r), .val (.long (-1 : Int64)), .second, .val (.long (-1 : Int64)), .second, .val (.long (-1 : Int64)), .second, .val .null, .val (.ref b14), .val (.int (2 : Int32)), .val (.int (2 : Int32)), .val (.long (-1 : Int64)), .second] [(.int (1 : Int32)), (.ref a)])) rfl rfl (hb hby d8_159)
  have Fw47 := Fld.same W47 F_reduces_a_45
  have N47 := Fr.snoc X47 N43 n0_a
  have OL48 := OL44.wr W47 n0_a
  have KP48 := KP44.wr W47 (Or.inl (List.mem_of_getElem? (i := 0) rfl))
  have hB48 := hB44.wr W47
  refine own_up st47 ?_
  show OwnOk p e below _ (T47.setTop (mkF m 162 #[.val (.ref a), .val (.ref s1), .val (.ref s2), .val (.ref s3), .val (.int (1 : Int32)), .val (.int (1 : Int32)), .val (.ref r), .val (.long (-1 : Int64)), .second, .val (.long (-1 : Int64)), .second, .val (.long (-1 : Int64)), .second, .val .null, .val (.ref b14), .val (.int (2 : Int32)), .val (.int (2 : Int32)), .val (.long (-1 : Int64)), .second] []))
  refine own_up (fun tx kx => XS.aloadN X47.here hx rfl (hb hby d8_162) rfl rfl kx) ?_
  show OwnOk p e below _ (T47.setTop (mkF m 163 #[.val (.ref a), .val (.ref s1), .val (.ref s2), .val (.ref s3), .val (.int (1 : Int32)), .val (.int (1 : Int32)), .val (.ref r), .val (.long (-1 : Int64)), .second, .val (.long (-1 : Int64)), .second, .val (.long (-1 : Int64)), .second, .val .null, .val (.ref b14), .val (.int (2 : Int32)), .val (.int (2 : Int32)), .val (.long (-1 : Int64)), .second] [(.ref a)]))
  refine own_up (fun tx kx => XS.aload X47.here hx rfl (hb hby d8_163) rfl rfl kx) ?_
  show OwnOk p e below _ (T47.setTop (mkF m 165 #[.val (.ref a), .val (.ref s1), .val (.ref s2), .val (.ref s3), .val (.int (1 : Int32)), .val (.int (1 : Int32)), .val (.ref r), .val (.long (-1 : Int64)), .second, .val (.long (-1 : Int64)), .second, .val (.long (-1 : Int64)), .second, .val .null, .val (.ref b14), .val (.int (2 : Int32)), .val (.int (2 : Int32)), .val (.long (-1 : Int64)), .second] [(.ref r), (.ref a)]))
  have F_priority_a_49 := (((((((((F_priority_a.ext E12).ext E14).other W19 (Or.inl (Nat.ne_of_lt lt_a_b14))).other W22 (Or.inl (Nat.ne_of_lt lt_a_b14))).other W31 (Or.inr (slot_ne (Or.inr (wd_80 hw)) (Or.inr (wd_70 hw)) (by decide) (t := (.object "com/example/slotwright/slotwright/sched/JobPriority")) (t' := (.object "java/lang/String")) (by decide) (by decide)))).other W35 (Or.inr (slot_ne (Or.inr (wd_80 hw)) (Or.inr (wd_72 hw)) (by decide) (t := (.object "com/example/slotwright/slotwright/sched/JobPriority")) (t' := (.object "java/lang/String")) (by decide) (by decide)))).other W39 (Or.inr (slot_ne (Or.inr (wd_80 hw)) (Or.inr (wd_74 hw)) (by decide) (t := (.object "com/example/slotwright/slotwright/sched/JobPriority")) (t' := (.object "java/lang/String")) (by decide) (by decide)))).other W43 (Or.inr (slot_ne (Or.inr (wd_80 hw)) (Or.inr (wd_76 hw)) (by decide) (t := (.object "com/example/slotwright/slotwright/sched/JobPriority")) (t' := .int) (by decide) (by decide)))).other W47 (Or.inr (slot_ne (Or.inr (wd_80 hw)) (Or.inr (wd_78 hw)) (by decide) (t := (.object "com/example/slotwright/slotwright/sched/JobPriority")) (t' := .int) (by decide) (by decide))))
  have E_a_50 := (E_a_46.wr W47)
  obtain ⟨T51, h51, X51, e51, W51, st51⟩ := putF X47 hx hZ12 hown12 (host := "") (Or.inl (wd_79 hw)) Via.refl e47 F_priority_a_49 E_a_50 (Or.inr ⟨(wd_80 hw), rfl, hnm⟩) (wd_35 hw) (ty := (.object "com/example/slotwright/slotwright/sched/JobPriority")) (by decide) rfl rfl (g := (mkF m 165 #[.val (.ref a), .val (.ref s1), .val (.ref s2), .val (.ref s3), .val (.int (1 : Int32)), .val (.int (1 : Int32)), .val (.ref r), .val (.long (-1 : Int64)), .second, .val (.long (-1 : Int64)), .second, .val (.long (-1 : Int64)), .second, .val .null, .val (.ref b14), .val (.int (2 : Int32)), .val (.int (2 : Int32)), .val (.long (-1 : Int64)), .second] [(.ref r), (.ref a)])) rfl rfl (hb hby d8_165)
  have Fw51 := Fld.same W51 F_priority_a_49
  have N51 := Fr.snoc X51 N47 n0_a
  have OL52 := OL48.wr W51 n0_a
  have KP52 := KP48.wr W51 (Or.inl (List.mem_of_getElem? (i := 0) rfl))
  have hB52 := hB48.wr W51
  refine own_up st51 ?_
  show OwnOk p e below _ (T51.setTop (mkF m 168 #[.val (.ref a), .val (.ref s1), .val (.ref s2), .val (.ref s3), .val (.int (1 : Int32)), .val (.int (1 : Int32)), .val (.ref r), .val (.long (-1 : Int64)), .second, .val (.long (-1 : Int64)), .second, .val (.long (-1 : Int64)), .second, .val .null, .val (.ref b14), .val (.int (2 : Int32)), .val (.int (2 : Int32)), .val (.long (-1 : Int64)), .second] []))
  refine own_up (fun tx kx => XS.aloadN X51.here hx rfl (hb hby d8_168) rfl rfl kx) ?_
  show OwnOk p e below _ (T51.setTop (mkF m 169 #[.val (.ref a), .val (.ref s1), .val (.ref s2), .val (.ref s3), .val (.int (1 : Int32)), .val (.int (1 : Int32)), .val (.ref r), .val (.long (-1 : Int64)), .second, .val (.long (-1 : Int64)), .second, .val (.long (-1 : Int64)), .second, .val .null, .val (.ref b14), .val (.int (2 : Int32)), .val (.int (2 : Int32)), .val (.long (-1 : Int64)), .second] [(.ref a)]))
  refine own_up (fun tx kx => XS.lload X51.here hx rfl (hb hby d8_169) rfl kx) ?_
  show OwnOk p e below _ (T51.setTop (mkF m 171 #[.val (.ref a), .val (.ref s1), .val (.ref s2), .val (.ref s3), .val (.int (1 : Int32)), .val (.int (1 : Int32)), .val (.ref r), .val (.long (-1 : Int64)), .second, .val (.long (-1 : Int64)), .second, .val (.long (-1 : Int64)), .second, .val .null, .val (.ref b14), .val (.int (2 : Int32)), .val (.int (2 : Int32)), .val (.long (-1 : Int64)), .second] [(.long (-1 : Int64)), (.ref a)]))
  have F_mapMemoryMb_a_53 := ((((((((((F_mapMemoryMb_a.ext E12).ext E14).other W19 (Or.inl (Nat.ne_of_lt lt_a_b14))).other W22 (Or.inl (Nat.ne_of_lt lt_a_b14))).other W31 (Or.inr (slot_ne (Or.inr (wd_82 hw)) (Or.inr (wd_70 hw)) (by decide) (t := .long) (t' := (.object "java/lang/String")) (by decide) (by decide)))).other W35 (Or.inr (slot_ne (Or.inr (wd_82 hw)) (Or.inr (wd_72 hw)) (by decide) (t := .long) (t' := (.object "java/lang/String")) (by decide) (by decide)))).other W39 (Or.inr (slot_ne (Or.inr (wd_82 hw)) (Or.inr (wd_74 hw)) (by decide) (t := .long) (t' := (.object "java/lang/String")) (by decide) (by decide)))).other W43 (Or.inr (slot_ne (Or.inr (wd_82 hw)) (Or.inr (wd_76 hw)) (by decide) (t := .long) (t' := .int) (by decide) (by decide)))).other W47 (Or.inr (slot_ne (Or.inr (wd_82 hw)) (Or.inr (wd_78 hw)) (by decide) (t := .long) (t' := .int) (by decide) (by decide)))).other W51 (Or.inr (slot_ne (Or.inr (wd_82 hw)) (Or.inr (wd_80 hw)) (by decide) (t := .long) (t' := (.object "com/example/slotwright/slotwright/sched/JobPriority")) (by decide) (by decide))))
  have E_a_54 := (E_a_50.wr W51)
  obtain ⟨T55, h55, X55, e55, W55, st55⟩ := putF X51 hx hZ12 hown12 (host := "") (Or.inl (wd_81 hw)) Via.refl e51 F_mapMemoryMb_a_53 E_a_54 (Or.inr ⟨(wd_82 hw), rfl, hnm⟩) (wd_35 hw) (ty := .long) (by decide) rfl rfl (g := (mkF m 171 #[.val (.ref a), .val (.ref s1), .val (.ref s2), .val (.ref s3), .val (.int (1 : Int32)), .val (.int (1 : Int32)), .val (.ref r), .val (.long (-1 : Int64)), .second, .val (.long (-1 : Int64)), .second, .val (.long (-1 : Int64)), .second, .val .null, .val (.ref b14), .val (.int (2 : Int32)), .val (.int (2 : Int32)), .val (.long (-1 : Int64)), .second] [(.long (-1 : Int64)), (.ref a)])) rfl rfl (hb hby d8_171)
  have Fw55 := Fld.same W55 F_mapMemoryMb_a_53
  have N55 := Fr.snoc X55 N51 n0_a
  have OL56 := OL52.wr W55 n0_a
  have KP56 := KP52.wr W55 (Or.inl (List.mem_of_getElem? (i := 0) rfl))
  have hB56 := hB52.wr W55
  refine own_up st55 ?_
  show OwnOk p e below _ (T55.setTop (mkF m 174 #[.val (.ref a), .val (.ref s1), .val (.ref s2), .val (.ref s3), .val (.int (1 : Int32)), .val (.int (1 : Int32)), .val (.ref r), .val (.long (-1 : Int64)), .second, .val (.long (-1 : Int64)), .second, .val (.long (-1 : Int64)), .second, .val .null, .val (.ref b14), .val (.int (2 : Int32)), .val (.int (2 : Int32)), .val (.long (-1 : Int64)), .second] []))
  refine own_up (fun tx kx => XS.aloadN X55.here hx rfl (hb hby d8_174) rfl rfl kx) ?_
  show OwnOk p e below _ (T55.setTop (mkF m 175 #[.val (.ref a), .val (.ref s1), .val (.ref s2), .val (.ref s3), .val (.int (1 : Int32)), .val (.int (1 : Int32)), .val (.ref r), .val (.long (-1 : Int64)), .second, .val (.long (-1 : Int64)), .second, .val (.long (-1 : Int64)), .second, .val .null, .val (.ref b14), .val (.int (2 : Int32)), .val (.int (2 : Int32)), .val (.long (-1 : Int64)), .second] [(.ref a)]))
  refine own_up (fun tx kx => XS.lload X55.here hx rfl (hb hby d8_175) rfl kx) ?_
  show OwnOk p e below _ (T55.setTop (mkF m 177 #[.val (.ref a), .val (.ref s1), .val (.ref s2), .val (.ref s3), .val (.int (1 : Int32)), .val (.int (1 : Int32)), .val (.ref r), .val (.long (-1 : Int64)), .second, .val (.long (-1 : Int64)), .second, .val (.long (-1 : Int64)), .second, .val .null, .val (.ref b14), .val (.int (2 : Int32)), .val (.int (2 : Int32)), .val (.long (-1 : Int64)), .second] [(.long (-1 : Int64)), (.ref a)]))
  have F_reduceMemoryMb_a_57 := (((((((((((F_reduceMemoryMb_a.ext E12).ext E14).other W19 (Or.inl (Nat.ne_of_lt lt_a_b14))).other W22 (Or.inl (Nat.ne_of_lt lt_a_b14))).other W31 (Or.inr (slot_ne (Or.inr (wd_84 hw)) (Or.inr (wd_70 hw)) (by decide) (t := .long) (t' := (.object "java/lang/String")) (by decide) (by decide)))).other W35 (Or.inr (slot_ne (Or.inr (wd_84 hw)) (Or.inr (wd_72 hw)) (by decide) (t := .long) (t' := (.object "java/lang/String")) (by decide) (by decide)))).other W39 (Or.inr (slot_ne (Or.inr (wd_84 hw)) (Or.inr (wd_74 hw)) (by decide) (t := .long) (t' := (.object "java/lang/String")) (by decide) (by decide)))).other W43 (Or.inr (slot_ne (Or.inr (wd_84 hw)) (Or.inr (wd_76 hw)) (by decide) (t := .long) (t' := .int) (by decide) (by decide)))).other W47 (Or.inr (slot_ne (Or.inr (wd_84 hw)) (Or.inr (wd_78 hw)) (by decide) (t := .long) (t' := .int) (by decide) (by decide)))).other W51 (Or.inr (slot_ne (Or.inr (wd_84 hw)) (Or.inr (wd_80 hw)) (by decide) (t := .long) (t' := (.object "com/example/slotwright/slotwright/sched/JobPriority")) (by decide) (by decide)))).other W55 (Or.inr (slot_ne (Or.inr (wd_84 hw)) (Or.inr (wd_82 hw)) (by decide) (t := .long) (t' := .long) (by decide) (by decide))))
  have E_a_58 := (E_a_54.wr W55)
  obtain ⟨T59, h59, X59, e59, W59, st59⟩ := putF X55 hx hZ12 hown12 (host := "") (Or.inl (wd_83 hw)) Via.refl e55 F_reduceMemoryMb_a_57 E_a_58 (Or.inr ⟨(wd_84 hw), rfl, hnm⟩) (wd_35 hw) (ty := .long) (by decide) rfl rfl (g := (mkF m 177 #[.val (.ref a), .val (.ref s1), .val (.ref s2), .val (.ref s3), .val (.int (1 : Int32)), .val (.int (1 : Int32)), .val (.ref r), .val (.long (-1 : Int64)), .second, .val (.long (-1 : Int64)), .second, .val (.long (-1 : Int64)), .second, .val .null, .val (.ref b14), .val (.int (2 : Int32)), .val (.int (2 : Int32)), .val (.long (-1 : Int64)), .second] [(.long (-1 : Int64)), (.ref a)])) rfl rfl (hb hby d8_177)
  have Fw59 := Fld.same W59 F_reduceMemoryMb_a_57
  have N59 := Fr.snoc X59 N55 n0_a
  have OL60 := OL56.wr W59 n0_a
  have KP60 := KP56.wr W59 (Or.inl (List.mem_of_getElem? (i := 0) rfl))
  have hB60 := hB56.wr W59
  refine own_up st59 ?_
  show OwnOk p e below _ (T59.setTop (mkF m 180 #[.val (.ref a), .val (.ref s1), .val (.ref s2), .val (.ref s3), .val (.int (1 : Int32)), .val (.int (1 : Int32)), .val (.ref r), .val (.long (-1 : Int64)), .second, .val (.long (-1 : Int64)), .second, .val (.long (-1 : Int64)), .second, .val .null, .val (.ref b14), .val (.int (2 : Int32)), .val (.int (2 : Int32)), .val (.long (-1 : Int64)), .second] []))
  refine own_up (fun tx kx => XS.aloadN X59.here hx rfl (hb hby d8_180) rfl rfl kx) ?_
  show OwnOk p e below _ (T59.setTop (mkF m 181 #[.val (.ref a), .val (.ref s1), .val (.ref s2), .val (.ref s3), .val (.int (1 : Int32)), .val (.int (1 : Int32)), .val (.ref r), .val (.long (-1 : Int64)), .second, .val (.long (-1 : Int64)), .second, .val (.long (-1 : Int64)), .second, .val .null, .val (.ref b14), .val (.int (2 : Int32)), .val (.int (2 : Int32)), .val (.long (-1 : Int64)), .second] [(.ref a)]))
  refine own_up (fun tx kx => XS.lload X59.here hx rfl (hb hby d8_181) rfl kx) ?_
  show OwnOk p e below _ (T59.setTop (mkF m 183 #[.val (.ref a), .val (.ref s1), .val (.ref s2), .val (.ref s3), .val (.int (1 : Int32)), .val (.int (1 : Int32)), .val (.ref r), .val (.long (-1 : Int64)), .second, .val (.long (-1 : Int64)), .second, .val (.long (-1 : Int64)), .second, .val .null, .val (.ref b14), .val (.int (2 : Int32)), .val (.int (2 : Int32)), .val (.long (-1 : Int64)), .second] [(.long (-1 : Int64)), (.ref a)]))
  have F_deadlineMs_a_61 := ((((((((((((F_deadlineMs_a.ext E12).ext E14).other W19 (Or.inl (Nat.ne_of_lt lt_a_b14))).other W22 (Or.inl (Nat.ne_of_lt lt_a_b14))).other W31 (Or.inr (slot_ne (Or.inr (wd_86 hw)) (Or.inr (wd_70 hw)) (by decide) (t := .long) (t' := (.object "java/lang/String")) (by decide) (by decide)))).other W35 (Or.inr (slot_ne (Or.inr (wd_86 hw)) (Or.inr (wd_72 hw)) (by decide) (t := .long) (t' := (.object "java/lang/String")) (by decide) (by decide)))).other W39 (Or.inr (slot_ne (Or.inr (wd_86 hw)) (Or.inr (wd_74 hw)) (by decide) (t := .long) (t' := (.object "java/lang/String")) (by decide) (by decide)))).other W43 (Or.inr (slot_ne (Or.inr (wd_86 hw)) (Or.inr (wd_76 hw)) (by decide) (t := .long) (t' := .int) (by decide) (by decide)))).other W47 (Or.inr (slot_ne (Or.inr (wd_86 hw)) (Or.inr (wd_78 hw)) (by decide) (t := .long) (t' := .int) (by decide) (by decide)))).other W51 (Or.inr (slot_ne (Or.inr (wd_86 hw)) (Or.inr (wd_80 hw)) (by decide) (t := .long) (t' := (.object "com/example/slotwright/slotwright/sched/JobPriority")) (by decide) (by decide)))).other W55 (Or.inr (slot_ne (Or.inr (wd_86 hw)) (Or.inr (wd_82 hw)) (by decide) (t := .long) (t' := .long) (by decide) (by decide)))).other W59 (Or.inr (slot_ne (Or.inr (wd_86 hw)) (Or.inr (wd_84 hw)) (by decide) (t := .long) (t' := .long) (by decide) (by decide))))
  have E_a_62 := (E_a_58.wr W59)
  obtain ⟨T63, h63, X63, e63, W63, st63⟩ := putF X59 hx hZ12 hown12 (host := "") (Or.inl (wd_85 hw)) Via.refl e59 F_deadlineMs_a_61 E_a_62 (Or.inr ⟨(wd_86 hw), rfl, hnm⟩) (wd_35 hw) (ty := .long) (by decide) rfl rfl (g := (mkF m 183 #[.val (.ref a), .val (.ref s1), .val (.ref s2), .val (.ref s3), .val (.int (1 : Int32)), .val (.int (1 : Int32)), .val (.ref r), .val (.long (-1 : Int64)), .second, .val (.long (-1 : Int64)), .second, .val (.long (-1 : Int64)), .second, .val .null, .val (.ref b14), .val (.int (2 : Int32)), .val (.int (2 : Int32)), .val (.long (-1 : Int64)), .second] [(.long (-1 : Int64)), (.ref a)])) rfl rfl (hb hby d8_183)
  have Fw63 := Fld.same W63 F_deadlineMs_a_61
  have N63 := Fr.snoc X63 N59 n0_a
  have OL64 := OL60.wr W63 n0_a
  have KP64 := KP60.wr W63 (Or.inl (List.mem_of_getElem? (i := 0) rfl))
  have hB64 := hB60.wr W63
  refine own_up st63 ?_
  show OwnOk p e below _ (T63.setTop (mkF m 186 #[.val (.ref a), .val (.ref s1), .val (.ref s2), .val (.ref s3), .val (.int (1 : Int32)), .val (.int (1 : Int32)), .val (.ref r), .val (.long (-1 : Int64)), .second, .val (.long (-1 : Int64)), .second, .val (.long (-1 : Int64)), .second, .val .null, .val (.ref b14), .val (.int (2 : Int32)), .val (.int (2 : Int32)), .val (.long (-1 : Int64)), .second] []))
  refine own_up (fun tx kx => XS.aloadN X63.here hx rfl (hb hby d8_186) rfl rfl kx) ?_
  show OwnOk p e below _ (T63.setTop (mkF m 187 #[.val (.ref a), .val (.ref s1), .val (.ref s2), .val (.ref s3), .val (.int (1 : Int32)), .val (.int (1 : Int32)), .val (.ref r), .val (.long (-1 : Int64)), .second, .val (.long (-1 : Int64)), .second, .val (.long (-1 : Int64)), .second, .val .null, .val (.ref b14), .val (.int (2 : Int32)), .val (.int (2 : Int32)), .val (.long (-1 : Int64)), .second] [(.ref a)]))
  refine own_up (fun tx kx => XS.aload X63.here hx rfl (hb hby d8_187) rfl rfl kx) ?_
  show OwnOk p e below _ (T63.setTop (mkF m 189 #[.val (.ref a), .val (.ref s1), .val (.ref s2), .val (.ref s3), .val (.int (1 : Int32)), .val (.int (1 : Int32)), .val (.ref r), .val (.long (-1 : Int64)), .second, .val (.long (-1 : Int64)), .second, .val (.long (-1 : Int64)), .second, .val .null, .val (.ref b14), .val (.int (2 : Int32)), .val (.int (2 : Int32)), .val (.long (-1 : Int64)), .second] [.null, (.ref a)]))
  have F_profile_a_65 := (((((((((((((F_profile_a.ext E12).ext E14).other W19 (Or.inl (Nat.ne_of_lt lt_a_b14))).other W22 (Or.inl (Nat.ne_of_lt lt_a_b14))).other W31 (Or.inr (slot_ne (Or.inr (wd_88 hw)) (Or.inr (wd_70 hw)) (by decide) (t := (.object "java/lang/String")) (t' := (.object "java/lang/String")) (by decide) (by decide)))).other W35 (Or.inr (slot_ne (Or.inr (wd_88 hw)) (Or.inr (wd_72 hw)) (by decide) (t := (.object "java/lang/String")) (t' := (.object "java/lang/String")) (by decide) (by decide)))).other W39 (Or.inr (slot_ne (Or.inr (wd_88 hw)) (Or.inr (wd_74 hw)) (by decide) (t := (.object "java/lang/String")) (t' := (.object "java/lang/String")) (by decide) (by decide)))).other W43 (Or.inr (slot_ne (Or.inr (wd_88 hw)) (Or.inr (wd_76 hw)) (by decide) (t := (.object "java/lang/String")) (t' := .int) (by decide) (by decide)))).other W47 (Or.inr (slot_ne (Or.inr (wd_88 hw)) (Or.inr (wd_78 hw)) (by decide) (t := (.object "java/lang/String")) (t' := .int) (by decide) (by decide)))).other W51 (Or.inr (slot_ne (Or.inr (wd_88 hw)) (Or.inr (wd_80 hw)) (by decide) (t := (.object "java/lang/String")) (t' := (.object "com/example/slotwright/slotwright/sched/JobPriority")) (by decide) (by decide)))).other W55 (Or.inr (slot_ne (Or.inr (wd_88 hw)) (Or.inr (wd_82 hw)) (by decide) (t := (.object "java/lang/String")) (t' := .long) (by decide) (by decide)))).other W59 (Or.inr (slot_ne (Or.inr (wd_88 hw)) (Or.inr (wd_84 hw)) (by decide) (t := (.object "java/lang/String")) (t' := .long) (by decide) (by decide)))).other W63 (Or.inr (slot_ne (Or.inr (wd_88 hw)) (Or.inr (wd_86 hw)) (by decide) (t := (.object "java/lang/String")) (t' := .long) (by decide) (by decide))))
  have E_a_66 := (E_a_62.wr W63)
  obtain ⟨T67, h67, X67, e67, W67, st67⟩ := putF X63 hx hZ12 hown12 (host := "") (Or.inl (wd_87 hw)) Via.refl e63 F_profile_a_65 E_a_66 (Or.inr ⟨(wd_88 hw), rfl, hnm⟩) (wd_35 hw) (ty := (.object "java/lang/String")) (by decide) rfl rfl (g := (mkF m 189 #[.val (.ref a), .val (.ref s1), .val (.ref s2), .val (.ref s3), .val (.int (1 : Int32)), .val (.int (1 : Int32)), .val (.ref r), .val (.long (-1 : Int64)), .second, .val (.long (-1 : Int64)), .second, .val (.long (-1 : Int64)), .second, .val .null, .val (.ref b14), .val (.int (2 : Int32)), .val (.int (2 : Int32)), .val (.long (-1 : Int64)), .second] [.null, (.ref a)])) rfl rfl (hb hby d8_189)
  have Fw67 := Fld.same W67 F_profile_a_65
  have N67 := Fr.snoc X67 N63 n0_a
  have OL68 := OL64.wr W67 n0_a
  have KP68 := KP64.wr W67 (Or.inl (List.mem_of_getElem? (i := 0) rfl))
  have hB68 := hB64.wr W67
  refine own_up st67 ?_
  show OwnOk p e below _ (T67.setTop (mkF m 192 #[.val (.ref a), .val (.ref s1), .val (.ref s2), .val (.ref s3), .val (.int (1 : Int32)), .val (.int (1 : Int32)), .val (.ref r), .val (.long (-1 : Int64)), .second, .val (.long (-1 : Int64)), .second, .val (.long (-1 : Int64)), .second, .val .null, .val (.ref b14), .val (.int (2 : Int32)), .val (.int (2 : Int32)), .val (.long (-1 : Int64)), .second] []))
  have E_a_69 := (E_a_66.wr W67)
  have F_mapMemoryMb_a_70 := (((Fw55.other W59 (Or.inr (slot_ne (Or.inr (wd_82 hw)) (Or.inr (wd_84 hw)) (by decide) (t := .long) (t' := .long) (by decide) (by decide)))).other W63 (Or.inr (slot_ne (Or.inr (wd_82 hw)) (Or.inr (wd_86 hw)) (by decide) (t := .long) (t' := .long) (by decide) (by decide)))).other W67 (Or.inr (slot_ne (Or.inr (wd_82 hw)) (Or.inr (wd_88 hw)) (by decide) (t := .long) (t' := (.object "java/lang/String")) (by decide) (by decide))))
  have F_reduceMemoryMb_a_71 := ((Fw59.other W63 (Or.inr (slot_ne (Or.inr (wd_84 hw)) (Or.inr (wd_86 hw)) (by decide) (t := .long) (t' := .long) (by decide) (by decide)))).other W67 (Or.inr (slot_ne (Or.inr (wd_84 hw)) (Or.inr (wd_88 hw)) (by decide) (t := .long) (t' := (.object "java/lang/String")) (by decide) (by decide))))
  refine own_retVW X67 hB68 hx (show meth.sig.returnType = none from hret) hlk (hb hby d8_192) e67 (Nat.le_of_ble_eq_true rfl) (Nat.le_of_ble_eq_true rfl) ?_
  exact ⟨rfl, N67, KP68, E_a_69, F_mapMemoryMb_a_70, F_reduceMemoryMb_a_71⟩
def Q_rm7 (Z : State) (a : Addr) (h0 : Heap) (n0 : Nat) (v : Option Value) (h : Heap) (L : List Loc) : Prop := v = none ∧ Fr n0 L ∧ Keep h0 h [a] ∧ Exa Z h a "com/example/slotwright/slotwright/sched/JobSpec" ∧ (Fld Z h a "com/example/slotwright/slotwright/sched/JobSpec" "mapMemoryMb" "J" (.long (-1 : Int64))) ∧ (Fld Z h a "com/example/slotwright/slotwright/sched/JobSpec" "reduceMemoryMb" "J" (.long (-1 : Int64)))
set_option maxRecDepth 65536 in
set_option maxHeartbeats 40000000 in
theorem rm7 (l : Launch) (Z : State) (a0 : Array Value) (hw : ∀ d ∈ tables_1, d.before a0 Z = true) (a s1 s2 s3 r : Addr) (h0 : Heap) (n0 : Nat) (OL : Old Z n0 h0) (E_a : Exa Z h0 a "com/example/slotwright/slotwright/sched/JobSpec") (F_name_a : Fld Z h0 a "com/example/slotwright/slotwright/sched/JobSpec" "name" "Ljava/lang/String;" .null) (F_queue_a : Fld Z h0 a "com/example/slotwright/slotwright/sched/JobSpec" "queue" "Ljava/lang/String;" .null) (F_user_a : Fld Z h0 a "com/example/slotwright/slotwright/sched/JobSpec" "user" "Ljava/lang/String;" .null) (F_maps_a : Fld Z h0 a "com/example/slotwright/slotwright/sched/JobSpec" "maps" "I" (.int (0 : Int32))) (F_reduces_a : Fld Z h0 a "com/example/slotwright/slotwright/sched/JobSpec" "reduces" "I" (.int (0 : Int32))) (F_priority_a : Fld Z h0 a "com/example/slotwright/slotwright/sched/JobSpec" "priority" "Lcom/example/slotwright/slotwright/sched/JobPriority;" .null) (F_mapMemoryMb_a : Fld Z h0 a "com/example/slotwright/slotwright/sched/JobSpec" "mapMemoryMb" "J" (.long (0 : Int64))) (F_reduceMemoryMb_a : Fld Z h0 a "com/example/slotwright/slotwright/sched/JobSpec" "reduceMemoryMb" "J" (.long (0 : Int64))) (F_deadlineMs_a : Fld Z h0 a "com/example/slotwright/slotwright/sched/JobSpec" "deadlineMs" "J" (.long (0 : Int64))) (F_profile_a : Fld Z h0 a "com/example/slotwright/slotwright/sched/JobSpec" "profile" "Ljava/lang/String;" .null) (n0_a : n0 ≤ a) :
    own_MetW l Z (⟨"com/example/slotwright/slotwright/sched/JobSpec", "<init>", "(Ljava/lang/String;Ljava/lang/String;Ljava/lang/String;IILcom/example/slotwright/slotwright/sched/JobPriority;JJ)V"⟩ : MethodName) prog_102_method_2_code 11 none ({ frames := 3, cells := 3, slots := 38, locals := 54 } : Room) #[(.ref a), (.ref s1), (.ref s2), (.ref s3), (.int (1 : Int32)), (.int (1 : Int32)), (.ref r), (.long (-1 : Int64)), (.long (-1 : Int64))] h0 (Q_rm7 Z a h0 n0) := by
  refine own_bodyW (L0 := #[.val (.ref a), .val (.ref s1), .val (.ref s2), .val (.ref s3), .val (.int (1 : Int32)), .val (.int (1 : Int32)), .val (.ref r), .val (.long (-1 : Int64)), .second, .val (.long (-1 : Int64)), .second]) (plainFor_of_name (by first | (simp [plainName, overriddenIn]; done) | decide +kernel)) (fun m => by first | (simp [entryFrame, mkF, argsToLocals, Value.category]; done) | rfl) ?_
  intro p e s m below meth c s₁ hx hby hml hZ hown hnm hret hlk X0 e0
  have N0 := Fr.nil n0
  have Z0 : n0 ≤ h0.size := OL.1 ▸ OL.2.1
  have hB := own_From.start s h0
  show OwnOk p e below _ (s₁.setTop (mkF m 0 #[.val (.ref a), .val (.ref s1), .val (.ref s2), .val (.ref s3), .val (.int (1 : Int32)), .val (.int (1 : Int32)), .val (.ref r), .val (.long (-1 : Int64)), .second, .val (.long (-1 : Int64)), .second] []))
  have KP0 : Keep h0 h0 [a] := Keep.refl h0 _
  refine own_up (fun tx kx => XS.aloadN X0.here hx rfl (hb hby d7_0) rfl rfl kx) ?_
  show OwnOk p e below _ (s₁.setTop (mkF m 1 #[.val (.ref a), .val (.ref s1), .val (.ref s2), .val (.ref s3), .val (.int (1 : Int32)), .val (.int (1 : Int32)), .val (.ref r), .val (.long (-1 : Int64)), .second, .val (.long (-1 : Int64)), .second] [(.ref a)]))
  refine own_up (fun tx kx => XS.aloadN X0.here hx rfl (hb hby d7_1) rfl rfl kx) ?_
  show OwnOk p e below _ (s₁.setTop (mkF m 2 #[.val (.ref a), .val (.ref s1), .val (.ref s2), .val (.ref s3), .val (.int (1 : Int32)), .val (.int (1 : Int32)), .val (.ref r), .val (.long (-1 : Int64)), .second, .val (.long (-1 : Int64)), .second] [(.ref s1), (.ref a)]))
  refine own_up (fun tx kx => XS.aloadN X0.here hx rfl (hb hby d7_2) rfl rfl kx) ?_
  show OwnOk p e below _ (s₁.setTop (mkF m 3 #[.val (.ref a), .val (.ref s1), .val (.ref s2), .val (.ref s3), .val (.int (1 : Int32)), .val (.int (1 : Int32)), .val (.ref r), .val (.long (-1 : Int64)), .second, .val (.long (-1 : Int64)), .second] [(.ref s2), (.ref s1), (.ref a)]))
  refine own_up (fun tx kx => XS.aloadN X0.here hx rfl (hb hby d7_3) rfl rfl kx) ?_
  show OwnOk p e below _ (s₁.setTop (mkF m 4 #[.val (.ref a), .val (.ref s1), .val (.ref s2), .val (.ref s3), .val (.int (1 : Int32)), .val (.int (1 : Int32)), .val (.ref r), .val (.long (-1 : Int64)), .second, .val (.long (-1 : Int64)), .second] [(.ref s3), (.ref s2), (.ref s1), (.ref a)]))
  refine own_up (fun tx kx => XS.iload X0.here hx rfl (hb hby d7_4) rfl kx) ?_
  show OwnOk p e below _ (s₁.setTop (mkF m 6 #[.val (.ref a), .val (.ref s1), .val (.ref s2), .val (.ref s3), .val (.int (1 : Int32)), .val (.int (1 : Int32)), .val (.ref r), .val (.long (-1 : Int64)), .second, .val (.long (-1 : Int64)), .second] [(.int (1 : Int32)), (.ref s3), (.ref s2), (.ref s1), (.ref a)]))
  refine own_up (fun tx kx => XS.iload X0.here hx rfl (hb hby d7_6) rfl kx) ?_
  show OwnOk p e below _ (s₁.setTop (mkF m 8 #[.val (.ref a), .val (.ref s1), .val (.ref s2), .val (.ref s3), .val (.int (1 : Int32)), .val (.int (1 : Int32)), .val (.ref r), .val (.long (-1 : Int64)), .second, .val (.long (-1 : Int64)), .second] [(.int (1 : Int32)), (.int (1 : Int32)), (.ref s3), (.ref s2), (.ref s1), (.ref a)]))
  refine own_up (fun tx kx => XS.aload X0.here hx rfl (hb hby d7_8) rfl rfl kx) ?_
  show OwnOk p e below _ (s₁.setTop (mkF m 10 #[.val (.ref a), .val (.ref s1), .val (.ref s2), .val (.ref s3), .val (.int (1 : Int32)), .val (.int (1 : Int32)), .val (.ref r), .val (.long (-1 : Int64)), .second, .val (.long (-1 : Int64)), .second] [(.ref r), (.int (1 : Int32)), (.int (1 : Int32)), (.ref s3), (.ref s2), (.ref s1), (.ref a)]))
  refine own_up (fun tx kx => XS.lload X0.here hx rfl (hb hby d7_10) rfl kx) ?_
  show OwnOk p e below _ (s₁.setTop (mkF m 12 #[.val (.ref a), .val (.ref s1), .val (.ref s2), .val (.ref s3), .val (.int (1 : Int32)), .val (.int (1 : Int32)), .val (.ref r), .val (.long (-1 : Int64)), .second, .val (.long (-1 : Int64)), .second] [(.long (-1 : Int64)), (.ref r), (.int (1 : Int32)), (.int (1 : Int32)), (.ref s3), (.ref s2), (.ref s1), (.ref a)]))
  refine own_up (fun tx kx => XS.lload X0.here hx rfl (hb hby d7_12) rfl kx) ?_
  show OwnOk p e below _ (s₁.setTop (mkF m 14 #[.val (.ref a), .val (.ref s1), .val (.ref s2), .val (.ref s3), .val (.int (1 : Int32)), .val (.int (1 : Int32)), .val (.ref r), .val (.long (-1 : Int64)), .second, .val (.long (-1 : Int64)), .second] [(.long (-1 : Int64)), (.long (-1 : Int64)), (.ref r), (.int (1 : Int32)), (.int (1 : Int32)), (.ref s3), (.ref s2), (.ref s1), (.ref a)]))
  refine own_up (fun tx kx => X0.ldc2Long hx hown (mvT hZ (wd_56 hw)) (g := (mkF m 14 #[.val (.ref a), .val (.ref s1), .val (.ref s2), .val (.ref s3), .val (.int (1 : Int32)), .val (.int (1 : Int32)), .val (.ref r), .val (.long (-1 : Int64)), .second, .val (.long (-1 : Int64)), .second] [(.long (-1 : Int64)), (.long (-1 : Int64)), (.ref r), (.int (1 : Int32)), (.int (1 : Int32)), (.ref s3), (.ref s2), (.ref s1), (.ref a)])) rfl (hb hby d7_14) _ kx) ?_
  show OwnOk p e below _ (s₁.setTop (mkF m 17 #[.val (.ref a), .val (.ref s1), .val (.ref s2), .val (.ref s3), .val (.int (1 : Int32)), .val (.int (1 : Int32)), .val (.ref r), .val (.long (-1 : Int64)), .second, .val (.long (-1 : Int64)), .second] [(.long (-1 : Int64)), (.long (-1 : Int64)), (.long (-1 : Int64)), (.ref r), (.int (1 : Int32)), (.int (1 : Int32)), (.ref s3), (.ref s2), (.ref s1), (.ref a)]))
  refine own_up (fun tx kx => XS.aconstNull X0.here hx rfl (hb hby d7_17) kx) ?_
  show OwnOk p e below _ (s₁.setTop (mkF m 18 #[.val (.ref a), .val (.ref s1), .val (.ref s2), .val (.ref s3), .val (.int (1 : Int32)), .val (.int (1 : Int32)), .val (.ref r), .val (.long (-1 : Int64)), .second, .val (.long (-1 : Int64)), .second] [.null, (.long (-1 : Int64)), (.long (-1 : Int64)), (.long (-1 : Int64)), (.ref r), (.int (1 : Int32)), (.int (1 : Int32)), (.ref s3), (.ref s2), (.ref s1), (.ref a)]))
  refine own_callCW X0 hB hx hZ (y := (⟨"com/example/slotwright/slotwright/sched/JobSpec", "<init>", "(Ljava/lang/String;Ljava/lang/String;Ljava/lang/String;IILcom/example/slotwright/slotwright/sched/JobPriority;JJJLjava/lang/String;)V"⟩ : MethodName)) rfl hown (wd_60 hw) (wd_61 hw) (wd_36 hw) (wd_62 hw) (by decide) (rm8 l Z a0 hw a s1 s2 s3 r h0 n0 OL E_a F_name_a F_queue_a F_user_a F_maps_a F_reduces_a F_priority_a F_mapMemoryMb_a F_reduceMemoryMb_a F_deadlineMs_a F_profile_a n0_a) e0 (argsL := [(.ref s1), (.ref s2), (.ref s3), (.int (1 : Int32)), (.int (1 : Int32)), (.ref r), (.long (-1 : Int64)), (.long (-1 : Int64)), (.long (-1 : Int64)), .null]) (rest := []) (a := a) (by rw [hml]; rfl) (lenOf pd_2 rfl) rfl rfl (W := 0) rfl (hb hby d7_18) (by decide) (by decide) (by decide) (by decide) (fun s11 T11 v11 L11 X11 hB11 hZ11 hown11 hQ11 => ?_)
  obtain ⟨rfl, Nq11, Kq11, Eq11, fa11, fb11⟩ := hQ11
  have N11 := Fr.app N0 Nq11
  have OL11 := OL.keep Kq11 (allS n0_a all0)
  have KP11 := KP0.trans Kq11 (allS (Or.inl (List.mem_of_getElem? (i := 0) rfl)) all0)
  show OwnOk p e below _ (T11.setTop (mkF m 21 #[.val (.ref a), .val (.ref s1), .val (.ref s2), .val (.ref s3), .val (.int (1 : Int32)), .val (.int (1 : Int32)), .val (.ref r), .val (.long (-1 : Int64)), .second, .val (.long (-1 : Int64)), .second] []))
  refine own_retVW X11 hB11 hx (show meth.sig.returnType = none from hret) hlk (hb hby d7_21) rfl (Nat.le_of_ble_eq_true rfl) (Nat.le_of_ble_eq_true rfl) ?_
  exact ⟨rfl, N11, KP11, Eq11, fa11, fb11⟩
def Q_rm6 (Z : State) (a : Addr) (h0 : Heap) (n0 : Nat) (v : Option Value) (h : Heap) (L : List Loc) : Prop := v = none ∧ Fr n0 L ∧ Keep h0 h [a] ∧ Exa Z h a "com/example/slotwright/slotwright/sched/JobSpec" ∧ (Fld Z h a "com/example/slotwright/slotwright/sched/JobSpec" "mapMemoryMb" "J" (.long (-1 : Int64))) ∧ (Fld Z h a "com/example/slotwright/slotwright/sched/JobSpec" "reduceMemoryMb" "J" (.long (-1 : Int64)))
set_option maxRecDepth 65536 in
set_option maxHeartbeats 40000000 in
theorem rm6 (l : Launch) (Z : State) (a0 : Array Value) (hw : ∀ d ∈ tables_1, d.before a0 Z = true) (a s1 s2 s3 r : Addr) (h0 : Heap) (n0 : Nat) (OL : Old Z n0 h0) (E_a : Exa Z h0 a "com/example/slotwright/slotwright/sched/JobSpec") (F_name_a : Fld Z h0 a "com/example/slotwright/slotwright/sched/JobSpec" "name" "Ljava/lang/String;" .null) (F_queue_a : Fld Z h0 a "com/example/slotwright/slotwright/sched/JobSpec" "queue" "Ljava/lang/String;" .null) (F_user_a : Fld Z h0 a "com/example/slotwright/slotwright/sched/JobSpec" "user" "Ljava/lang/String;" .null) (F_maps_a : Fld Z h0 a "com/example/slotwright/slotwright/sched/JobSpec" "maps" "I" (.int (0 : Int32))) (F_reduces_a : Fld Z h0 a "com/example/slotwright/slotwright/sched/JobSpec" "reduces" "I" (.int (0 : Int32))) (F_priority_a : Fld Z h0 a "com/example/slotwright/slotwright/sched/JobSpec" "priority" "Lcom/example/slotwright/slotwright/sched/JobPriority;" .null) (F_mapMemoryMb_a : Fld Z h0 a "com/example/slotwright/slotwright/sched/JobSpec" "mapMemoryMb" "J" (.long (0 : Int64))) (F_reduceMemoryMb_a : Fld Z h0 a "com/example/slotwright/slotwright/sched/JobSpec" "reduceMemoryMb" "J" (.long (0 : Int64))) (F_deadlineMs_a : Fld Z h0 a "com/example/slotwright/slotwright/sched/JobSpec" "deadlineMs" "J" (.long (0 : Int64))) (F_profile_a : Fld Z h0 a "com/example/slotwright/slotwright/sched/JobSpec" "profile" "Ljava/lang/String;" .null) (n0_a : n0 ≤ a) :
    own_MetW l Z (⟨"com/example/slotwright/slotwright/sched/JobSpec", "<init>", "(Ljava/lang/String;Ljava/lang/String;Ljava/lang/String;IILcom/example/slotwright/slotwright/sched/JobPriority;)V"⟩ : MethodName) prog_102_method_3_code 7 none ({ frames := 4, cells := 3, slots := 38, locals := 76 } : Room) #[(.ref a), (.ref s1), (.ref s2), (.ref s3), (.int (1 : Int32)), (.int (1 : Int32)), (.ref r)] h0 (Q_rm6 Z a h0 n0) := by
  refine own_bodyW (L0 := #[.val (.ref a), .val (.ref s1), .val (.ref s2), .val (.ref s3), .val (.int (1 : Int32)), .val (.int (1 : Int32)), .val (.ref r)]) (plainFor_of_name (by first | (simp [plainName, overriddenIn]; done) | decide +kernel)) (fun m => by first | (simp [entryFrame, mkF, argsToLocals, Value.category]; done) | rfl) ?_
  intro p e s m below meth c s₁ hx hby hml hZ hown hnm hret hlk X0 e0
  have N0 := Fr.nil n0
  have Z0 : n0 ≤ h0.size := OL.1 ▸ OL.2.1
  have hB := own_From.start s h0
  show OwnOk p e below _ (s₁.setTop (mkF m 0 #[.val (.ref a), .val (.ref s1), .val (.ref s2), .val (.ref s3), .val (.int (1 : Int32)), .val (.int (1 : Int32)), .val (.ref r)] []))
  have KP0 : Keep h0 h0 [a] := Keep.refl h0 _
  refine own_up (fun tx kx => XS.aloadN X0.here hx rfl (hb hby d6_0) rfl rfl kx) ?_
  show OwnOk p e below _ (s₁.setTop (mkF m 1 #[.val (.ref a), .val (.ref s1), .val (.ref s2), .val (.ref s3), .val (.int (1 : Int32)), .val (.int (1 : Int32)), .val (.ref r)] [(.ref a)]))
  refine own_up (fun tx kx => XS.aloadN X0.here hx rfl (hb hby d6_1) rfl rfl kx) ?_
  show OwnOk p e below _ (s₁.setTop (mkF m 2 #[.val (.ref a), .val (.ref s1), .val (.ref s2), .val (.ref s3), .val (.int (1 : Int32)), .val (.int (1 : Int32)), .val (.ref r)] [(.ref s1), (.ref a)]))
  refine own_up (fun tx kx => XS.aloadN X0.here hx rfl (hb hby d6_2) rfl rfl kx) ?_
  show OwnOk p e below _ (s₁.setTop (mkF m 3 #[.val (.ref a), .val (.ref s1), .val (.ref s2), .val (.ref s3), .val (.int (1 : Int32)), .val (.int (1 : Int32)), .val (.ref r)] [(.ref s2), (.ref s1), (.ref a)]))
  refine own_up (fun tx kx => XS.aloadN X0.here hx rfl (hb hby d6_3) rfl rfl kx) ?_
  show OwnOk p e below _ (s₁.setTop (mkF m 4 #[.val (.ref a), .val (.ref s1), .val (.ref s2), .val (.ref s3), .val (.int (1 : Int32)), .val (.int (1 : Int32)), .val (.ref r)] [(.ref s3), (.ref s2), (.ref s1), (.ref a)]))
  refine own_up (fun tx kx => XS.iload X0.here hx rfl (hb hby d6_4) rfl kx) ?_
  show OwnOk p e below _ (s₁.setTop (mkF m 6 #[.val (.ref a), .val (.ref s1), .val (.ref s2), .val (.ref s3), .val (.int (1 : Int32)), .val (.int (1 : Int32)), .val (.ref r)] [(.int (1 : Int32)), (.ref s3), (.ref s2), (.ref s1), (.ref a)]))
  refine own_up (fun tx kx => XS.iload X0.here hx rfl (hb hby d6_6) rfl kx) ?_
  show OwnOk p e below _ (s₁.setTop (mkF m 8 #[.val (.ref a), .val (.ref s1), .val (.ref s2), .val (.ref s3), .val (.int (1 : Int32)), .val (.int (1 : Int32)), .val (.ref r)] [(.int (1 : Int32)), (.int (1 : Int32)), (.ref s3), (.ref s2), (.ref s1), (.ref a)]))
  refine own_up (fun tx kx => XS.aload X0.here hx rfl (hb hby d6_8) rfl rfl kx) ?_
  show OwnOk p e below _ (s₁.setTop (mkF m 10 #[.val (.ref a), .val (.ref s1), .val (.ref s2), .val (.ref s3), .val (.int (1 : Int32)), .val (.int (1 : Int32)), .val (.ref r)] [(.ref r), (.int (1 : Int32)), (.int (1 : Int32)), (.ref s3), (.ref s2), (.ref s1), (.ref a)]))
  refine own_up (fun tx kx => X0.ldc2Long hx hown (mvT hZ (wd_56 hw)) (g := (mkF m 10 #[.val (.ref a), .val (.ref s1), .val (.ref s2), .val (.ref s3), .val (.int (1 : Int32)), .val (.int (1 : Int32)), .val (.ref r)] [(.ref r), (.int (1 : Int32)), (.int (1 : Int32)), (.ref s3), (.ref s2), (.ref s1), (.ref a)])) rfl (hb hby d6_10) _ kx) ?_
  show OwnOk p e below _ (s₁.setTop (mkF m 13 #[.val (.ref a), .val (.ref s1), .val (.ref s2), .val (.ref s3), .val (.int (1 : Int32)), .val (.int (1 : Int32)), .val (.ref r)] [(.long (-1 : Int64)), (.ref r), (.int (1 : Int32)), (.int (1 : Int32)), (.ref s3), (.ref s2), (.ref s1), (.ref a)]))
  refine own_up (fun tx kx => X0.ldc2Long hx hown (mvT hZ (wd_56 hw)) (g := (mkF m 13 #[.val (.ref a), .val (.ref s1), .val (.ref s2), .val (.ref s3), .val (.int (1 : Int32)), .val (.int (1 : Int32)), .val (.ref r)] [(.long (-1 : Int64)), (.ref r), (.int (1 : Int32)), (.int (1 : Int32)), (.ref s3), (.ref s2), (.ref s1), (.ref a)])) rfl (hb hby d6_13) _ kx) ?_
  show OwnOk p e below _ (s₁.setTop (mkF m 16 #[.val (.ref a), .val (.ref s1), .val (.ref s2), .val (.ref s3), .val (.int (1 : Int32)), .val (.int (1 : Int32)), .val (.ref r)] [(.long (-1 : Int64)), (.long (-1 : Int64)), (.ref r), (.int (1 : Int32)), (.int (1 : Int32)), (.ref s3), (.ref s2), (.ref s1), (.ref a)]))
  refine own_callCW X0 hB hx hZ (y := (⟨"com/example/slotwright/slotwright/sched/JobSpec", "<init>", "(Ljava/lang/String;Ljava/lang/String;Ljava/lang/String;IILcom/example/slotwright/slotwright/sched/JobPriority;JJ)V"⟩ : MethodName)) rfl hown (wd_57 hw) (wd_58 hw) (wd_36 hw) (wd_59 hw) (by decide) (rm7 l Z a0 hw a s1 s2 s3 r h0 n0 OL E_a F_name_a F_queue_a F_user_a F_maps_a F_reduces_a F_priority_a F_mapMemoryMb_a F_reduceMemoryMb_a F_deadlineMs_a F_profile_a n0_a) e0 (argsL := [(.ref s1), (.ref s2), (.ref s3), (.int (1 : Int32)), (.int (1 : Int32)), (.ref r), (.long (-1 : Int64)), (.long (-1 : Int64))]) (rest := []) (a := a) (by rw [hml]; rfl) (lenOf pd_3 rfl) rfl rfl (W := 0) rfl (hb hby d6_16) (by decide) (by decide) (by decide) (by decide) (fun s11 T11 v11 L11 X11 hB11 hZ11 hown11 hQ11 => ?_)
  obtain ⟨rfl, Nq11, Kq11, Eq11, fa11, fb11⟩ := hQ11
  have N11 := Fr.app N0 Nq11
  have OL11 := OL.keep Kq11 (allS n0_a all0)
  have KP11 := KP0.trans Kq11 (allS (Or.inl (List.mem_of_getElem? (i := 0) rfl)) all0)
  show OwnOk p e below _ (T11.setTop (mkF m 19 #[.val (.ref a), .val (.ref s1), .val (.ref s2), .val (.ref s3), .val (.int (1 : Int32)), .val (.int (1 : Int32)), .val (.ref r)] []))
  refine own_retVW X11 hB11 hx (show meth.sig.returnType = none from hret) hlk (hb hby d6_19) rfl (Nat.le_of_ble_eq_true rfl) (Nat.le_of_ble_eq_true rfl) ?_
  exact ⟨rfl, N11, KP11, Eq11, fa11, fb11⟩
def Q_rm5 (Z : State) (a : Addr) (h0 : Heap) (n0 : Nat) (v : Option Value) (h : Heap) (L : List Loc) : Prop := v = none ∧ Fr n0 L ∧ Keep h0 h [a] ∧ Exa Z h a "com/example/slotwright/slotwright/sched/JobSpec" ∧ (Fld Z h a "com/example/slotwright/slotwright/sched/JobSpec" "mapMemoryMb" "J" (.long (-1 : Int64))) ∧ (Fld Z h a "com/example/slotwright/slotwright/sched/JobSpec" "reduceMemoryMb" "J" (.long (-1 : Int64)))
set_option maxRecDepth 65536 in
set_option maxHeartbeats 40000000 in
theorem rm5 (l : Launch) (Z : State) (a0 : Array Value) (hw : ∀ d ∈ tables_1, d.before a0 Z = true) (a s1 s2 s3 r : Addr) (h0 : Heap) (n0 : Nat) (OL : Old Z n0 h0) (E_a : Exa Z h0 a "com/example/slotwright/slotwright/sched/JobSpec") (F_name_a : Fld Z h0 a "com/example/slotwright/slotwright/sched/JobSpec" "name" "Ljava/lang/String;" .null) (F_queue_a : Fld Z h0 a "com/example/slotwright/slotwright/sched/JobSpec" "queue" "Ljava/lang/String;" .null) (F_user_a : Fld Z h0 a "com/example/slotwright/slotwright/sched/JobSpec" "user" "Ljava/lang/String;" .null) (F_maps_a : Fld Z h0 a "com/example/slotwright/slotwright/sched/JobSpec" "maps" "I" (.int (0 : Int32))) (F_reduces_a : Fld Z h0 a "com/example/slotwright/slotwright/sched/JobSpec" "reduces" "I" (.int (0 : Int32))) (F_priority_a : Fld Z h0 a "com/example/slotwright/slotwright/sched/JobSpec" "priority" "Lcom/example/slotwright/slotwright/sched/JobPriority;" .null) (F_mapMemoryMb_a : Fld Z h0 a "com/example/slotwright/slotwright/sched/JobSpec" "mapMemoryMb" "J" (.long (0 : Int64))) (F_reduceMemoryMb_a : Fld Z h0 a "com/example/slotwright/slotwright/sched/JobSpec" "reduceMemoryMb" "J" (.long (0 : Int64))) (F_deadlineMs_a : Fld Z h0 a "com/example/slotwright/slotwright/sched/JobSpec" "deadlineMs" "J" (.long (0 : Int64))) (F_profile_a : Fld Z h0 a "com/example/slotwright/slotwright/sched/JobSpec" "profile" "Ljava/lang/String;" .null) (n0_a : n0 ≤ a) (SN : Sta Z Z.heap "com/example/slotwright/slotwright/sched/JobPriority" "NORMAL" "Lcom/example/slotwright/slotwright/sched/JobPriority;" (.ref r)) :
    own_MetW l Z (⟨"com/example/slotwright/slotwright/sched/JobSpec", "<init>", "(Ljava/lang/String;Ljava/lang/String;Ljava/lang/String;II)V"⟩ : MethodName) prog_102_method_4_code 6 none ({ frames := 5, cells := 3, slots := 38, locals := 94 } : Room) #[(.ref a), (.ref s1), (.ref s2), (.ref s3), (.int (1 : Int32)), (.int (1 : Int32))] h0 (Q_rm5 Z a h0 n0) := by
  refine own_bodyW (L0 := #[.val (.ref a), .val (.ref s1), .val (.ref s2), .val (.ref s3), .val (.int (1 : Int32)), .val (.int (1 : Int32))]) (plainFor_of_name (by first | (simp [plainName, overriddenIn]; done) | decide +kernel)) (fun m => by first | (simp [entryFrame, mkF, argsToLocals, Value.category]; done) | rfl) ?_
  intro p e s m below meth c s₁ hx hby hml hZ hown hnm hret hlk X0 e0
  have N0 := Fr.nil n0
  have Z0 : n0 ≤ h0.size := OL.1 ▸ OL.2.1
  have hB := own_From.start s h0
  show OwnOk p e below _ (s₁.setTop (mkF m 0 #[.val (.ref a), .val (.ref s1), .val (.ref s2), .val (.ref s3), .val (.int (1 : Int32)), .val (.int (1 : Int32))] []))
  have KP0 : Keep h0 h0 [a] := Keep.refl h0 _
  refine own_up (fun tx kx => XS.aloadN X0.here hx rfl (hb hby d5_0) rfl rfl kx) ?_
  show OwnOk p e below _ (s₁.setTop (mkF m 1 #[.val (.ref a), .val (.ref s1), .val (.ref s2), .val (.ref s3), .val (.int (1 : Int32)), .val (.int (1 : Int32))] [(.ref a)]))
  refine own_up (fun tx kx => XS.aloadN X0.here hx rfl (hb hby d5_1) rfl rfl kx) ?_
  show OwnOk p e below _ (s₁.setTop (mkF m 2 #[.val (.ref a), .val (.ref s1), .val (.ref s2), .val (.ref s3), .val (.int (1 : Int32)), .val (.int (1 : Int32))] [(.ref s1), (.ref a)]))
  refine own_up (fun tx kx => XS.aloadN X0.here hx rfl (hb hby d5_2) rfl rfl kx) ?_
  show OwnOk p e below _ (s₁.setTop (mkF m 3 #[.val (.ref a), .val (.ref s1), .val (.ref s2), .val (.ref s3), .val (.int (1 : Int32)), .val (.int (1 : Int32))] [(.ref s2), (.ref s1), (.ref a)]))
  refine own_up (fun tx kx => XS.aloadN X0.here hx rfl (hb hby d5_3) rfl rfl kx) ?_
  show OwnOk p e below _ (s₁.setTop (mkF m 4 #[.val (.ref a), .val (.ref s1), .val (.ref s2), .val (.ref s3), .val (.int (1 : Int32)), .val (.int (1 : Int32))] [(.ref s3), (.ref s2), (.ref s1), (.ref a)]))
  refine own_up (fun tx kx => XS.iload X0.here hx rfl (hb hby d5_4) rfl kx) ?_
  show OwnOk p e below _ (s₁.setTop (mkF m 6 #[.val (.ref a), .val (.ref s1), .val (.ref s2), .val (.ref s3), .val (.int (1 : Int32)), .val (.int (1 : Int32))] [(.int (1 : Int32)), (.ref s3), (.ref s2), (.ref s1), (.ref a)]))
  refine own_up (fun tx kx => XS.iload X0.here hx rfl (hb hby d5_6) rfl kx) ?_
  show OwnOk p e below _ (s₁.setTop (mkF m 8 #[.val (.ref a), .val (.ref s1), .val (.ref s2), .val (.ref s3), .val (.int (1 : Int32)), .val (.int (1 : Int32))] [(.int (1 : Int32)), (.int (1 : Int32)), (.ref s3), (.ref s2), (.ref s1), (.ref a)]))
  obtain ⟨T11, X11, e11, st11⟩ := getS2 X0 hx hZ hown (host := "") (Or.inl (wd_50 hw)) Via.refl e0 (SN.ext OL.2) (g := (mkF m 8 #[.val (.ref a), .val (.ref s1), .val (.ref s2), .val (.ref s3), .val (.int (1 : Int32)), .val (.int (1 : Int32))] [(.int (1 : Int32)), (.int (1 : Int32)), (.ref s3), (.ref s2), (.ref s1), (.ref a)])) rfl (hb hby d5_8)
  refine own_up st11 ?_
  show OwnOk p e below _ (T11.setTop (mkF m 11 #[.val (.ref a), .val (.ref s1), .val (.ref s2), .val (.ref s3), .val (.int (1 : Int32)), .val (.int (1 : Int32))] [(.ref r), (.int (1 : Int32)), (.int (1 : Int32)), (.ref s3), (.ref s2), (.ref s1), (.ref a)]))
  refine own_callCW X11 hB hx hZ (y := (⟨"com/example/slotwright/slotwright/sched/JobSpec", "<init>", "(Ljava/lang/String;Ljava/lang/String;Ljava/lang/String;IILcom/example/slotwright/slotwright/sched/JobPriority;)V"⟩ : MethodName)) rfl hown (wd_53 hw) (wd_54 hw) (wd_36 hw) (wd_55 hw) (by decide) (rm6 l Z a0 hw a s1 s2 s3 r h0 n0 OL E_a F_name_a F_queue_a F_user_a F_maps_a F_reduces_a F_priority_a F_mapMemoryMb_a F_reduceMemoryMb_a F_deadlineMs_a F_profile_a n0_a) e11 (argsL := [(.ref s1), (.ref s2), (.ref s3), (.int (1 : Int32)), (.int (1 : Int32)), (.ref r)]) (rest := []) (a := a) (by rw [hml]; rfl) (lenOf pd_4 rfl) rfl rfl (W := 0) rfl (hb hby d5_11) (by decide) (by decide) (by decide) (by decide) (fun s12 T12 v12 L12 X12 hB12 hZ12 hown12 hQ12 => ?_)
  obtain ⟨rfl, Nq12, Kq12, Eq12, fa12, fb12⟩ := hQ12
  have N12 := Fr.app N0 Nq12
  have OL12 := OL.keep Kq12 (allS n0_a all0)
  have KP12 := KP0.trans Kq12 (allS (Or.inl (List.mem_of_getElem? (i := 0) rfl)) all0)
  show OwnOk p e below _ (T12.setTop (mkF m 14 #[.val (.ref a), .val (.ref s1), .val (.ref s2), .val (.ref s3), .val (.int (1 : Int32)), .val (.int (1 : Int32))] []))
  refine own_retVW X12 hB12 hx (show meth.sig.returnType = none from hret) hlk (hb hby d5_14) rfl (Nat.le_of_ble_eq_true rfl) (Nat.le_of_ble_eq_true rfl) ?_
  exact ⟨rfl, N12, KP12, Eq12, fa12, fb12⟩
def Q_rm10 (q1 q2 : Int64) (h0 : Heap) (n0 : Nat) (v : Option Value) (h : Heap) (L : List Loc) : Prop := v = some (.int (if q1 = -1 ∧ q2 = -1 then 0 else 1)) ∧ Fr n0 L ∧ h = h0
set_option maxRecDepth 65536 in
set_option maxHeartbeats 40000000 in
theorem rm10 (l : Launch) (Z : State) (a0 : Array Value) (hw : ∀ d ∈ tables_1, d.before a0 Z = true) (a : Addr) (q1 q2 : Int64) (h0 : Heap) (n0 : Nat) (OL : Old Z n0 h0) (F1 : Fld Z h0 a "com/example/slotwright/slotwright/sched/TaskMemory" "mapSlotMb" "J" (.long q1)) (F2 : Fld Z h0 a "com/example/slotwright/slotwright/sched/TaskMemory" "reduceSlotMb" "J" (.long q2)) :
    own_Met l Z (⟨"com/example/slotwright/slotwright/sched/TaskMemory", "sizesSlots", "()Z"⟩ : MethodName) prog_148_method_4_code 1 (some .boolean) ({ frames := 0, cells := 0, slots := 0, locals := 0 } : Room) #[(.ref a)] h0 (Q_rm10 q1 q2 h0 n0) := by
  refine own_body (L0 := #[.val (.ref a)]) (plainFor_of_name (by first | (simp [plainName, overriddenIn]; done) | decide +kernel)) (fun m => by first | (simp [entryFrame, mkF, argsToLocals, Value.category]; done) | rfl) ?_
  intro p e s m below meth c s₁ hx hby hml hZ hown hnm hret hlk X0 e0
  have N0 := Fr.nil n0
  have Z0 : n0 ≤ h0.size := OL.1 ▸ OL.2.1
  show OwnOk p e below _ (s₁.setTop (mkF m 0 #[.val (.ref a)] []))
  refine own_up (fun tx kx => XS.aloadN X0.here hx rfl (hb hby d10_0) rfl rfl kx) ?_
  show OwnOk p e below _ (s₁.setTop (mkF m 1 #[.val (.ref a)] [(.ref a)]))
  obtain ⟨T11, X11, e11, st11⟩ := getF X0 hx hZ hown (host := "") (Or.inl (wd_22 hw)) Via.refl e0 F1 (g := (mkF m 1 #[.val (.ref a)] [(.ref a)])) rfl rfl (hb hby d10_1)
  refine own_up st11 ?_
  show OwnOk p e below _ (T11.setTop (mkF m 4 #[.val (.ref a)] [(.long q1)]))
  refine own_up (fun tx kx => X11.ldc2Long hx hown (mvT hZ (wd_21 hw)) (g := (mkF m 4 #[.val (.ref a)] [(.long q1)])) rfl (hb hby d10_4) _ kx) ?_
  show OwnOk p e below _ (T11.setTop (mkF m 7 #[.val (.ref a)] [(.long (-1 : Int64)), (.long q1)]))
  refine own_up (fun tx kx => XS.lcmp X11.here hx rfl (hb hby d10_7) rfl kx) ?_
  show OwnOk p e below _ (T11.setTop (mkF m 8 #[.val (.ref a)] [(.int (lcmpW q1 (-1 : Int64)))]))
  by_cases h1 : q1 = (-1 : Int64)
  · refine own_up (fun tx kx => XS.ifNo X11.here hx rfl (hb hby d10_8) rfl (own_jteq h1).2 kx) ?_
    show OwnOk p e below _ (T11.setTop (mkF m 11 #[.val (.ref a)] []))
    refine own_up (fun tx kx => XS.aloadN X11.here hx rfl (hb hby d10_11) rfl rfl kx) ?_
    show OwnOk p e below _ (T11.setTop (mkF m 12 #[.val (.ref a)] [(.ref a)]))
    obtain ⟨T12, X12, e12, st12⟩ := getF X11 hx hZ hown (host := "") (Or.inl (wd_24 hw)) Via.refl e11 F2 (g := (mkF m 12 #[.val (.ref a)] [(.ref a)])) rfl rfl (hb hby d10_12)
    refine own_up st12 ?_
    show OwnOk p e below _ (T12.setTop (mkF m 15 #[.val (.ref a)] [(.long q2)]))
    refine own_up (fun tx kx => X12.ldc2Long hx hown (mvT hZ (wd_21 hw)) (g := (mkF m 15 #[.val (.ref a)] [(.long q2)])) rfl (hb hby d10_15) _ kx) ?_
    show OwnOk p e below _ (T12.setTop (mkF m 18 #[.val (.ref a)] [(.long (-1 : Int64)), (.long q2)]))
    refine own_up (fun tx kx => XS.lcmp X12.here hx rfl (hb hby d10_18) rfl kx) ?_
    show OwnOk p e below _ (T12.setTop (mkF m 19 #[.val (.ref a)] [(.int (lcmpW q2 (-1 : Int64)))]))
    by_cases h2 : q2 = (-1 : Int64)
    · refine own_up (fun tx kx => XS.ifYes X12.here hx rfl (pc0 := 19) (pc' := 26) rfl (hb hby d10_19) rfl (own_jteq h2).1 (by decide) (by decide) kx) ?_
      show OwnOk p e below _ (T12.setTop (mkF m 26 #[.val (.ref a)] []))
      refine own_up (fun tx kx => XS.iconst X12.here hx rfl (hb hby d10_26) kx) ?_
      show OwnOk p e below _ (T12.setTop (mkF m 27 #[.val (.ref a)] [(.int (0 : Int32))]))
      refine own_retN X12 hx (t := .boolean) (show meth.sig.returnType = some .boolean from hret) (by simp) hlk (hb hby d10_27) (z' := (0 : Int32)) rfl e12 (Nat.le_of_ble_eq_true rfl) (Nat.le_of_ble_eq_true rfl) ?_
      exact ⟨by rw [if_pos ⟨h1, h2⟩], N0, rfl⟩
    · refine own_up (fun tx kx => XS.ifNo X12.here hx rfl (hb hby d10_19) rfl (own_jfeq h2).1 kx) ?_
      show OwnOk p e below _ (T12.setTop (mkF m 22 #[.val (.ref a)] []))
      refine own_up (fun tx kx => XS.iconst X12.here hx rfl (hb hby d10_22) kx) ?_
      show OwnOk p e below _ (T12.setTop (mkF m 23 #[.val (.ref a)] [(.int (1 : Int32))]))
      refine own_up (fun tx kx => XS.goto X12.here hx rfl (pc0 := 23) (pc' := 27) rfl (hb hby d10_23) (by decide) (by decide) kx) ?_
      show OwnOk p e below _ (T12.setTop (mkF m 27 #[.val (.ref a)] [(.int (1 : Int32))]))
      refine own_retN X12 hx (t := .boolean) (show meth.sig.returnType = some .boolean from hret) (by simp) hlk (hb hby d10_27) (z' := (1 : Int32)) rfl e12 (Nat.le_of_ble_eq_true rfl) (Nat.le_of_ble_eq_true rfl) ?_
      exact ⟨by rw [if_neg fun q => h2 q.2], N0, rfl⟩
  · refine own_up (fun tx kx => XS.ifYes X11.here hx rfl (pc0 := 8) (pc' := 22) rfl (hb hby d10_8) rfl (own_jfeq h1).2 (by decide) (by decide) kx) ?_
    show OwnOk p e below _ (T11.setTop (mkF m 22 #[.val (.ref a)] []))
    refine own_up (fun tx kx => XS.iconst X11.here hx rfl (hb hby d10_22) kx) ?_
    show OwnOk p e below _ (T11.setTop (mkF m 23 #[.val (.ref a)] [(.int (1 : Int32))]))
    refine own_up (fun tx kx => XS.goto X11.here hx rfl (pc0 := 23) (pc' := 27) rfl (hb hby d10_23) (by decide) (by decide) kx) ?_
    show OwnOk p e below _ (T11.setTop (mkF m 27 #[.val (.ref a)] [(.int (1 : Int32))]))
    refine own_retN X11 hx (t := .boolean) (show meth.sig.returnType = some .boolean from hret) (by simp) hlk (hb hby d10_27) (z' := (1 : Int32)) rfl e11 (Nat.le_of_ble_eq_true rfl) (Nat.le_of_ble_eq_true rfl) ?_
    exact ⟨by rw [if_neg fun q => h1 q.1], N0, rfl⟩
def Q_rm13 (h0 : Heap) (n0 : Nat) (v : Option Value) (h : Heap) (L : List Loc) : Prop := v = some (.long (-1 : Int64)) ∧ Fr n0 L ∧ h = h0
set_option maxRecDepth 65536 in
set_option maxHeartbeats 40000000 in
theorem rm13 (l : Launch) (Z : State) (a0 : Array Value) (hw : ∀ d ∈ tables_1, d.before a0 Z = true) (a k w : Addr) (h0 : Heap) (n0 : Nat) (OL : Old Z n0 h0) (SM : Sta Z Z.heap "com/example/slotwright/slotwright/sched/TaskKind" "MAP" "Lcom/example/slotwright/slotwright/sched/TaskKind;" (.ref w)) (F1 : Fld Z h0 a "com/example/slotwright/slotwright/sched/JobSpec" "mapMemoryMb" "J" (.long (-1 : Int64))) (F2 : Fld Z h0 a "com/example/slotwright/slotwright/sched/JobSpec" "reduceMemoryMb" "J" (.long (-1 : Int64))) :
    own_Met l Z (⟨"com/example/slotwright/slotwright/sched/JobSpec", "memoryMb", "(Lcom/example/slotwright/slotwright/sched/TaskKind;)J"⟩ : MethodName) prog_102_method_9_code 2 (some .long) ({ frames := 0, cells := 0, slots := 0, locals := 0 } : Room) #[(.ref a), (.ref k)] h0 (Q_rm13 h0 n0) := by
  refine own_body (L0 := #[.val (.ref a), .val (.ref k)]) (plainFor_of_name (by first | (simp [plainName, overriddenIn]; done) | decide +kernel)) (fun m => by first | (simp [entryFrame, mkF, argsToLocals, Value.category]; done) | rfl) ?_
  intro p e s m below meth c s₁ hx hby hml hZ hown hnm hret hlk X0 e0
  have N0 := Fr.nil n0
  have Z0 : n0 ≤ h0.size := OL.1 ▸ OL.2.1
  show OwnOk p e below _ (s₁.setTop (mkF m 0 #[.val (.ref a), .val (.ref k)] []))
  refine own_up (fun tx kx => XS.aloadN X0.here hx rfl (hb hby d13_0) rfl rfl kx) ?_
  show OwnOk p e below _ (s₁.setTop (mkF m 1 #[.val (.ref a), .val (.ref k)] [(.ref k)]))
  obtain ⟨T11, X11, e11, st11⟩ := getS2 X0 hx hZ hown (host := "") (Or.inl (wd_112 hw)) Via.refl e0 (SM.ext OL.2) (g := (mkF m 1 #[.val (.ref a), .val (.ref k)] [(.ref k)])) rfl (hb hby d13_1)
  refine own_up st11 ?_
  show OwnOk p e below _ (T11.setTop (mkF m 4 #[.val (.ref a), .val (.ref k)] [(.ref w), (.ref k)]))
  by_cases h1 : k = w
  · refine own_up (fun tx kx => Jvm.RoadKit.acmp (g := (mkF m 4 #[.val (.ref a), .val (.ref k)] [(.ref w), (.ref k)])) X11 hx rfl rfl rfl (pc0 := 4) (pc' := 7) (same := true) rfl (hb hby d13_4) rfl (decide_eq_true (own_ref_eq h1)) (by decide) (by decide) kx) ?_
    show OwnOk p e below _ (T11.setTop (mkF m 7 #[.val (.ref a), .val (.ref k)] []))
    refine own_up (fun tx kx => XS.aloadN X11.here hx rfl (hb hby d13_7) rfl rfl kx) ?_
    show OwnOk p e below _ (T11.setTop (mkF m 8 #[.val (.ref a), .val (.ref k)] [(.ref a)]))
    obtain ⟨T12, X12, e12, st12⟩ := getF X11 hx hZ hown (host := "") (Or.inl (wd_81 hw)) Via.refl e11 F1 (g := (mkF m 8 #[.val (.ref a), .val (.ref k)] [(.ref a)])) rfl rfl (hb hby d13_8)
    refine own_up st12 ?_
    show OwnOk p e below _ (T12.setTop (mkF m 11 #[.val (.ref a), .val (.ref k)] [(.long (-1 : Int64))]))
    refine own_up (fun tx kx => XS.goto X12.here hx rfl (pc0 := 11) (pc' := 18) rfl (hb hby d13_11) (by decide) (by decide) kx) ?_
    show OwnOk p e below _ (T12.setTop (mkF m 18 #[.val (.ref a), .val (.ref k)] [(.long (-1 : Int64))]))
    refine own_retJ X12 hx (show meth.sig.returnType = some .long from hret) hlk (hb hby d13_18) e12 (Nat.le_of_ble_eq_true rfl) (Nat.le_of_ble_eq_true rfl) ?_
    exact ⟨rfl, N0, rfl⟩
  · refine own_up (fun tx kx => Jvm.RoadKit.acmp (g := (mkF m 4 #[.val (.ref a), .val (.ref k)] [(.ref w), (.ref k)])) X11 hx rfl rfl rfl (pc0 := 4) (pc' := 14) (same := false) rfl (hb hby d13_4) rfl (decide_eq_false (own_ref_ne h1)) (by decide) (by decide) kx) ?_
    show OwnOk p e below _ (T11.setTop (mkF m 14 #[.val (.ref a), .val (.ref k)] []))
    refine own_up (fun tx kx => XS.aloadN X11.here hx rfl (hb hby d13_14) rfl rfl kx) ?_
    show OwnOk p e below _ (T11.setTop (mkF m 15 #[.val (.ref a), .val (.ref k)] [(.ref a)]))
    obtain ⟨T13, X13, e13, st13⟩ := getF X11 hx hZ hown (host := "") (Or.inl (wd_83 hw)) Via.refl e11 F2 (g := (mkF m 15 #[.val (.ref a), .val (.ref k)] [(.ref a)])) rfl rfl (hb hby d13_15)
    refine own_up st13 ?_
    show OwnOk p e below _ (T13.setTop (mkF m 18 #[.val (.ref a), .val (.ref k)] [(.long (-1 : Int64))]))
    refine own_retJ X13 hx (show meth.sig.returnType = some .long from hret) hlk (hb hby d13_18) e13 (Nat.le_of_ble_eq_true rfl) (Nat.le_of_ble_eq_true rfl) ?_
    exact ⟨rfl, N0, rfl⟩
def Q_rm14 (k w : Addr) (q1 q2 : Int64) (h0 : Heap) (n0 : Nat) (v : Option Value) (h : Heap) (L : List Loc) : Prop := v = some (.long (if k = w then q1 else q2)) ∧ Fr n0 L ∧ h = h0
set_option maxRecDepth 65536 in
set_option maxHeartbeats 40000000 in
theorem rm14 (l : Launch) (Z : State) (a0 : Array Value) (hw : ∀ d ∈ tables_1, d.before a0 Z = true) (a k w : Addr) (q1 q2 : Int64) (h0 : Heap) (n0 : Nat) (OL : Old Z n0 h0) (SM : Sta Z Z.heap "com/example/slotwright/slotwright/sched/TaskKind" "MAP" "Lcom/example/slotwright/slotwright/sched/TaskKind;" (.ref w)) (F1 : Fld Z h0 a "com/example/slotwright/slotwright/sched/TaskMemory" "mapSlotMb" "J" (.long q1)) (F2 : Fld Z h0 a "com/example/slotwright/slotwright/sched/TaskMemory" "reduceSlotMb" "J" (.long q2)) :
    own_Met l Z (⟨"com/example/slotwright/slotwright/sched/TaskMemory", "slotMb", "(Lcom/example/slotwright/slotwright/sched/TaskKind;)J"⟩ : MethodName) prog_148_method_2_code 2 (some .long) ({ frames := 0, cells := 0, slots := 0, locals := 0 } : Room) #[(.ref a), (.ref k)] h0 (Q_rm14 k w q1 q2 h0 n0) := by
  refine own_body (L0 := #[.val (.ref a), .val (.ref k)]) (plainFor_of_name (by first | (simp [plainName, overriddenIn]; done) | decide +kernel)) (fun m => by first | (simp [entryFrame, mkF, argsToLocals, Value.category]; done) | rfl) ?_
  intro p e s m below meth c s₁ hx hby hml hZ hown hnm hret hlk X0 e0
  have N0 := Fr.nil n0
  have Z0 : n0 ≤ h0.size := OL.1 ▸ OL.2.1
  show OwnOk p e below _ (s₁.setTop (mkF m 0 #[.val (.ref a), .val (.ref k)] []))
  refine own_up (fun tx kx => XS.aloadN X0.here hx rfl (hb hby d14_0) rfl rfl kx) ?_
  show OwnOk p e below _ (s₁.setTop (mkF m 1 #[.val (.ref a), .val (.ref k)] [(.ref k)]))
  obtain ⟨T11, X11, e11, st11⟩ := getS2 X0 hx hZ hown (host := "") (Or.inl (wd_113 hw)) Via.refl e0 (SM.ext OL.2) (g := (mkF m 1 #[.val (.ref a), .val (.ref k)] [(.ref k)])) rfl (hb hby d14_1)
  refine own_up st11 ?_
  show OwnOk p e below _ (T11.setTop (mkF m 4 #[.val (.ref a), .val (.ref k)] [(.ref w), (.ref k)]))
  by_cases h1 : k = w
  · refine own_up (fun tx kx => Jvm.RoadKit.acmp (g := (mkF m 4 #[.val (.ref a), .val (.ref k)] [(.ref w), (.ref k)])) X11 hx rfl rfl rfl (pc0 := 4) (pc' := 7) (same := true) rfl (hb hby d14_4) rfl (decide_eq_true (own_ref_eq h1)) (by decide) (by decide) kx) ?_
    show OwnOk p e below _ (T11.setTop (mkF m 7 #[.val (.ref a), .val (.ref k)] []))
    refine own_up (fun tx kx => XS.aloadN X11.here hx rfl (hb hby d14_7) rfl rfl kx) ?_
    show OwnOk p e below _ (T11.setTop (mkF m 8 #[.val (.ref a), .val (.ref k)] [(.ref a)]))
    obtain ⟨T12, X12, e12, st12⟩ := getF X11 hx hZ hown (host := "") (Or.inl (wd_22 hw)) Via.refl e11 F1 (g := (mkF m 8 #[.val (.ref a), .val (.ref k)] [(.ref a)])) rfl rfl (hb hby d14_8)
    refine own_up st12 ?_
    show OwnOk p e below _ (T12.setTop (mkF m 11 #[.val (.ref a), .val (.ref k)] [(.long q1)]))
    refine own_up (fun tx kx => XS.goto X12.here hx rfl (pc0 := 11) (pc' := 18) rfl (hb hby d14_11) (by decide) (by decide) kx) ?_
    show OwnOk p e below _ (T12.setTop (mkF m 18 #[.val (.ref a), .val (.ref k)] [(.long q1)]))
    refine own_retJ X12 hx (show meth.sig.returnType = some .long from hret) hlk (hb hby d14_18) e12 (Nat.le_of_ble_eq_true rfl) (Nat.le_of_ble_eq_true rfl) ?_
    exact ⟨by rw [if_pos h1], N0, rfl⟩
  · refine own_up (fun tx kx => Jvm.RoadKit.acmp (g := (mkF m 4 #[.val (.ref a), .val (.ref k)] [(.ref w), (.ref k)])) X11 hx rfl rfl rfl (pc0 := 4) (pc' := 14) (same := false) rfl (hb hby d14_4) rfl (decide_eq_false (own_ref_ne h1)) (by decide) (by decide) kx) ?_
    show OwnOk p e below _ (T11.setTop (mkF m 14 #[.val (.ref a), .val (.ref k)] []))
    refine own_up (fun tx kx => XS.aloadN X11.here hx rfl (hb hby d14_14) rfl rfl kx) ?_
    show OwnOk p e below _ (T11.setTop (mkF m 15 #[.val (.ref a), .val (.ref k)] [(.ref a)]))
    obtain ⟨T13, X13, e13, st13⟩ := getF X11 hx hZ hown (host := "") (Or.inl (wd_24 hw)) Via.refl e11 F2 (g := (mkF m 15 #[.val (.ref a), .val (.ref k)] [(.ref a)])) rfl rfl (hb hby d14_15)
    refine own_up st13 ?_
    show OwnOk p e below _ (T13.setTop (mkF m 18 #[.val (.ref a), .val (.ref k)] [(.long q2)]))
    refine own_retJ X13 hx (show meth.sig.returnType = some .long from hret) hlk (hb hby d14_18) e13 (Nat.le_of_ble_eq_true rfl) (Nat.le_of_ble_eq_true rfl) ?_
    exact ⟨by rw [if_neg h1], N0, rfl⟩
def Q_rm12 (h0 : Heap) (n0 : Nat) (v : Option Value) (h : Heap) (L : List Loc) : Prop := v = some (.long (9223372036854775807 : Int64)) ∧ Fr n0 L ∧ h = h0
set_option maxRecDepth 65536 in
set_option maxHeartbeats 40000000 in
theorem rm12 (l : Launch) (Z : State) (a0 : Array Value) (hw : ∀ d ∈ tables_1, d.before a0 Z = true) (a k j w : Addr) (h0 : Heap) (n0 : Nat) (OL : Old Z n0 h0) (SM : Sta Z Z.heap "com/example/slotwright/slotwright/sched/TaskKind" "MAP" "Lcom/example/slotwright/slotwright/sched/TaskKind;" (.ref w)) (EJ : Exa Z h0 j "com/example/slotwright/slotwright/sched/JobSpec") (G1 : Fld Z h0 j "com/example/slotwright/slotwright/sched/JobSpec" "mapMemoryMb" "J" (.long (-1 : Int64))) (G2 : Fld Z h0 j "com/example/slotwright/slotwright/sched/JobSpec" "reduceMemoryMb" "J" (.long (-1 : Int64))) (F5 : Fld Z h0 a "com/example/slotwright/slotwright/sched/TaskMemory" "jobMapMb" "J" (.long (9223372036854775807 : Int64))) (F6 : Fld Z h0 a "com/example/slotwright/slotwright/sched/TaskMemory" "jobReduceMb" "J" (.long (9223372036854775807 : Int64))) :
    own_Met l Z (⟨"com/example/slotwright/slotwright/sched/TaskMemory", "askedMb", "(Lcom/example/slotwright/slotwright/sched/TaskKind;Lcom/example/slotwright/slotwright/sched/JobSpec;)J"⟩ : MethodName) prog_148_method_5_code 5 (some .long) ({ frames := 1, cells := 0, slots := 0, locals := 13 } : Room) #[(.ref a), (.ref k), (.ref j)] h0 (Q_rm12 h0 n0) := by
  refine own_body (L0 := #[.val (.ref a), .val (.ref k), .val (.ref j), .unset, .unset]) (plainFor_of_name (by first | (simp [plainName, overriddenIn]; done) | decide +kernel)) (fun m => by first | (simp [entryFrame, mkF, argsToLocals, Value.category]; done) | rfl) ?_
  intro p e s m below meth c s₁ hx hby hml hZ hown hnm hret hlk X0 e0
  have N0 := Fr.nil n0
  have Z0 : n0 ≤ h0.size := OL.1 ▸ OL.2.1
  show OwnOk p e below _ (s₁.setTop (mkF m 0 #[.val (.ref a), .val (.ref k), .val (.ref j), .unset, .unset] []))
  refine own_up (fun tx kx => XS.aloadN X0.here hx rfl (hb hby d12_0) rfl rfl kx) ?_
  show OwnOk p e below _ (s₁.setTop (mkF m 1 #[.val (.ref a), .val (.ref k), .val (.ref j), .unset, .unset] [(.ref j)]))
  refine own_up (fun tx kx => XS.aloadN X0.here hx rfl (hb hby d12_1) rfl rfl kx) ?_
  show OwnOk p e below _ (s₁.setTop (mkF m 2 #[.val (.ref a), .val (.ref k), .val (.ref j), .unset, .unset] [(.ref k), (.ref j)]))
  refine own_callV X0 hx hZ (y := (⟨"com/example/slotwright/slotwright/sched/JobSpec", "memoryMb", "(Lcom/example/slotwright/slotwright/sched/TaskKind;)J"⟩ : MethodName)) (z := (⟨"com/example/slotwright/slotwright/sched/JobSpec", "memoryMb", "(Lcom/example/slotwright/slotwright/sched/TaskKind;)J"⟩ : MethodName)) hown (wd_107 hw) (wd_108 hw) (notFace_of_selects (args := #[]) (mvT hZ (wd_110 hw))) (wd_110 hw) (wd_109 hw) (wd_36 hw) (wd_111 hw) (by decide) (rm13 l Z a0 hw j k w h0 n0 OL SM G1 G2) e0 (argsL := [(.ref k)]) (rest := []) EJ (by rw [hml]; rfl) (lenOf pd_5 rfl) rfl rfl (W := 0) rfl (hb hby d12_2) (by decide) (by decide) (by decide) (by decide) (fun T11 v11 L11 X11 hQ11 => ?_)
  obtain ⟨rfl, Nq11, hh11⟩ := hQ11
  have N11 := Fr.app N0 Nq11
  show OwnOk p e below _ (T11.setTop (mkF m 5 #[.val (.ref a), .val (.ref k), .val (.ref j), .unset, .unset] [(.long (-1 : Int64))]))
  refine own_up (fun tx kx => XS.lstoreN X11.here hx rfl (hb hby d12_5) rfl (l' := #[.val (.ref a), .val (.ref k), .val (.ref j), .val (.long (-1 : Int64)), .second]) rfl kx) ?_
  show OwnOk p e below _ (T11.setTop (mkF m 6 #[.val (.ref a), .val (.ref k), .val (.ref j), .val (.long (-1 : Int64)), .second] []))
  refine own_up (fun tx kx => XS.lloadN X11.here hx rfl (hb hby d12_6) rfl kx) ?_
  show OwnOk p e below _ (T11.setTop (mkF m 7 #[.val (.ref a), .val (.ref k), .val (.ref j), .val (.long (-1 : Int64)), .second] [(.long (-1 : Int64))]))
  refine own_up (fun tx kx => X11.ldc2Long hx hown (mvT hZ (wd_21 hw)) (g := (mkF m 7 #[.val (.ref a), .val (.ref k), .val (.ref j), .val (.long (-1 : Int64)), .second] [(.long (-1 : Int64))])) rfl (hb hby d12_7) _ kx) ?_
  show OwnOk p e below _ (T11.setTop (mkF m 10 #[.val (.ref a), .val (.ref k), .val (.ref j), .val (.long (-1 : Int64)), .second] [(.long (-1 : Int64)), (.long (-1 : Int64))]))
  refine own_up (fun tx kx => XS.lcmp X11.here hx rfl (hb hby d12_10) rfl kx) ?_
  show OwnOk p e below _ (T11.setTop (mkF m 11 #[.val (.ref a), .val (.ref k), .val (.ref j), .val (.long (-1 : Int64)), .second] [(.int (lcmpW (-1 : Int64) (-1 : Int64)))]))
  refine own_up (fun tx kx => XS.ifYes X11.here hx rfl (pc0 := 11) (pc' := 16) rfl (hb hby d12_11) rfl (own_jteq rfl).1 (by decide) (by decide) kx) ?_
  show OwnOk p e below _ (T11.setTop (mkF m 16 #[.val (.ref a), .val (.ref k), .val (.ref j), .val (.long (-1 : Int64)), .second] []))
  refine own_up (fun tx kx => XS.aloadN X11.here hx rfl (hb hby d12_16) rfl rfl kx) ?_
  show OwnOk p e below _ (T11.setTop (mkF m 17 #[.val (.ref a), .val (.ref k), .val (.ref j), .val (.long (-1 : Int64)), .second] [(.ref k)]))
  obtain ⟨T12, X12, e12, st12⟩ := getS2 X11 hx hZ hown (host := "") (Or.inl (wd_113 hw)) Via.refl hh11 (SM.ext OL.2) (g := (mkF m 17 #[.val (.ref a), .val (.ref k), .val (.ref j), .val (.long (-1 : Int64)), .second] [(.ref k)])) rfl (hb hby d12_17)
  refine own_up st12 ?_
  show OwnOk p e below _ (T12.setTop (mkF m 20 #[.val (.ref a), .val (.ref k), .val (.ref j), .val (.long (-1 : Int64)), .second] [(.ref w), (.ref k)]))
  by_cases h1 : k = w
  · refine own_up (fun tx kx => Jvm.RoadKit.acmp (g := (mkF m 20 #[.val (.ref a), .val (.ref k), .val (.ref j), .val (.long (-1 : Int64)), .second] [(.ref w), (.ref k)])) X12 hx rfl rfl rfl (pc0 := 20) (pc' := 23) (same := true) rfl (hb hby d12_20) rfl (decide_eq_true (own_ref_eq h1)) (by decide) (by decide) kx) ?_
    show OwnOk p e below _ (T12.setTop (mkF m 23 #[.val (.ref a), .val (.ref k), .val (.ref j), .val (.long (-1 : Int64)), .second] []))
    refine own_up (fun tx kx => XS.aloadN X12.here hx rfl (hb hby d12_23) rfl rfl kx) ?_
    show OwnOk p e below _ (T12.setTop (mkF m 24 #[.val (.ref a), .val (.ref k), .val (.ref j), .val (.long (-1 : Int64)), .second] [(.ref a)]))
    obtain ⟨T13, X13, e13, st13⟩ := getF X12 hx hZ hown (host := "") (Or.inl (wd_30 hw)) Via.refl e12 F5 (g := (mkF m 24 #[.val (.ref a), .val (.ref k), .val (.ref j), .val (.long (-1 : Int64)), .second] [(.ref a)])) rfl rfl (hb hby d12_24)
    refine own_up st13 ?_
    show OwnOk p e below _ (T13.setTop (mkF m 27 #[.val (.ref a), .val (.ref k), .val (.ref j), .val (.long (-1 : Int64)), .second] [(.long (9223372036854775807 : Int64))]))
    refine own_up (fun tx kx => XS.goto X13.here hx rfl (pc0 := 27) (pc' := 34) rfl (hb hby d12_27) (by decide) (by decide) kx) ?_
    show OwnOk p e below _ (T13.setTop (mkF m 34 #[.val (.ref a), .val (.ref k), .val (.ref j), .val (.long (-1 : Int64)), .second] [(.long (9223372036854775807 : Int64))]))
    refine own_retJ X13 hx (show meth.sig.returnType = some .long from hret) hlk (hb hby d12_34) e13 (Nat.le_of_ble_eq_true rfl) (Nat.le_of_ble_eq_true rfl) ?_
    exact ⟨rfl, N11, rfl⟩
  · refine own_up (fun tx kx => Jvm.RoadKit.acmp (g := (mkF m 20 #[.val (.ref a), .val (.ref k), .val (.ref j), .val (.long (-1 : Int64)), .second] [(.ref w), (.ref k)])) X12 hx rfl rfl rfl (pc0 := 20) (pc' := 30) (same := false) rfl (hb hby d12_20) rfl (decide_eq_false (own_ref_ne h1)) (by decide) (by decide) kx) ?_
    show OwnOk p e below _ (T12.setTop (mkF m 30 #[.val (.ref a), .val (.ref k), .val (.ref j), .val (.long (-1 : Int64)), .second] []))
    refine own_up (fun tx kx => XS.aloadN X12.here hx rfl (hb hby d12_30) rfl rfl kx) ?_
    show OwnOk p e below _ (T12.setTop (mkF m 31 #[.val (.ref a), .val (.ref k), .val (.ref j), .val (.long (-1 : Int64)), .second] [(.ref a)]))
    obtain ⟨T14, X14, e14, st14⟩ := getF X12 hx hZ hown (host := "") (Or.inl (wd_32 hw)) Via.refl e12 F6 (g := (mkF m 31 #[.val (.ref a), .val (.ref k), .val (.ref j), .val (.long (-1 : Int64)), .second] [(.ref a)])) rfl rfl (hb hby d12_31)
    refine own_up st14 ?_
    show OwnOk p e below _ (T14.setTop (mkF m 34 #[.val (.ref a), .val (.ref k), .val (.ref j), .val (.long (-1 : Int64)), .second] [(.long (9223372036854775807 : Int64))]))
    refine own_retJ X14 hx (show meth.sig.returnType = some .long from hret) hlk (hb hby d12_34) e14 (Nat.le_of_ble_eq_true rfl) (Nat.le_of_ble_eq_true rfl) ?_
    exact ⟨rfl, N11, rfl⟩
def Q_rm11 (k w : Addr) (q1 q2 : Int64) (h0 : Heap) (n0 : Nat) (v : Option Value) (h : Heap) (L : List Loc) : Prop := v = some (.long (own_slots (if k = w then q1 else q2))) ∧ Fr n0 L ∧ h = h0
set_option maxRecDepth 65536 in
set_option maxHeartbeats 40000000 in
theorem rm11 (l : Launch) (Z : State) (a0 : Array Value) (hw : ∀ d ∈ tables_1, d.before a0 Z = true) (a k j w : Addr) (q1 q2 : Int64) (h0 : Heap) (n0 : Nat) (OL : Old Z n0 h0) (SM : Sta Z Z.heap "com/example/slotwright/slotwright/sched/TaskKind" "MAP" "Lcom/example/slotwright/slotwright/sched/TaskKind;" (.ref w)) (EA : Exa Z h0 a "com/example/slotwright/slotwright/sched/TaskMemory") (EJ : Exa Z h0 j "com/example/slotwright/slotwright/sched/JobSpec") (G1 : Fld Z h0 j "com/example/slotwright/slotwright/sched/JobSpec" "mapMemoryMb" "J" (.long (-1 : Int64))) (G2 : Fld Z h0 j "com/example/slotwright/slotwright/sched/JobSpec" "reduceMemoryMb" "J" (.long (-1 : Int64))) (F5 : Fld Z h0 a "com/example/slotwright/slotwright/sched/TaskMemory" "jobMapMb" "J" (.long (9223372036854775807 : Int64))) (F6 : Fld Z h0 a "com/example/slotwright/slotwright/sched/TaskMemory" "jobReduceMb" "J" (.long (9223372036854775807 : Int64))) (F1 : Fld Z h0 a "com/example/slotwright/slotwright/sched/TaskMemory" "mapSlotMb" "J" (.long q1)) (F2 : Fld Z h0 a "com/example/slotwright/slotwright/sched/TaskMemory" "reduceSlotMb" "J" (.long q2)) (hz : (if k = w then q1 else q2) ≠ 0) :
    own_Met l Z (⟨"com/example/slotwright/slotwright/sched/TaskMemory", "slots", "(Lcom/example/slotwright/slotwright/sched/TaskKind;Lcom/example/slotwright/slotwright/sched/JobSpec;)J"⟩ : MethodName) prog_148_method_6_code 7 (some .long) ({ frames := 2, cells := 0, slots := 0, locals := 29 } : Room) #[(.ref a), (.ref k), (.ref j)] h0 (Q_rm11 k w q1 q2 h0 n0) := by
  refine own_body (L0 := #[.val (.ref a), .val (.ref k), .val (.ref j), .unset, .unset, .unset, .unset]) (plainFor_of_name (by first | (simp [plainName, overriddenIn]; done) | decide +kernel)) (fun m => by first | (simp [entryFrame, mkF, argsToLocals, Value.category]; done) | rfl) ?_
  intro p e s m below meth c s₁ hx hby hml hZ hown hnm hret hlk X0 e0
  have N0 := Fr.nil n0
  have Z0 : n0 ≤ h0.size := OL.1 ▸ OL.2.1
  show OwnOk p e below _ (s₁.setTop (mkF m 0 #[.val (.ref a), .val (.ref k), .val (.ref j), .unset, .unset, .unset, .unset] []))
  refine own_up (fun tx kx => XS.aloadN X0.here hx rfl (hb hby d11_0) rfl rfl kx) ?_
  show OwnOk p e below _ (s₁.setTop (mkF m 1 #[.val (.ref a), .val (.ref k), .val (.ref j), .unset, .unset, .unset, .unset] [(.ref a)]))
  refine own_up (fun tx kx => XS.aloadN X0.here hx rfl (hb hby d11_1) rfl rfl kx) ?_
  show OwnOk p e below _ (s₁.setTop (mkF m 2 #[.val (.ref a), .val (.ref k), .val (.ref j), .unset, .unset, .unset, .unset] [(.ref k), (.ref a)]))
  refine own_up (fun tx kx => XS.aloadN X0.here hx rfl (hb hby d11_2) rfl rfl kx) ?_
  show OwnOk p e below _ (s₁.setTop (mkF m 3 #[.val (.ref a), .val (.ref k), .val (.ref j), .unset, .unset, .unset, .unset] [(.ref j), (.ref k), (.ref a)]))
  refine own_callV X0 hx hZ (y := (⟨"com/example/slotwright/slotwright/sched/TaskMemory", "askedMb", "(Lcom/example/slotwright/slotwright/sched/TaskKind;Lcom/example/slotwright/slotwright/sched/JobSpec;)J"⟩ : MethodName)) (z := (⟨"com/example/slotwright/slotwright/sched/TaskMemory", "askedMb", "(Lcom/example/slotwright/slotwright/sched/TaskKind;Lcom/example/slotwright/slotwright/sched/JobSpec;)J"⟩ : MethodName)) hown (wd_102 hw) (wd_103 hw) (notFace_of_selects (args := #[]) (mvT hZ (wd_105 hw))) (wd_105 hw) (wd_104 hw) (wd_7 hw) (wd_106 hw) (by decide) (rm12 l Z a0 hw a k j w h0 n0 OL SM EJ G1 G2 F5 F6) e0 (argsL := [(.ref k), (.ref j)]) (rest := []) EA (by rw [hml]; rfl) (lenOf pd_6 rfl) rfl rfl (W := 0) rfl (hb hby d11_3) (by decide) (by decide) (by decide) (by decide) (fun T11 v11 L11 X11 hQ11 => ?_)
  obtain ⟨rfl, Nq11, hh11⟩ := hQ11
  have N11 := Fr.app N0 Nq11
  show OwnOk p e below _ (T11.setTop (mkF m 6 #[.val (.ref a), .val (.ref k), .val (.ref j), .unset, .unset, .unset, .unset] [(.long (9223372036854775807 : Int64))]))
  refine own_up (fun tx kx => XS.lstoreN X11.here hx rfl (hb hby d11_6) rfl (l' := #[.val (.ref a), .val (.ref k), .val (.ref j), .val (.long (9223372036854775807 : Int64)), .second, .unset, .unset]) rfl kx) ?_
  show OwnOk p e below _ (T11.setTop (mkF m 7 #[.val (.ref a), .val (.ref k), .val (.ref j), .val (.long (9223372036854775807 : Int64)), .second, .unset, .unset] []))
  refine own_up (fun tx kx => XS.aloadN X11.here hx rfl (hb hby d11_7) rfl rfl kx) ?_
  show OwnOk p e below _ (T11.setTop (mkF m 8 #[.val (.ref a), .val (.ref k), .val (.ref j), .val (.long (9223372036854775807 : Int64)), .second, .unset, .unset] [(.ref a)]))
  refine own_up (fun tx kx => XS.aloadN X11.here hx rfl (hb hby d11_8) rfl rfl kx) ?_
  show OwnOk p e below _ (T11.setTop (mkF m 9 #[.val (.ref a), .val (.ref k), .val (.ref j), .val (.long (9223372036854775807 : Int64)), .second, .unset, .unset] [(.ref k), (.ref a)]))
  refine own_callV X11 hx hZ (y := (⟨"com/example/slotwright/slotwright/sched/TaskMemory", "slotMb", "(Lcom/example/slotwright/slotwright/sched/TaskKind;)J"⟩ : MethodName)) (z := (⟨"com/example/slotwright/slotwright/sched/TaskMemory", "slotMb", "(Lcom/example/slotwright/slotwright/sched/TaskKind;)J"⟩ : MethodName)) hown (wd_114 hw) (wd_115 hw) (notFace_of_selects (args := #[]) (mvT hZ (wd_117 hw))) (wd_117 hw) (wd_116 hw) (wd_7 hw) (wd_118 hw) (by decide) (rm14 l Z a0 hw a k w q1 q2 h0 n0 OL SM F1 F2) hh11 (argsL := [(.ref k)]) (rest := []) EA (by rw [hml]; rfl) (lenOf pd_5 rfl) rfl rfl (W := 0) rfl (hb hby d11_9) (by decide) (by decide) (by decide) (by decide) (fun T12 v12 L12 X12 hQ12 => ?_)
  obtain ⟨rfl, Nq12, hh12⟩ := hQ12
  have N12 := Fr.app N11 Nq12
  show OwnOk p e below _ (T12.setTop (mkF m 12 #[.val (.ref a), .val (.ref k), .val (.ref j), .val (.long (9223372036854775807 : Int64)), .second, .unset, .unset] [(.long (if k = w then q1 else q2))]))
  refine own_up (fun tx kx => XS.lstore X12.here hx rfl (hb hby d11_12) rfl (l' := #[.val (.ref a), .val (.ref k), .val (.ref j), .val (.long (9223372036854775807 : Int64)), .second, .val (.long (if k = w then q1 else q2)), .second]) rfl kx) ?_
  show OwnOk p e below _ (T12.setTop (mkF m 14 #[.val (.ref a), .val (.ref k), .val (.ref j), .val (.long (9223372036854775807 : Int64)), .second, .val (.long (if k = w then q1 else q2)), .second] []))
  refine own_up (fun tx kx => XS.lloadN X12.here hx rfl (hb hby d11_14) rfl kx) ?_
  show OwnOk p e below _ (T12.setTop (mkF m 15 #[.val (.ref a), .val (.ref k), .val (.ref j), .val (.long (9223372036854775807 : Int64)), .second, .val (.long (if k = w then q1 else q2)), .second] [(.long (9223372036854775807 : Int64))]))
  refine own_up (fun tx kx => X12.ldc2Long hx hown (mvT hZ (wd_21 hw)) (g := (mkF m 15 #[.val (.ref a), .val (.ref k), .val (.ref j), .val (.long (9223372036854775807 : Int64)), .second, .val (.long (if k = w then q1 else q2)), .second] [(.long (9223372036854775807 : Int64))])) rfl (hb hby d11_15) _ kx) ?_
  show OwnOk p e below _ (T12.setTop (mkF m 18 #[.val (.ref a), .val (.ref k), .val (.ref j), .val (.long (9223372036854775807 : Int64)), .second, .val (.long (if k = w then q1 else q2)), .second] [(.long (-1 : Int64)), (.long (9223372036854775807 : Int64))]))
  refine own_up (fun tx kx => XS.lcmp X12.here hx rfl (hb hby d11_18) rfl kx) ?_
  show OwnOk p e below _ (T12.setTop (mkF m 19 #[.val (.ref a), .val (.ref k), .val (.ref j), .val (.long (9223372036854775807 : Int64)), .second, .val (.long (if k = w then q1 else q2)), .second] [(.int (lcmpW (9223372036854775807 : Int64) (-1 : Int64)))]))
  refine own_up (fun tx kx => XS.ifNo X12.here hx rfl (hb hby d11_19) rfl (own_jfeq (by decide)).1 kx) ?_
  show OwnOk p e below _ (T12.setTop (mkF m 22 #[.val (.ref a), .val (.ref k), .val (.ref j), .val (.long (9223372036854775807 : Int64)), .second, .val (.long (if k = w then q1 else q2)), .second] []))
  refine own_up (fun tx kx => XS.lload X12.here hx rfl (hb hby d11_22) rfl kx) ?_
  show OwnOk p e below _ (T12.setTop (mkF m 24 #[.val (.ref a), .val (.ref k), .val (.ref j), .val (.long (9223372036854775807 : Int64)), .second, .val (.long (if k = w then q1 else q2)), .second] [(.long (if k = w then q1 else q2))]))
  refine own_up (fun tx kx => X12.ldc2Long hx hown (mvT hZ (wd_21 hw)) (g := (mkF m 24 #[.val (.ref a), .val (.ref k), .val (.ref j), .val (.long (9223372036854775807 : Int64)), .second, .val (.long (if k = w then q1 else q2)), .second] [(.long (if k = w then q1 else q2))])) rfl (hb hby d11_24) _ kx) ?_
  show OwnOk p e below _ (T12.setTop (mkF m 27 #[.val (.ref a), .val (.ref k), .val (.ref j), .val (.long (9223372036854775807 : Int64)), .second, .val (.long (if k = w then q1 else q2)), .second] [(.long (-1 : Int64)), (.long (if k = w then q1 else q2))]))
  refine own_up (fun tx kx => XS.lcmp X12.here hx rfl (hb hby d11_27) rfl kx) ?_
  show OwnOk p e below _ (T12.setTop (mkF m 28 #[.val (.ref a), .val (.ref k), .val (.ref j), .val (.long (9223372036854775807 : Int64)), .second, .val (.long (if k = w then q1 else q2)), .second] [(.int (lcmpW (if k = w then q1 else q2) (-1 : Int64)))]))
  by_cases h1 : (if k = w then q1 else q2) = (-1 : Int64)
  · refine own_up (fun tx kx => XS.ifNo X12.here hx rfl (hb hby d11_28) rfl (own_jteq h1).2 kx) ?_
    show OwnOk p e below _ (T12.setTop (mkF m 31 #[.val (.ref a), .val (.ref k), .val (.ref j), .val (.long (9223372036854775807 : Int64)), .second, .val (.long (if k = w then q1 else q2)), .second] []))
    refine own_up (fun tx kx => XS.lconst X12.here hx rfl (hb hby d11_31) kx) ?_
    show OwnOk p e below _ (T12.setTop (mkF m 32 #[.val (.ref a), .val (.ref k), .val (.ref j), .val (.long (9223372036854775807 : Int64)), .second, .val (.long (if k = w then q1 else q2)), .second] [(.long (1 : Int64))]))
    refine own_retJ X12 hx (show meth.sig.returnType = some .long from hret) hlk (hb hby d11_32) hh12 (Nat.le_of_ble_eq_true rfl) (Nat.le_of_ble_eq_true rfl) ?_
    exact ⟨by rw [own_slots, if_pos h1], N12, rfl⟩
  · refine own_up (fun tx kx => XS.ifYes X12.here hx rfl (pc0 := 28) (pc' := 33) rfl (hb hby d11_28) rfl (own_jfeq h1).2 (by decide) (by decide) kx) ?_
    show OwnOk p e below _ (T12.setTop (mkF m 33 #[.val (.ref a), .val (.ref k), .val (.ref j), .val (.long (9223372036854775807 : Int64)), .second, .val (.long (if k = w then q1 else q2)), .second] []))
    refine own_up (fun tx kx => XS.lloadN X12.here hx rfl (hb hby d11_33) rfl kx) ?_
    show OwnOk p e below _ (T12.setTop (mkF m 34 #[.val (.ref a), .val (.ref k), .val (.ref j), .val (.long (9223372036854775807 : Int64)), .second, .val (.long (if k = w then q1 else q2)), .second] [(.long (9223372036854775807 : Int64))]))
    refine own_up (fun tx kx => XS.lconst X12.here hx rfl (hb hby d11_34) kx) ?_
    show OwnOk p e below _ (T12.setTop (mkF m 35 #[.val (.ref a), .val (.ref k), .val (.ref j), .val (.long (9223372036854775807 : Int64)), .second, .val (.long (if k = w then q1 else q2)), .second] [(.long (1 : Int64)), (.long (9223372036854775807 : Int64))]))
    refine own_up (fun tx kx => XS.lsub X12.here hx rfl (hb hby d11_35) rfl kx) ?_
    show OwnOk p e below _ (T12.setTop (mkF m 36 #[.val (.ref a), .val (.ref k), .val (.ref j), .val (.long (9223372036854775807 : Int64)), .second, .val (.long (if k = w then q1 else q2)), .second] [(.long ((9223372036854775807 : Int64) - (1 : Int64)))]))
    refine own_up (fun tx kx => XS.lload X12.here hx rfl (hb hby d11_36) rfl kx) ?_
    show OwnOk p e below _ (T12.setTop (mkF m 38 #[.val (.ref a), .val (.ref k), .val (.ref j), .val (.long (9223372036854775807 : Int64)), .second, .val (.long (if k = w then q1 else q2)), .second] [(.long (if k = w then q1 else q2)), (.long ((9223372036854775807 : Int64) - (1 : Int64)))]))
    refine own_up (fun tx kx => own_ldiv (g := (mkF m 38 #[.val (.ref a), .val (.ref k), .val (.ref j), .val (.long (9223372036854775807 : Int64)), .second, .val (.long (if k = w then q1 else q2)), .second] [(.long (if k = w then q1 else q2)), (.long ((9223372036854775807 : Int64) - (1 : Int64)))])) X12 hx rfl (hb hby d11_38) rfl hz kx) ?_
    show OwnOk p e below _ (T12.setTop (mkF m 39 #[.val (.ref a), .val (.ref k), .val (.ref j), .val (.long (9223372036854775807 : Int64)), .second, .val (.long (if k = w then q1 else q2)), .second] [(.long (((9223372036854775807 : Int64) - (1 : Int64)) / (if k = w then q1 else q2)))]))
    refine own_up (fun tx kx => XS.lconst X12.here hx rfl (hb hby d11_39) kx) ?_
    show OwnOk p e below _ (T12.setTop (mkF m 40 #[.val (.ref a), .val (.ref k), .val (.ref j), .val (.long (9223372036854775807 : Int64)), .second, .val (.long (if k = w then q1 else q2)), .second] [(.long (1 : Int64)), (.long (((9223372036854775807 : Int64) - (1 : Int64)) / (if k = w then q1 else q2)))]))
    refine own_up (fun tx kx => XS.ladd X12.here hx rfl (hb hby d11_40) rfl kx) ?_
    show OwnOk p e below _ (T12.setTop (mkF m 41 #[.val (.ref a), .val (.ref k), .val (.ref j), .val (.long (9223372036854775807 : Int64)), .second, .val (.long (if k = w then q1 else q2)), .second] [(.long ((((9223372036854775807 : Int64) - (1 : Int64)) / (if k = w then q1 else q2)) + (1 : Int64)))]))
    refine own_retJ X12 hx (show meth.sig.returnType = some .long from hret) hlk (hb hby d11_41) hh12 (Nat.le_of_ble_eq_true rfl) (Nat.le_of_ble_eq_true rfl) ?_
    exact ⟨by rw [own_slots, if_neg h1], N12, rfl⟩
def Q_rm0 (n0 : Nat) (v : Option Value) (h : Heap) (L : List Loc) : Prop := v = some (.int 1) ∧ Fr n0 L
set_option maxRecDepth 65536 in
set_option maxHeartbeats 40000000 in
theorem rm0 (l : Launch) (Z : State) (a0 : Array Value) (hw : ∀ d ∈ tables_1, d.before a0 Z = true) (p1 p2 p3 p4 : Int64) (r wm wr : Addr) (h0 : Heap) (n0 : Nat) (OL : Old Z n0 h0) (SN : Sta Z Z.heap "com/example/slotwright/slotwright/sched/JobPriority" "NORMAL" "Lcom/example/slotwright/slotwright/sched/JobPriority;" (.ref r)) (SM : Sta Z Z.heap "com/example/slotwright/slotwright/sched/TaskKind" "MAP" "Lcom/example/slotwright/slotwright/sched/TaskKind;" (.ref wm)) (SR : Sta Z Z.heap "com/example/slotwright/slotwright/sched/TaskKind" "REDUCE" "Lcom/example/slotwright/slotwright/sched/TaskKind;" (.ref wr)) (hne : ¬ wr = wm) :
    own_MetW l Z Jvm.Pilot.@@N@@.x code maxLocals ret room_1 #[(.long p1), (.long p2), (.long p3), (.long p4)] h0 (Q_rm0 n0) := by
  refine own_bodyW (L0 := #[.val (.long p1), .second, .val (.long p2), .second, .val (.long p3), .second, .val (.long p4), .second, .unset, .unset, .unset, .unset, .unset, .unset, .unset, .unset, .unset, .unset, .unset, .unset, .unset, .unset, .unset]) (plainFor_of_name (by first | (simp [plainName, overriddenIn]; done) | decide +kernel)) (fun m => by first | (simp [entryFrame, mkF, argsToLocals, Value.category, maxLocals]; done) | rfl) ?_
  intro p e s m below meth c s₁ hx hby hml hZ hown hnm hret hlk X0 e0
  have hml : c.maxLocals = 23 := hml
  have N0 := Fr.nil n0
  have Z0 : n0 ≤ h0.size := OL.1 ▸ OL.2.1
  have hB := own_From.start s h0
  show OwnOk p e below _ (s₁.setTop (mkF m 0 #[.val (.long p1), .second, .val (.long p2), .second, .val (.long p3), .second, .val (.long p4), .second, .unset, .unset, .unset, .unset, .unset, .unset, .unset, .unset, .unset, .unset, .unset, .unset, .unset, .unset, .unset] []))
  refine own_up (fun tx kx => XS.lloadN X0.here hx rfl (hb hby at_0) rfl kx) ?_
  show OwnOk p e below _ (s₁.setTop (mkF m 1 #[.val (.long p1), .second, .val (.long p2), .second, .val (.long p3), .second, .val (.long p4), .second, .unset, .unset, .unset, .unset, .unset, .unset, .unset, .unset, .unset, .unset, .unset, .unset, .unset, .unset, .unset] [(.long p1)]))
  refine own_callS X0 hx hZ (y := (⟨"com/example/slotwright/slotwright/sched/TaskMemorySizesSlotsPinLaw", "mb", "(J)J"⟩ : MethodName)) hown (wd_0 hw) (wd_1 hw) (wd_2 hw) (wd_3 hw) (by decide) (rm1 l Z a0 hw p1 h0 n0 OL) e0 (argsL := [(.long p1)]) (rest := []) (by rw [hml]; rfl) (lenOf pd_7 rfl) rfl rfl (W := 0) rfl (hb hby at_1) (by decide) (by decide) (by decide) (by decide) (fun T11 v11 L11 X11 hQ11 => ?_)
  obtain ⟨rfl, Nq11, hh11⟩ := hQ11
  have N11 := Fr.app N0 Nq11
  show OwnOk p e below _ (T11.setTop (mkF m 4 #[.val (.long p1), .second, .val (.long p2), .second, .val (.long p3), .second, .val (.long p4), .second, .unset, .unset, .unset, .unset, .unset, .unset, .unset, .unset, .unset, .unset, .unset, .unset, .unset, .unset, .unset] [(.long (own_mb p1))]))
  have km1 := own_mb_ok p1
  generalize own_mb p1 = m1 at *
  show OwnOk p e below _ (T11.setTop (mkF m 4 #[.val (.long p1), .second, .val (.long p2), .second, .val (.long p3), .second, .val (.long p4), .second, .unset, .unset, .unset, .unset, .unset, .unset, .unset, .unset, .unset, .unset, .unset, .unset, .unset, .unset, .unset] [(.long m1)]))
  refine own_up (fun tx kx => XS.lstore X11.here hx rfl (hb hby at_4) rfl (l' := #[.val (.long p1), .second, .val (.long p2), .second, .val (.long p3), .second, .val (.long p4), .second, .val (.long m1), .second, .unset, .unset, .unset, .unset, .unset, .unset, .unset, .unset, .unset, .unset, .unset, .unset, .unset]) rfl kx) ?_
  show OwnOk p e below _ (T11.setTop (mkF m 6 #[.val (.long p1), .second, .val (.long p2), .second, .val (.long p3), .second, .val (.long p4), .second, .val (.long m1), .second, .unset, .unset, .unset, .unset, .unset, .unset, .unset, .unset, .unset, .unset, .unset, .unset, .unset] []))
  refine own_up (fun tx kx => XS.lloadN X11.here hx rfl (hb hby at_6) rfl kx) ?_
  show OwnOk p e below _ (T11.setTop (mkF m 7 #[.val (.long p1), .second, .val (.long p2), .second, .val (.long p3), .second, .val (.long p4), .second, .val (.long m1), .second, .unset, .unset, .unset, .unset, .unset, .unset, .unset, .unset, .unset, .unset, .unset, .unset, .unset] [(.long p2)]))
  refine own_callS X11 hx hZ (y := (⟨"com/example/slotwright/slotwright/sched/TaskMemorySizesSlotsPinLaw", "mb", "(J)J"⟩ : MethodName)) hown (wd_0 hw) (wd_1 hw) (wd_2 hw) (wd_3 hw) (by decide) (rm1 l Z a0 hw p2 h0 n0 OL) hh11 (argsL := [(.long p2)]) (rest := []) (by rw [hml]; rfl) (lenOf pd_7 rfl) rfl rfl (W := 0) rfl (hb hby at_7) (by decide) (by decide) (by decide) (by decide) (fun T12 v12 L12 X12 hQ12 => ?_)
  obtain ⟨rfl, Nq12, hh12⟩ := hQ12
  have N12 := Fr.app N11 Nq12
  show OwnOk p e below _ (T12.setTop (mkF m 10 #[.val (.long p1), .second, .val (.long p2), .second, .val (.long p3), .second, .val (.long p4), .second, .val (.long m1), .second, .unset, .unset, .unset, .unset, .unset, .unset, .unset, .unset, .unset, .unset, .unset, .unset, .unset] [(.long (own_mb p2))]))
  have km2 := own_mb_ok p2
  generalize own_mb p2 = m2 at *
  show OwnOk p e below _ (T12.setTop (mkF m 10 #[.val (.long p1), .second, .val (.long p2), .second, .val (.long p3), .second, .val (.long p4), .second, .val (.long m1), .second, .unset, .unset, .unset, .unset, .unset, .unset, .unset, .unset, .unset, .unset, .unset, .unset, .unset] [(.long m2)]))
  refine own_up (fun tx kx => XS.lstore X12.here hx rfl (hb hby at_10) rfl (l' := #[.val (.long p1), .second, .val (.long p2), .second, .val (.long p3), .second, .val (.long p4), .second, .val (.long m1), .second, .val (.long m2), .second, .unset, .unset, .unset, .unset, .unset, .unset, .unset, .unset, .unset, .unset, .unset]) rfl kx) ?_
  show OwnOk p e below _ (T12.setTop (mkF m 12 #[.val (.long p1), .second, .val (.long p2), .second, .val (.long p3), .second, .val (.long p4), .second, .val (.long m1), .second, .val (.long m2), .second, .unset, .unset, .unset, .unset, .unset, .unset, .unset, .unset, .unset, .unset, .unset] []))
  refine own_up (fun tx kx => XS.lload X12.here hx rfl (hb hby at_12) rfl kx) ?_
  show OwnOk p e below _ (T12.setTop (mkF m 14 #[.val (.long p1), .second, .val (.long p2), .second, .val (.long p3), .second, .val (.long p4), .second, .val (.long m1), .second, .val (.long m2), .second, .unset, .unset, .unset, .unset, .unset, .unset, .unset, .unset, .unset, .unset, .unset] [(.long p3)]))
  refine own_callS X12 hx hZ (y := (⟨"com/example/slotwright/slotwright/sched/TaskMemorySizesSlotsPinLaw", "mb", "(J)J"⟩ : MethodName)) hown (wd_0 hw) (wd_1 hw) (wd_2 hw) (wd_3 hw) (by decide) (rm1 l Z a0 hw p3 h0 n0 OL) hh12 (argsL := [(.long p3)]) (rest := []) (by rw [hml]; rfl) (lenOf pd_7 rfl) rfl rfl (W := 0) rfl (hb hby at_14) (by decide) (by decide) (by decide) (by decide) (fun T13 v13 L13 X13 hQ13 => ?_)
  obtain ⟨rfl, Nq13, hh13⟩ := hQ13
  have N13 := Fr.app N12 Nq13
  show OwnOk p e below _ (T13.setTop (mkF m 17 #[.val (.long p1), .second, .val (.long p2), .second, .val (.long p3), .second, .val (.long p4), .second, .val (.long m1), .second, .val (.long m2), .second, .unset, .unset, .unset, .unset, .unset, .unset, .unset, .unset, .unset, .unset, .unset] [(.long (own_mb p3))]))
  have km3 := own_mb_ok p3
  generalize own_mb p3 = m3 at *
  show OwnOk p e below _ (T13.setTop (mkF m 17 #[.val (.long p1), .second, .val (.long p2), .second, .val (.long p3), .second, .val (.long p4), .second, .val (.long m1), .second, .val (.long m2), .second, .unset, .unset, .unset, .unset, .unset, .unset, .unset, .unset, .unset, .unset, .unset] [(.long m3)]))
  refine own_up (fun tx kx => XS.lstore X13.here hx rfl (hb hby at_17) rfl (l' := #[.val (.long p1), .second, .val (.long p2), .second, .val (.long p3), .second, .val (.long p4), .second, .val (.long m1), .second, .val (.long m2), .second, .val (.long m3), .second, .unset, .unset, .unset, .unset, .unset, .unset, .unset, .unset, .unset]) rfl kx) ?_
  show OwnOk p e below _ (T13.setTop (mkF m 19 #[.val (.long p1), .second, .val (.long p2), .second, .val (.long p3), .second, .val (.long p4), .second, .val (.long m1), .second, .val (.long m2), .second, .val (.long m3), .second, .unset, .unset, .unset, .unset, .unset, .unset, .unset, .unset, .unset] []))
  refine own_up (fun tx kx => XS.lload X13.here hx rfl (hb hby at_19) rfl kx) ?_
  show OwnOk p e below _ (T13.setTop (mkF m 21 #[.val (.long p1), .second, .val (.long p2), .second, .val (.long p3), .second, .val (.long p4), .second, .val (.long m1), .second, .val (.long m2), .second, .val (.long m3), .second, .unset, .unset, .unset, .unset, .unset, .unset, .unset, .unset, .unset] [(.long p4)]))
  refine own_callS X13 hx hZ (y := (⟨"com/example/slotwright/slotwright/sched/TaskMemorySizesSlotsPinLaw", "mb", "(J)J"⟩ : MethodName)) hown (wd_0 hw) (wd_1 hw) (wd_2 hw) (wd_3 hw) (by decide) (rm1 l Z a0 hw p4 h0 n0 OL) hh13 (argsL := [(.long p4)]) (rest := []) (by rw [hml]; rfl) (lenOf pd_7 rfl) rfl rfl (W := 0) rfl (hb hby at_21) (by decide) (by decide) (by decide) (by decide) (fun T14 v14 L14 X14 hQ14 => ?_)
  obtain ⟨rfl, Nq14, hh14⟩ := hQ14
  have N14 := Fr.app N13 Nq14
  show OwnOk p e below _ (T14.setTop (mkF m 24 #[.val (.long p1), .second, .val (.long p2), .second, .val (.long p3), .second, .val (.long p4), .second, .val (.long m1), .second, .val (.long m2), .second, .val (.long m3), .second, .unset, .unset, .unset, .unset, .unset, .unset, .unset, .unset, .unset] [(.long (own_mb p4))]))
  have km4 := own_mb_ok p4
  generalize own_mb p4 = m4 at *
  show OwnOk p e below _ (T14.setTop (mkF m 24 #[.val (.long p1), .second, .val (.long p2), .second, .val (.long p3), .second, .val (.long p4), .second, .val (.long m1), .second, .val (.long m2), .second, .val (.long m3), .second, .unset, .unset, .unset, .unset, .unset, .unset, .unset, .unset, .unset] [(.long m4)]))
  refine own_up (fun tx kx => XS.lstore X14.here hx rfl (hb hby at_24) rfl (l' := #[.val (.long p1), .second, .val (.long p2), .second, .val (.long p3), .second, .val (.long p4), .second, .val (.long m1), .second, .val (.long m2), .second, .val (.long m3), .second, .val (.long m4), .second, .unset, .unset, .unset, .unset, .unset, .unset, .unset]) rfl kx) ?_
  show OwnOk p e below _ (T14.setTop (mkF m 26 #[.val (.long p1), .second, .val (.long p2), .second, .val (.long p3), .second, .val (.long p4), .second, .val (.long m1), .second, .val (.long m2), .second, .val (.long m3), .second, .val (.long m4), .second, .unset, .unset, .unset, .unset, .unset, .unset, .unset] []))
  obtain ⟨T15, h15, X15, e15, E15, A15, D15, -, st15⟩ := newO X14 hx hZ hown (wd_5 hw) (wd_6 hw) (wd_7 hw) hh14 (g := (mkF m 26 #[.val (.long p1), .second, .val (.long p2), .second, .val (.long p3), .second, .val (.long p4), .second, .val (.long m1), .second, .val (.long m2), .second, .val (.long m3), .second, .val (.long m4), .second, .unset, .unset, .unset, .unset, .unset, .unset, .unset] [])) rfl (hb hby at_26) (by decide) (by decide)
  obtain ⟨b15, g15⟩ : ∃ z, z = h0.size := ⟨_, rfl⟩
  rw [← g15] at A15 D15 st15
  have sz_b15 : h0.size ≤ b15 := Nat.le_of_eq g15.symm
  have n0_b15 : n0 ≤ b15 := Nat.le_trans (own_n0 OL) sz_b15
  have F_mapSlotMb_b15 : Fld Z h15 b15 "com/example/slotwright/slotwright/sched/TaskMemory" "mapSlotMb" "J" (.long (0 : Int64)) := D15 (Or.inr (wd_23 hw)) (ty := .long) (by decide)
  have F_reduceSlotMb_b15 : Fld Z h15 b15 "com/example/slotwright/slotwright/sched/TaskMemory" "reduceSlotMb" "J" (.long (0 : Int64)) := D15 (Or.inr (wd_25 hw)) (ty := .long) (by decide)
  have F_maxMapMb_b15 : Fld Z h15 b15 "com/example/slotwright/slotwright/sched/TaskMemory" "maxMapMb" "J" (.long (0 : Int64)) := D15 (Or.inr (wd_27 hw)) (ty := .long) (by decide)
  have F_maxReduceMb_b15 : Fld Z h15 b15 "com/example/slotwright/slotwright/sched/TaskMemory" "maxReduceMb" "J" (.long (0 : Int64)) := D15 (Or.inr (wd_29 hw)) (ty := .long) (by decide)
  have F_jobMapMb_b15 : Fld Z h15 b15 "com/example/slotwright/slotwright/sched/TaskMemory" "jobMapMb" "J" (.long (0 : Int64)) := D15 (Or.inr (wd_31 hw)) (ty := .long) (by decide)
  have F_jobReduceMb_b15 : Fld Z h15 b15 "com/example/slotwright/slotwright/sched/TaskMemory" "jobReduceMb" "J" (.long (0 : Int64)) := D15 (Or.inr (wd_33 hw)) (ty := .long) (by decide)
  have OL17 := OL.ext E15
  have hB17 := hB.ext E15
  refine own_up st15 ?_
  show OwnOk p e below _ (T15.setTop (mkF m 29 #[.val (.long p1), .second, .val (.long p2), .second, .val (.long p3), .second, .val (.long p4), .second, .val (.long m1), .second, .val (.long m2), .second, .val (.long m3), .second, .val (.long m4), .second, .unset, .unset, .unset, .unset, .unset, .unset, .unset] [(.ref b15)]))
  refine own_up (fun tx kx => XS.dup X15.here hx rfl (hb hby at_29) rfl rfl kx) ?_
  show OwnOk p e below _ (T15.setTop (mkF m 30 #[.val (.long p1), .second, .val (.long p2), .second, .val (.long p3), .second, .val (.long p4), .second, .val (.long m1), .second, .val (.long m2), .second, .val (.long m3), .second, .val (.long m4), .second, .unset, .unset, .unset, .unset, .unset, .unset, .unset] [(.ref b15), (.ref b15)]))
  refine own_up (fun tx kx => XS.lload X15.here hx rfl (hb hby at_30) rfl kx) ?_
  show OwnOk p e below _ (T15.setTop (mkF m 32 #[.val (.long p1), .second, .val (.long p2), .second, .val (.long p3), .second, .val (.long p4), .second, .val (.long m1), .second, .val (.long m2), .second, .val (.long m3), .second, .val (.long m4), .second, .unset, .unset, .unset, .unset, .unset, .unset, .unset] [(.long m1), (.ref b15), (.ref b15)]))
  refine own_up (fun tx kx => XS.lload X15.here hx rfl (hb hby at_32) rfl kx) ?_
  show OwnOk p e below _ (T15.setTop (mkF m 34 #[.val (.long p1), .second, .val (.long p2), .second, .val (.long p3), .second, .val (.long p4), .second, .val (.long m1), .second, .val (.long m2), .second, .val (.long m3), .second, .val (.long m4), .second, .unset, .unset, .unset, .unset, .unset, .unset, .unset] [(.long m2), (.long m1), (.ref b15), (.ref b15)]))
  refine own_up (fun tx kx => XS.lload X15.here hx rfl (hb hby at_34) rfl kx) ?_
  show OwnOk p e below _ (T15.setTop (mkF m 36 #[.val (.long p1), .second, .val (.long p2), .second, .val (.long p3), .second, .val (.long p4), .second, .val (.long m1), .second, .val (.long m2), .second, .val (.long m3), .second, .val (.long m4), .second, .unset, .unset, .unset, .unset, .unset, .unset, .unset] [(.long m3), (.long m2), (.long m1), (.ref b15), (.ref b15)]))
  refine own_up (fun tx kx => XS.lload X15.here hx rfl (hb hby at_36) rfl kx) ?_
  show OwnOk p e below _ (T15.setTop (mkF m 38 #[.val (.long p1), .second, .val (.long p2), .second, .val (.long p3), .second, .val (.long p4), .second, .val (.long m1), .second, .val (.long m2), .second, .val (.long m3), .second, .val (.long m4), .second, .unset, .unset, .unset, .unset, .unset, .unset, .unset] [(.long m4), (.long m3), (.long m2), (.long m1), (.ref b15), (.ref b15)]))
  refine own_up (fun tx kx => X15.ldc2Long hx hown (mvT hZ (wd_8 hw)) (g := (mkF m 38 #[.val (.long p1), .second, .val (.long p2), .second, .val (.long p3), .second, .val (.long p4), .second, .val (.long m1), .second, .val (.long m2), .second, .val (.long m3), .second, .val (.long m4), .second, .unset, .unset, .unset, .unset, .unset, .unset, .unset] [(.long m4), (.long m3), (.long m2), (.long m1), (.ref b15), (.ref b15)])) rfl (hb hby at_38) _ kx) ?_
  show OwnOk p e below _ (T15.setTop (mkF m 41 #[.val (.long p1), .second, .val (.long p2), .second, .val (.long p3), .second, .val (.long p4), .second, .val (.long m1), .second, .val (.long m2), .second, .val (.long m3), .second, .val (.long m4), .second, .unset, .unset, .unset, .unset, .unset, .unset, .unset] [(.long (9223372036854775807 : Int64)), (.long m4), (.long m3), (.long m2), (.long m1), (.ref b15), (.ref b15)]))
  refine own_up (fun tx kx => X15.ldc2Long hx hown (mvT hZ (wd_8 hw)) (g := (mkF m 41 #[.val (.long p1), .second, .val (.long p2), .second, .val (.long p3), .second, .val (.long p4), .second, .val (.long m1), .second, .val (.long m2), .second, .val (.long m3), .second, .val (.long m4), .second, .unset, .unset, .unset, .unset, .unset, .unset, .unset] [(.long (9223372036854775807 : Int64)), (.long m4), (.long m3), (.long m2), (.long m1), (.ref b15), (.ref b15)])) rfl (hb hby at_41) _ kx) ?_
  show OwnOk p e below _ (T15.setTop (mkF m 44 #[.val (.long p1), .second, .val (.long p2), .second, .val (.long p3), .second, .val (.long p4), .second, .val (.long m1), .second, .val (.long m2), .second, .val (.long m3), .second, .val (.long m4), .second, .unset, .unset, .unset, .unset, .unset, .unset, .unset] [(.long (9223372036854775807 : Int64)), (.long (9223372036854775807 : Int64)), (.long m4), (.long m3), (.long m2), (.long m1), (.ref b15), (.ref b15)]))
  refine own_callC X15 hx hZ (y := (⟨"com/example/slotwright/slotwright/sched/TaskMemory", "<init>", "(JJJJJJ)V"⟩ : MethodName)) rfl hown (wd_9 hw) (wd_10 hw) (wd_7 hw) (wd_11 hw) (by decide) (rm2 l Z a0 hw b15 m1 m2 m3 m4 (9223372036854775807 : Int64) (9223372036854775807 : Int64) h15 n0 OL17 A15 F_mapSlotMb_b15 F_reduceSlotMb_b15 F_maxMapMb_b15 F_maxReduceMb_b15 F_jobMapMb_b15 F_jobReduceMb_b15 n0_b15 km1 km2 km3 km4 (Or.inr (by decide)) (Or.inr (by decide))) e15 (argsL := [(.long m1), (.long m2), (.long m3), (.long m4), (.long (9223372036854775807 : Int64)), (.long (9223372036854775807 : Int64))]) (rest := [(.ref b15)]) (a := b15) (by rw [hml]; rfl) (lenOf pd_8 rfl) rfl rfl (W := 1) rfl (hb hby at_44) (by decide) (by decide) (by decide) (by decide) (fun T18 v18 L18 X18 hQ18 => ?_)
  obtain ⟨rfl, Nq18, Kq18, Eq18, f118, f218, f518, f618⟩ := hQ18
  have N18 := Fr.app N14 Nq18
  have hB18 := hB17.keep Kq18
  have OL18 := OL17.keep Kq18 (allS n0_b15 all0)
  show OwnOk p e below _ (T18.setTop (mkF m 47 #[.val (.long p1), .second, .val (.long p2), .second, .val (.long p3), .second, .val (.long p4), .second, .val (.long m1), .second, .val (.long m2), .second, .val (.long m3), .second, .val (.long m4), .second, .unset, .unset, .unset, .unset, .unset, .unset, .unset] [(.ref b15)]))
  refine own_up (fun tx kx => XS.astore X18.here hx rfl (hb hby at_47) rfl rfl (l' := #[.val (.long p1), .second, .val (.long p2), .second, .val (.long p3), .second, .val (.long p4), .second, .val (.long m1), .second, .val (.long m2), .second, .val (.long m3), .second, .val (.long m4), .second, .val (.ref b15), .unset, .unset, .unset, .unset, .unset, .unset]) rfl kx) ?_
  show OwnOk p e below _ (T18.setTop (mkF m 49 #[.val (.long p1), .second, .val (.long p2), .second, .val (.long p3), .second, .val (.long p4), .second, .val (.long m1), .second, .val (.long m2), .second, .val (.long m3), .second, .val (.long m4), .second, .val (.ref b15), .unset, .unset, .unset, .unset, .unset, .unset] []))
  obtain ⟨T19, h19, X19, e19, E19, A19, D19, -, st19⟩ := newO X18 hx hZ hown (wd_34 hw) (wd_35 hw) (wd_36 hw) rfl (g := (mkF m 49 #[.val (.long p1), .second, .val (.long p2), .second, .val (.long p3), .second, .val (.long p4), .second, .val (.long m1), .second, .val (.long m2), .second, .val (.long m3), .second, .val (.long m4), .second, .val (.ref b15), .unset, .unset, .unset, .unset, .unset, .unset] [])) rfl (hb hby at_49) (by decide) (by decide)
  obtain ⟨b19, g19⟩ : ∃ z, z = T18.heap.size := ⟨_, rfl⟩
  rw [← g19] at A19 D19 st19
  have sz_b19 : T18.heap.size ≤ b19 := Nat.le_of_eq g19.symm
  have lt_b15_b19 : b15 < b19 := Nat.lt_of_lt_of_le Eq18.lt sz_b19
  have n0_b19 : n0 ≤ b19 := Nat.le_trans (own_n0 OL18) sz_b19
  have F_name_b19 : Fld Z h19 b19 "com/example/slotwright/slotwright/sched/JobSpec" "name" "Ljava/lang/String;" .null := D19 (Or.inr (wd_70 hw)) (ty := (.object "java/lang/String")) (by decide)
  have F_queue_b19 : Fld Z h19 b19 "com/example/slotwright/slotwright/sched/JobSpec" "queue" "Ljava/lang/String;" .null := D19 (Or.inr (wd_72 hw)) (ty := (.object "java/lang/String")) (by decide)
  have F_user_b19 : Fld Z h19 b19 "com/example/slotwright/slotwright/sched/JobSpec" "user" "Ljava/lang/String;" .null := D19 (Or.inr (wd_74 hw)) (ty := (.object "java/lang/String")) (by decide)
  have F_maps_b19 : Fld Z h19 b19 "com/example/slotwright/slotwright/sched/JobSpec" "maps" "I" (.int (0 : Int32)) := D19 (Or.inr (wd_76 hw)) (ty := .int) (by decide)
  have F_reduces_b19 : Fld Z h19 b19 "com/example/slotwright/slotwright/sched/JobSpec" "reduces" "I" (.int (0 : Int32)) := D19 (Or.inr (wd_78 hw)) (ty := .int) (by decide)
  have F_priority_b19 : Fld Z h19 b19 "com/example/slotwright/slotwright/sched/JobSpec" "priority" "Lcom/example/slotwright/slotwright/sched/JobPriority;" .null := D19 (Or.inr (wd_80 hw)) (ty := (.object "com/example/slotwright/slotwright/sched/JobPriority")) (by decide)
  have F_mapMemoryMb_b19 : Fld Z h19 b19 "com/example/slotwright/slotwright/sched/JobSpec" "mapMemoryMb" "J" (.long (0 : Int64)) := D19 (Or.inr (wd_82 hw)) (ty := .long) (by decide)
  have F_reduceMemoryMb_b19 : Fld Z h19 b19 "com/example/slotwright/slotwright/sched/JobSpec" "reduceMemoryMb" "J" (.long (0 : Int64)) := D19 (Or.inr (wd_84 hw)) (ty := .long) (by decide)
  have F_deadlineMs_b19 : Fld Z h19 b19 "com/example/slotwright/slotwright/sched/JobSpec" "deadlineMs" "J" (.long (0 : Int64)) := D19 (Or.inr (wd_86 hw)) (ty := .long) (by decide)
  have F_profile_b19 : Fld Z h19 b19 "com/example/slotwright/slotwright/sched/JobSpec" "profile" "Ljava/lang/String;" .null := D19 (Or.inr (wd_88 hw)) (ty := (.object "java/lang/String")) (by decide)
  have OL21 := OL18.ext E19
  have hB21 := hB18.ext E19
  refine own_up st19 ?_
  show OwnOk p e below _ (T19.setTop (mkF m 52 #[.val (.long p1), .second, .val (.long p2), .second, .val (.long p3), .second, .val (.long p4), .second, .val (.long m1), .second, .val (.long m2), .second, .val (.long m3), .second, .val (.long m4), .second, .val (.ref b15), .unset, .unset, .unset, .unset, .unset, .unset] [(.ref b19)]))
  refine own_up (fun tx kx => XS.dup X19.here hx rfl (hb hby at_52) rfl rfl kx) ?_
  show OwnOk p e below _ (T19.setTop (mkF m 53 #[.val (.long p1), .second, .val (.long p2), .second, .val (.long p3), .second, .val (.long p4), .second, .val (.long m1), .second, .val (.long m2), .second, .val (.long m3), .second, .val (.long m4), .second, .val (.ref b15), .unset, .unset, .unset, .unset, .unset, .unset] [(.ref b19), (.ref b19)]))
  refine own_ldc X19 hB21 hx hZ hown (wd_37 hw) (own_wS hw) e19 (hb hby at_53) (n := 4) (by decide) (by decide) (by decide) (by decide) (fun s22 ls22 T22 h22 X22 hB22 hZ22 hown22 e22 E22 => ?_)
  have OL22 := OL21.ext E22
  show OwnOk p e below _ (T22.setTop (mkF m 55 #[.val (.long p1), .second, .val (.long p2), .second, .val (.long p3), .second, .val (.long p4), .second, .val (.long m1), .second, .val (.long m2), .second, .val (.long m3), .second, .val (.long m4), .second, .val (.ref b15), .unset, .unset, .unset, .unset, .unset, .unset] [(.ref ls22), (.ref b19), (.ref b19)]))
  refine own_ldc X22 hB22 hx hZ22 hown22 (wd_45 hw) (own_wS hw) e22 (hb hby at_55) (n := 4) (by decide) (by decide) (by decide) (by decide) (fun s23 ls23 T23 h23 X23 hB23 hZ23 hown23 e23 E23 => ?_)
  have OL23 := OL22.ext E23
  show OwnOk p e below _ (T23.setTop (mkF m 57 #[.val (.long p1), .second, .val (.long p2), .second, .val (.long p3), .second, .val (.long p4), .second, .val (.long m1), .second, .val (.long m2), .second, .val (.long m3), .second, .val (.long m4), .second, .val (.ref b15), .unset, .unset, .unset, .unset, .unset, .unset] [(.ref ls23), (.ref ls22), (.ref b19), (.ref b19)]))
  refine own_ldc X23 hB23 hx hZ23 hown23 (wd_46 hw) (own_wS hw) e23 (hb hby at_57) (n := 4) (by decide) (by decide) (by decide) (by decide) (fun s24 ls24 T24 h24 X24 hB24 hZ24 hown24 e24 E24 => ?_)
  have OL24 := OL23.ext E24
  show OwnOk p e below _ (T24.setTop (mkF m 59 #[.val (.long p1), .second, .val (.long p2), .second, .val (.long p3), .second, .val (.long p4), .second, .val (.long m1), .second, .val (.long m2), .second, .val (.long m3), .second, .val (.long m4), .second, .val (.ref b15), .unset, .unset, .unset, .unset, .unset, .unset] [(.ref ls24), (.ref ls23), (.ref ls22), (.ref b19), (.ref b19)]))
  refine own_up (fun tx kx => XS.iconst X24.here hx rfl (hb hby at_59) kx) ?_
  show OwnOk p e below _ (T24.setTop (mkF m 60 #[.val (.long p1), .second, .val (.long p2), .second, .val (.long p3), .second, .val (.long p4), .second, .val (.long m1), .second, .val (.long m2), .second, .val (.long m3), .second, .val (.long m4), .second, .val (.ref b15), .unset, .unset, .unset, .unset, .unset, .unset] [(.int (1 : Int32)), (.ref ls24), (.ref ls23), (.ref ls22), (.ref b19), (.ref b19)]))
  refine own_up (fun tx kx => XS.iconst X24.here hx rfl (hb hby at_60) kx) ?_
  show OwnOk p e below _ (T24.setTop (mkF m 61 #[.val (.long p1), .second, .val (.long p2), .second, .val (.long p3), .second, .val (.long p4), .second, .val (.long m1), .second, .val (.long m2), .second, .val (.long m3), .second, .val (.long m4), .second, .val (.ref b15), .unset, .unset, .unset, .unset, .unset, .unset] [(.int (1 : Int32)), (.int (1 : Int32)), (.ref ls24), (.ref ls23), (.ref ls22), (.ref b19), (.ref b19)]))
  have E_b19_25 := (((A19.ext E22).ext E23).ext E24)
  have F_name_b19_26 := (((F_name_b19.ext E22).ext E23).ext E24)
  have F_queue_b19_27 := (((F_queue_b19.ext E22).ext E23).ext E24)
  have F_user_b19_28 := (((F_user_b19.ext E22).ext E23).ext E24)
  have F_maps_b19_29 := (((F_maps_b19.ext E22).ext E23).ext E24)
  have F_reduces_b19_30 := (((F_reduces_b19.ext E22).ext E23).ext E24)
  have F_priority_b19_31 := (((F_priority_b19.ext E22).ext E23).ext E24)
  have F_mapMemoryMb_b19_32 := (((F_mapMemoryMb_b19.ext E22).ext E23).ext E24)
  have F_reduceMemoryMb_b19_33 := (((F_reduceMemoryMb_b19.ext E22).ext E23).ext E24)
  have F_deadlineMs_b19_34 := (((F_deadlineMs_b19.ext E22).ext E23).ext E24)
  have F_profile_b19_35 := (((F_profile_b19.ext E22).ext E23).ext E24)
  refine own_callCW X24 hB24 hx hZ24 (y := (⟨"com/example/slotwright/slotwright/sched/JobSpec", "<init>", "(Ljava/lang/String;Ljava/lang/String;Ljava/lang/String;II)V"⟩ : MethodName)) rfl hown24 (wd_47 hw) (wd_48 hw) (wd_36 hw) (wd_49 hw) (by decide) (rm5 l Z a0 hw b19 ls22 ls23 ls24 r h24 n0 OL24 E_b19_25 F_name_b19_26 F_queue_b19_27 F_user_b19_28 F_maps_b19_29 F_reduces_b19_30 F_priority_b19_31 F_mapMemoryMb_b19_32 F_reduceMemoryMb_b19_33 F_deadlineMs_b19_34 F_profile_b19_35 n0_b19 SN) e24 (argsL := [(.ref ls22), (.ref ls23), (.ref ls24), (.int (1 : Int32)), (.int (1 : Int32))]) (rest := [(.ref b19)]) (a := b19) (by rw [hml]; rfl) (lenOf pd_9 rfl) rfl rfl (W := 1) rfl (hb hby at_61) (by decide) (by decide) (by decide) (by decide) (fun s36 T36 v36 L36 X36 hB36 hZ36 hown36 hQ36 => ?_)
  obtain ⟨rfl, Nq36, Kq36, Eq36, fa36, fb36⟩ := hQ36
  have N36 := Fr.app N18 Nq36
  have OL36 := OL24.keep Kq36 (allS n0_b19 all0)
  show OwnOk p e below _ (T36.setTop (mkF m 64 #[.val (.long p1), .second, .val (.long p2), .second, .val (.long p3), .second, .val (.long p4), .second, .val (.long m1), .second, .val (.long m2), .second, .val (.long m3), .second, .val (.long m4), .second, .val (.ref b15), .unset, .unset, .unset, .unset, .unset, .unset] [(.ref b19)]))
  refine own_up (fun tx kx => XS.astore X36.here hx rfl (hb hby at_64) rfl rfl (l' := #[.val (.long p1), .second, .val (.long p2), .second, .val (.long p3), .second, .val (.long p4), .second, .val (.long m1), .second, .val (.long m2), .second, .val (.long m3), .second, .val (.long m4), .second, .val (.ref b15), .val (.ref b19), .unset, .unset, .unset, .unset, .unset]) rfl kx) ?_
  show OwnOk p e below _ (T36.setTop (mkF m 66 #[.val (.long p1), .second, .val (.long p2), .second, .val (.long p3), .second, .val (.long p4), .second, .val (.long m1), .second, .val (.long m2), .second, .val (.long m3), .second, .val (.long m4), .second, .val (.ref b15), .val (.ref b19), .unset, .unset, .unset, .unset, .unset] []))
  refine own_up (fun tx kx => XS.aload X36.here hx rfl (hb hby at_66) rfl rfl kx) ?_
  show OwnOk p e below _ (T36.setTop (mkF m 68 #[.val (.long p1), .second, .val (.long p2), .second, .val (.long p3), .second, .val (.long p4), .second, .val (.long m1), .second, .val (.long m2), .second, .val (.long m3), .second, .val (.long m4), .second, .val (.ref b15), .val (.ref b19), .unset, .unset, .unset, .unset, .unset] [(.ref b15)]))
  have T1_37 := (((((f118.ext E19).ext E22).ext E23).ext E24).keep Kq36 (ninS (Nat.ne_of_lt lt_b15_b19) nin0))
  have T2_38 := (((((f218.ext E19).ext E22).ext E23).ext E24).keep Kq36 (ninS (Nat.ne_of_lt lt_b15_b19) nin0))
  have ET_40 := (((((Eq18.ext E19).ext E22).ext E23).ext E24).keep Kq36)
  refine own_callV X36 hx hZ36 (y := (⟨"com/example/slotwright/slotwright/sched/TaskMemory", "sizesSlots", "()Z"⟩ : MethodName)) (z := (⟨"com/example/slotwright/slotwright/sched/TaskMemory", "sizesSlots", "()Z"⟩ : MethodName)) hown36 (wd_89 hw) (wd_90 hw) (notFace_of_selects (args := #[]) (mvT hZ36 (wd_92 hw))) (wd_92 hw) (wd_91 hw) (wd_7 hw) (wd_93 hw) (by decide) (rm10 l Z a0 hw b15 m1 m2 T36.heap n0 OL36 T1_37 T2_38) rfl (argsL := []) (rest := []) ET_40 (by rw [hml]; rfl) (lenOf pd_10 rfl) rfl rfl (W := 0) rfl (hb hby at_68) (by decide) (by decide) (by decide) (by decide) (fun T39 v39 L39 X39 hQ39 => ?_)
  obtain ⟨rfl, Nq39, hh39⟩ := hQ39
  have N39 := Fr.app N36 Nq39
  show OwnOk p e below _ (T39.setTop (mkF m 71 #[.val (.long p1), .second, .val (.long p2), .second, .val (.long p3), .second, .val (.long p4), .second, .val (.long m1), .second, .val (.long m2), .second, .val (.long m3), .second, .val (.long m4), .second, .val (.ref b15), .val (.ref b19), .unset, .unset, .unset, .unset, .unset] [(.int (if m1 = -1 ∧ m2 = -1 then 0 else 1 : Int32))]))
  refine own_up (fun tx kx => XS.istore X39.here hx rfl (hb hby at_71) rfl (l' := #[.val (.long p1), .second, .val (.long p2), .second, .val (.long p3), .second, .val (.long p4), .second, .val (.long m1), .second, .val (.long m2), .second, .val (.long m3), .second, .val (.long m4), .second, .val (.ref b15), .val (.ref b19), .val (.int (if m1 = -1 ∧ m2 = -1 then 0 else 1 : Int32)), .unset, .unset, .unset, .unset]) rfl kx) ?_
  show OwnOk p e below _ (T39.setTop (mkF m 73 #[.val (.long p1), .second, .val (.long p2), .second, .val (.long p3), .second, .val (.long p4), .second, .val (.long m1), .second, .val (.long m2), .second, .val (.long m3), .second, .val (.long m4), .second, .val (.ref b15), .val (.ref b19), .val (.int (if m1 = -1 ∧ m2 = -1 then 0 else 1 : Int32)), .unset, .unset, .unset, .unset] []))
  refine own_up (fun tx kx => XS.aload X39.here hx rfl (hb hby at_73) rfl rfl kx) ?_
  show OwnOk p e below _ (T39.setTop (mkF m 75 #[.val (.long p1), .second, .val (.long p2), .second, .val (.long p3), .second, .val (.long p4), .second, .val (.long m1), .second, .val (.long m2), .second, .val (.long m3), .second, .val (.long m4), .second, .val (.ref b15), .val (.ref b19), .val (.int (if m1 = -1 ∧ m2 = -1 then 0 else 1 : Int32)), .unset, .unset, .unset, .unset] [(.ref b15)]))
  obtain ⟨T41, X41, e41, st41⟩ := getS2 X39 hx hZ36 hown36 (host := "") (Or.inl (wd_94 hw)) Via.refl hh39 (SM.ext OL36.2) (g := (mkF m 75 #[.val (.long p1), .second, .val (.long p2), .second, .val (.long p3), .second, .val (.long p4), .second, .val (.long m1), .second, .val (.long m2), .second, .val (.long m3), .second, .val (.long m4), .second, .val (.ref b15), .val (.ref b19), .val (.int (if m1 = -1 ∧ m2 = -1 then 0 else 1 : Int32)), .unset, .unset, .unset, .unset] [(.ref b15)])) rfl (hb hby at_75)
  refine own_up st41 ?_
  show OwnOk p e below _ (T41.setTop (mkF m 78 #[.val (.long p1), .second, .val (.long p2), .second, .val (.long p3), .second, .val (.long p4), .second, .val (.long m1), .second, .val (.long m2), .second, .val (.long m3), .second, .val (.long m4), .second, .val (.ref b15), .val (.ref b19), .val (.int (if m1 = -1 ∧ m2 = -1 then 0 else 1 : Int32)), .unset, .unset, .unset, .unset] [(.ref wm), (.ref b15)]))
  refine own_up (fun tx kx => XS.aload X41.here hx rfl (hb hby at_78) rfl rfl kx) ?_
  show OwnOk p e below _ (T41.setTop (mkF m 80 #[.val (.long p1), .second, .val (.long p2), .second, .val (.long p3), .second, .val (.long p4), .second, .val (.long m1), .second, .val (.long m2), .second, .val (.long m3), .second, .val (.long m4), .second, .val (.ref b15), .val (.ref b19), .val (.int (if m1 = -1 ∧ m2 = -1 then 0 else 1 : Int32)), .unset, .unset, .unset, .unset] [(.ref b19), (.ref wm), (.ref b15)]))
  have T5_42 := (((((f518.ext E19).ext E22).ext E23).ext E24).keep Kq36 (ninS (Nat.ne_of_lt lt_b15_b19) nin0))
  have T6_43 := (((((f618.ext E19).ext E22).ext E23).ext E24).keep Kq36 (ninS (Nat.ne_of_lt lt_b15_b19) nin0))
  refine own_callV X41 hx hZ36 (y := (⟨"com/example/slotwright/slotwright/sched/TaskMemory", "slots", "(Lcom/example/slotwright/slotwright/sched/TaskKind;Lcom/example/slotwright/slotwright/sched/JobSpec;)J"⟩ : MethodName)) (z := (⟨"com/example/slotwright/slotwright/sched/TaskMemory", "slots", "(Lcom/example/slotwright/slotwright/sched/TaskKind;Lcom/example/slotwright/slotwright/sched/JobSpec;)J"⟩ : MethodName)) hown36 (wd_97 hw) (wd_98 hw) (notFace_of_selects (args := #[]) (mvT hZ36 (wd_100 hw))) (wd_100 hw) (wd_99 hw) (wd_7 hw) (wd_101 hw) (by decide) (rm11 l Z a0 hw b15 wm b19 wm m1 m2 T36.heap n0 OL36 SM ET_40 Eq36 fa36 fb36 T5_42 T6_43 T1_37 T2_38 (by rw [if_pos rfl]; exact own_ne0 km1)) e41 (argsL := [(.ref wm), (.ref b19)]) (rest := []) ET_40 (by rw [hml]; rfl) (lenOf pd_6 rfl) rfl rfl (W := 0) rfl (hb hby at_80) (by decide) (by decide) (by decide) (by decide) (fun T44 v44 L44 X44 hQ44 => ?_)
  obtain ⟨rfl, Nq44, hh44⟩ := hQ44
  have N44 := Fr.app N39 Nq44
  show OwnOk p e below _ (T44.setTop (mkF m 83 #[.val (.long p1), .second, .val (.long p2), .second, .val (.long p3), .second, .val (.long p4), .second, .val (.long m1), .second, .val (.long m2), .second, .val (.long m3), .second, .val (.long m4), .second, .val (.ref b15), .val (.ref b19), .val (.int (if m1 = -1 ∧ m2 = -1 then 0 else 1 : Int32)), .unset, .unset, .unset, .unset] [(.long (own_slots (if wm = wm then m1 else m2)))]))
  rw [show (if wm = wm then m1 else m2) = m1 from (if_pos rfl : (if wm = wm then m1 else m2) = m1)]
  show OwnOk p e below _ (T44.setTop (mkF m 83 #[.val (.long p1), .second, .val (.long p2), .second, .val (.long p3), .second, .val (.long p4), .second, .val (.long m1), .second, .val (.long m2), .second, .val (.long m3), .second, .val (.long m4), .second, .val (.ref b15), .val (.ref b19), .val (.int (if m1 = -1 ∧ m2 = -1 then 0 else 1 : Int32)), .unset, .unset, .unset, .unset] [(.long (own_slots m1))]))
  have sgA : ∀ tx, Steps p.tables e below (T44.setTop (mkF m 95 #[.val (.long p1), .second, .val (.long p2), .second, .val (.long p3), .second, .val (.long p4), .second, .val (.long m1), .second, .val (.long m2), .second, .val (.long m3), .second, .val (.long m4), .second, .val (.ref b15), .val (.ref b19), .val (.int (if m1 = -1 ∧ m2 = -1 then 0 else 1 : Int32)), .val (.int (if 1 < own_slots m1 then 1 else 0 : Int32)), .unset, .unset, .unset] [])) tx → Steps p.tables e below (T44.setTop (mkF m 83 #[.val (.long p1), .second, .val (.long p2), .second, .val (.long p3), .second, .val (.long p4), .second, .val (.long m1), .second, .val (.long m2), .second, .val (.long m3), .second, .val (.long m4), .second, .val (.ref b15), .val (.ref b19), .val (.int (if m1 = -1 ∧ m2 = -1 then 0 else 1 : Int32)), .unset, .unset, .unset, .unset] [(.long (own_slots m1))])) tx := by
    intro tx kk
    show Steps p.tables e below (T44.setTop (mkF m 83 #[.val (.long p1), .second, .val (.long p2), .second, .val (.long p3), .second, .val (.long p4), .second, .val (.long m1), .second, .val (.long m2), .second, .val (.long m3), .second, .val (.long m4), .second, .val (.ref b15), .val (.ref b19), .val (.int (if m1 = -1 ∧ m2 = -1 then 0 else 1 : Int32)), .unset, .unset, .unset, .unset] [(.long (own_slots m1))])) _
    refine XS.lconst X44.here hx rfl (hb hby at_83) ?_
    show Steps p.tables e below (T44.setTop (mkF m 84 #[.val (.long p1), .second, .val (.long p2), .second, .val (.long p3), .second, .val (.long p4), .second, .val (.long m1), .second, .val (.long m2), .second, .val (.long m3), .second, .val (.long m4), .second, .val (.ref b15), .val (.ref b19), .val (.int (if m1 = -1 ∧ m2 = -1 then 0 else 1 : Int32)), .unset, .unset, .unset, .unset] [(.long (1 : Int64)), (.long (own_slots m1))])) _
    refine XS.lcmp X44.here hx rfl (hb hby at_84) rfl ?_
    show Steps p.tables e below (T44.setTop (mkF m 85 #[.val (.long p1), .second, .val (.long p2), .second, .val (.long p3), .second, .val (.long p4), .second, .val (.long m1), .second, .val (.long m2), .second, .val (.long m3), .second, .val (.long m4), .second, .val (.ref b15), .val (.ref b19), .val (.int (if m1 = -1 ∧ m2 = -1 then 0 else 1 : Int32)), .unset, .unset, .unset, .unset] [(.int (lcmpW (own_slots m1) (1 : Int64)))])) _
    by_cases hl : (1 : Int64) < (own_slots m1)
    · refine XS.ifNo X44.here hx rfl (hb hby at_85) rfl (own_jtlt hl).2.2.2 ?_
      show Steps p.tables e below (T44.setTop (mkF m 88 #[.val (.long p1), .second, .val (.long p2), .second, .val (.long p3), .second, .val (.long p4), .second, .val (.long m1), .second, .val (.long m2), .second, .val (.long m3), .second, .val (.long m4), .second, .val (.ref b15), .val (.ref b19), .val (.int (if m1 = -1 ∧ m2 = -1 then 0 else 1 : Int32)), .unset, .unset, .unset, .unset] [])) _
      refine XS.iconst X44.here hx rfl (hb hby at_88) ?_
      show Steps p.tables e below (T44.setTop (mkF m 89 #[.val (.long p1), .second, .val (.long p2), .second, .val (.long p3), .second, .val (.long p4), .second, .val (.long m1), .second, .val (.long m2), .second, .val (.long m3), .second, .val (.long m4), .second, .val (.ref b15), .val (.ref b19), .val (.int (if m1 = -1 ∧ m2 = -1 then 0 else 1 : Int32)), .unset, .unset, .unset, .unset] [(.int (1 : Int32))])) _
      refine XS.goto X44.here hx rfl (pc0 := 89) (pc' := 93) rfl (hb hby at_89) (by decide) (by decide) ?_
      show Steps p.tables e below (T44.setTop (mkF m 93 #[.val (.long p1), .second, .val (.long p2), .second, .val (.long p3), .second, .val (.long p4), .second, .val (.long m1), .second, .val (.long m2), .second, .val (.long m3), .second, .val (.long m4), .second, .val (.ref b15), .val (.ref b19), .val (.int (if m1 = -1 ∧ m2 = -1 then 0 else 1 : Int32)), .unset, .unset, .unset, .unset] [(.int (1 : Int32))])) _
      refine XS.istore X44.here hx rfl (hb hby at_93) rfl (l' := #[.val (.long p1), .second, .val (.long p2), .second, .val (.long p3), .second, .val (.long p4), .second, .val (.long m1), .second, .val (.long m2), .second, .val (.long m3), .second, .val (.long m4), .second, .val (.ref b15), .val (.ref b19), .val (.int (if m1 = -1 ∧ m2 = -1 then 0 else 1 : Int32)), .val (.int (1 : Int32)), .unset, .unset, .unset]) rfl ?_
      show Steps p.tables e below (T44.setTop (mkF m 95 #[.val (.long p1), .second, .val (.long p2), .second, .val (.long p3), .second, .val (.long p4), .second, .val (.long m1), .second, .val (.long m2), .second, .val (.long m3), .second, .val (.long m4), .second, .val (.ref b15), .val (.ref b19), .val (.int (if m1 = -1 ∧ m2 = -1 then 0 else 1 : Int32)), .val (.int (1 : Int32)), .unset, .unset, .unset] [])) _
      rw [if_pos hl] at kk
      first | exact kk | (rw [if_pos hl]; exact kk)
    · refine XS.ifYes X44.here hx rfl (pc0 := 85) (pc' := 92) rfl (hb hby at_85) rfl (own_jflt hl).2.2.2 (by decide) (by decide) ?_
      show Steps p.tables e below (T44.setTop (mkF m 92 #[.val (.long p1), .second, .val (.long p2), .second, .val (.long p3), .second, .val (.long p4), .second, .val (.long m1), .second, .val (.long m2), .second, .val (.long m3), .second, .val (.long m4), .second, .val (.ref b15), .val (.ref b19), .val (.int (if m1 = -1 ∧ m2 = -1 then 0 else 1 : Int32)), .unset, .unset, .unset, .unset] [])) _
      refine XS.iconst X44.here hx rfl (hb hby at_92) ?_
      show Steps p.tables e below (T44.setTop (mkF m 93 #[.val (.long p1), .second, .val (.long p2), .second, .val (.long p3), .second, .val (.long p4), .second, .val (.long m1), .second, .val (.long m2), .second, .val (.long m3), .second, .val (.long m4), .second, .val (.ref b15), .val (.ref b19), .val (.int (if m1 = -1 ∧ m2 = -1 then 0 else 1 : Int32)), .unset, .unset, .unset, .unset] [(.int (0 : Int32))])) _
      refine XS.istore X44.here hx rfl (hb hby at_93) rfl (l' := #[.val (.long p1), .second, .val (.long p2), .second, .val (.long p3), .second, .val (.long p4), .second, .val (.long m1), .second, .val (.long m2), .second, .val (.long m3), .second, .val (.long m4), .second, .val (.ref b15), .val (.ref b19), .val (.int (if m1 = -1 ∧ m2 = -1 then 0 else 1 : Int32)), .val (.int (0 : Int32)), .unset, .unset, .unset]) rfl ?_
      show Steps p.tables e below (T44.setTop (mkF m 95 #[.val (.long p1), .second, .val (.long p2), .second, .val (.long p3), .second, .val (.long p4), .second, .val (.long m1), .second, .val (.long m2), .second, .val (.long m3), .second, .val (.long m4), .second, .val (.ref b15), .val (.ref b19), .val (.int (if m1 = -1 ∧ m2 = -1 then 0 else 1 : Int32)), .val (.int (0 : Int32)), .unset, .unset, .unset] [])) _
      rw [if_neg hl] at kk
      first | exact kk | (rw [if_neg hl]; exact kk)
  refine own_up sgA ?_
  show OwnOk p e below _ (T44.setTop (mkF m 95 #[.val (.long p1), .second, .val (.long p2), .second, .val (.long p3), .second, .val (.long p4), .second, .val (.long m1), .second, .val (.long m2), .second, .val (.long m3), .second, .val (.long m4), .second, .val (.ref b15), .val (.ref b19), .val (.int (if m1 = -1 ∧ m2 = -1 then 0 else 1 : Int32)), .val (.int (if 1 < own_slots m1 then 1 else 0 : Int32)), .unset, .unset, .unset] []))
  refine own_up (fun tx kx => XS.aload X44.here hx rfl (hb hby at_95) rfl rfl kx) ?_
  show OwnOk p e below _ (T44.setTop (mkF m 97 #[.val (.long p1), .second, .val (.long p2), .second, .val (.long p3), .second, .val (.long p4), .second, .val (.long m1), .second, .val (.long m2), .second, .val (.long m3), .second, .val (.long m4), .second, .val (.ref b15), .val (.ref b19), .val (.int (if m1 = -1 ∧ m2 = -1 then 0 else 1 : Int32)), .val (.int (if 1 < own_slots m1 then 1 else 0 : Int32)), .unset, .unset, .unset] [(.ref b15)]))
  obtain ⟨T45, X45, e45, st45⟩ := getS2 X44 hx hZ36 hown36 (host := "") (Or.inl (wd_119 hw)) Via.refl hh44 (SR.ext OL36.2) (g := (mkF m 97 #[.val (.long p1), .second, .val (.long p2), .second, .val (.long p3), .second, .val (.long p4), .second, .val (.long m1), .second, .val (.long m2), .second, .val (.long m3), .second, .val (.long m4), .second, .val (.ref b15), .val (.ref b19), .val (.int (if m1 = -1 ∧ m2 = -1 then 0 else 1 : Int32)), .val (.int (if 1 < own_slots m1 then 1 else 0 : Int32)), .unset, .unset, .unset] [(.ref b15)])) rfl (hb hby at_97)
  refine own_up st45 ?_
  show OwnOk p e below _ (T45.setTop (mkF m 100 #[.val (.long p1), .second, .val (.long p2), .second, .val (.long p3), .second, .val (.long p4), .second, .val (.long m1), .second, .val (.long m2), .second, .val (.long m3), .second, .val (.long m4), .second, .val (.ref b15), .val (.ref b19), .val (.int (if m1 = -1 ∧ m2 = -1 then 0 else 1 : Int32)), .val (.int (if 1 < own_slots m1 then 1 else 0 : Int32)), .unset, .unset, .unset] [(.ref wr), (.ref b15)]))
  refine own_up (fun tx kx => XS.aload X45.here hx rfl (hb hby at_100) rfl rfl kx) ?_
  show OwnOk p e below _ (T45.setTop (mkF m 102 #[.val (.long p1), .second, .val (.long p2), .second, .val (.long p3), .second, .val (.long p4), .second, .val (.long m1), .second, .val (.long m2), .second, .val (.long m3), .second, .val (.long m4), .second, .val (.ref b15), .val (.ref b19), .val (.int (if m1 = -1 ∧ m2 = -1 then 0 else 1 : Int32)), .val (.int (if 1 < own_slots m1 then 1 else 0 : Int32)), .unset, .unset, .unset] [(.ref b19), (.ref wr), (.ref b15)]))
  refine own_callV X45 hx hZ36 (y := (⟨"com/example/slotwright/slotwright/sched/TaskMemory", "slots", "(Lcom/example/slotwright/slotwright/sched/TaskKind;Lcom/example/slotwright/slotwright/sched/JobSpec;)J"⟩ : MethodName)) (z := (⟨"com/example/slotwright/slotwright/sched/TaskMemory", "slots", "(Lcom/example/slotwright/slotwright/sched/TaskKind;Lcom/example/slotwright/slotwright/sched/JobSpec;)J"⟩ : MethodName)) hown36 (wd_97 hw) (wd_98 hw) (notFace_of_selects (args := #[]) (mvT hZ36 (wd_100 hw))) (wd_100 hw) (wd_99 hw) (wd_7 hw) (wd_101 hw) (by decide) (rm11 l Z a0 hw b15 wr b19 wm m1 m2 T36.heap n0 OL36 SM ET_40 Eq36 fa36 fb36 T5_42 T6_43 T1_37 T2_38 (by rw [if_neg hne]; exact own_ne0 km2)) e45 (argsL := [(.ref wr), (.ref b19)]) (rest := []) ET_40 (by rw [hml]; rfl) (lenOf pd_6 rfl) rfl rfl (W := 0) rfl (hb hby at_102) (by decide) (by decide) (by decide) (by decide) (fun T46 v46 L46 X46 hQ46 => ?_)
  obtain ⟨rfl, Nq46, hh46⟩ := hQ46
  have N46 := Fr.app N44 Nq46
  show OwnOk p e below _ (T46.setTop (mkF m 105 #[.val (.long p1), .second, .val (.long p2), .second, .val (.long p3), .second, .val (.long p4), .second, .val (.long m1), .second, .val (.long m2), .second, .val (.long m3), .second, .val (.long m4), .second, .val (.ref b15), .val (.ref b19), .val (.int (if m1 = -1 ∧ m2 = -1 then 0 else 1 : Int32)), .val (.int (if 1 < own_slots m1 then 1 else 0 : Int32)), .unset, .unset, .unset] [(.long (own_slots (if wr = wm then m1 else m2)))]))
  rw [show (if wr = wm then m1 else m2) = m2 from (if_neg hne : (if wr = wm then m1 else m2) = m2)]
  show OwnOk p e below _ (T46.setTop (mkF m 105 #[.val (.long p1), .second, .val (.long p2), .second, .val (.long p3), .second, .val (.long p4), .second, .val (.long m1), .second, .val (.long m2), .second, .val (.long m3), .second, .val (.long m4), .second, .val (.ref b15), .val (.ref b19), .val (.int (if m1 = -1 ∧ m2 = -1 then 0 else 1 : Int32)), .val (.int (if 1 < own_slots m1 then 1 else 0 : Int32)), .unset, .unset, .unset] [(.long (own_slots m2))]))
  have sgB : ∀ tx, Steps p.tables e below (T46.setTop (mkF m 117 #[.val (.long p1), .second, .val (.long p2), .second, .val (.long p3), .second, .val (.long p4), .second, .val (.long m1), .second, .val (.long m2), .second, .val (.long m3), .second, .val (.long m4), .second, .val (.ref b15), .val (.ref b19), .val (.int (if m1 = -1 ∧ m2 = -1 then 0 else 1 : Int32)), .val (.int (if 1 < own_slots m1 then 1 else 0 : Int32)), .val (.int (if 1 < own_slots m2 then 1 else 0 : Int32)), .unset, .unset] [])) tx → Steps p.tables e below (T46.setTop (mkF m 105 #[.val (.long p1), .second, .val (.long p2), .second, .val (.long p3), .second, .val (.long p4), .second, .val (.long m1), .second, .val (.long m2), .second, .val (.long m3), .second, .val (.long m4), .second, .val (.ref b15), .val (.ref b19), .val (.int (if m1 = -1 ∧ m2 = -1 then 0 else 1 : Int32)), .val (.int (if 1 < own_slots m1 then 1 else 0 : Int32)), .unset, .unset, .unset] [(.long (own_slots m2))])) tx := by
    intro tx kk
    show Steps p.tables e below (T46.setTop (mkF m 105 #[.val (.long p1), .second, .val (.long p2), .second, .val (.long p3), .second, .val (.long p4), .second, .val (.long m1), .second, .val (.long m2), .second, .val (.long m3), .second, .val (.long m4), .second, .val (.ref b15), .val (.ref b19), .val (.int (if m1 = -1 ∧ m2 = -1 then 0 else 1 : Int32)), .val (.int (if 1 < own_slots m1 then 1 else 0 : Int32)), .unset, .unset, .unset] [(.long (own_slots m2))])) _
    refine XS.lconst X46.here hx rfl (hb hby at_105) ?_
    show Steps p.tables e below (T46.setTop (mkF m 106 #[.val (.long p1), .second, .val (.long p2), .second, .val (.long p3), .second, .val (.long p4), .second, .val (.long m1), .second, .val (.long m2), .second, .val (.long m3), .second, .val (.long m4), .second, .val (.ref b15), .val (.ref b19), .val (.int (if m1 = -1 ∧ m2 = -1 then 0 else 1 : Int32)), .val (.int (if 1 < own_slots m1 then 1 else 0 : Int32)), .unset, .unset, .unset] [(.long (1 : Int64)), (.long (own_slots m2))])) _
    refine XS.lcmp X46.here hx rfl (hb hby at_106) rfl ?_
    show Steps p.tables e below (T46.setTop (mkF m 107 #[.val (.long p1), .second, .val (.long p2), .second, .val (.long p3), .second, .val (.long p4), .second, .val (.long m1), .second, .val (.long m2), .second, .val (.long m3), .second, .val (.long m4), .second, .val (.ref b15), .val (.ref b19), .val (.int (if m1 = -1 ∧ m2 = -1 then 0 else 1 : Int32)), .val (.int (if 1 < own_slots m1 then 1 else 0 : Int32)), .unset, .unset, .unset] [(.int (lcmpW (own_slots m2) (1 : Int64)))])) _
    by_cases hl : (1 : Int64) < (own_slots m2)
    · refine XS.ifNo X46.here hx rfl (hb hby at_107) rfl (own_jtlt hl).2.2.2 ?_
      show Steps p.tables e below (T46.setTop (mkF m 110 #[.val (.long p1), .second, .val (.long p2), .second, .val (.long p3), .second, .val (.long p4), .second, .val (.long m1), .second, .val (.long m2), .second, .val (.long m3), .second, .val (.long m4), .second, .val (.ref b15), .val (.ref b19), .val (.int (if m1 = -1 ∧ m2 = -1 then 0 else 1 : Int32)), .val (.int (if 1 < own_slots m1 then 1 else 0 : Int32)), .unset, .unset, .unset] [])) _
      refine XS.iconst X46.here hx rfl (hb hby at_110) ?_
      show Steps p.tables e below (T46.setTop (mkF m 111 #[.val (.long p1), .second, .val (.long p2), .second, .val (.long p3), .second, .val (.long p4), .second, .val (.long m1), .second, .val (.long m2), .second, .val (.long m3), .second, .val (.long m4), .second, .val (.ref b15), .val (.ref b19), .val (.int (if m1 = -1 ∧ m2 = -1 then 0 else 1 : Int32)), .val (.int (if 1 < own_slots m1 then 1 else 0 : Int32)), .unset, .unset, .unset] [(.int (1 : Int32))])) _
      refine XS.goto X46.here hx rfl (pc0 := 111) (pc' := 115) rfl (hb hby at_111) (by decide) (by decide) ?_
      show Steps p.tables e below (T46.setTop (mkF m 115 #[.val (.long p1), .second, .val (.long p2), .second, .val (.long p3), .second, .val (.long p4), .second, .val (.long m1), .second, .val (.long m2), .second, .val (.long m3), .second, .val (.long m4), .second, .val (.ref b15), .val (.ref b19), .val (.int (if m1 = -1 ∧ m2 = -1 then 0 else 1 : Int32)), .val (.int (if 1 < own_slots m1 then 1 else 0 : Int32)), .unset, .unset, .unset] [(.int (1 : Int32))])) _
      refine XS.istore X46.here hx rfl (hb hby at_115) rfl (l' := #[.val (.long p1), .second, .val (.long p2), .second, .val (.long p3), .second, .val (.long p4), .second, .val (.long m1), .second, .val (.long m2), .second, .val (.long m3), .second, .val (.long m4), .second, .val (.ref b15), .val (.ref b19), .val (.int (if m1 = -1 ∧ m2 = -1 then 0 else 1 : Int32)), .val (.int (if 1 < own_slots m1 then 1 else 0 : Int32)), .val (.int (1 : Int32)), .unset, .unset]) rfl ?_
      show Steps p.tables e below (T46.setTop (mkF m 117 #[.val (.long p1), .second, .val (.long p2), .second, .val (.long p3), .second, .val (.long p4), .second, .val (.long m1), .second, .val (.long m2), .second, .val (.long m3), .second, .val (.long m4), .second, .val (.ref b15), .val (.ref b19), .val (.int (if m1 = -1 ∧ m2 = -1 then 0 else 1 : Int32)), .val (.int (if 1 < own_slots m1 then 1 else 0 : Int32)), .val (.int (1 : Int32)), .unset, .unset] [])) _
      rw [if_pos hl] at kk
      first | exact kk | (rw [if_pos hl]; exact kk)
    · refine XS.ifYes X46.here hx rfl (pc0 := 107) (pc' := 114) rfl (hb hby at_107) rfl (own_jflt hl).2.2.2 (by decide) (by decide) ?_
      show Steps p.tables e below (T46.setTop (mkF m 114 #[.val (.long p1), .second, .val (.long p2), .second, .val (.long p3), .second, .val (.long p4), .second, .val (.long m1), .second, .val (.long m2), .second, .val (.long m3), .second, .val (.long m4), .second, .val (.ref b15), .val (.ref b19), .val (.int (if m1 = -1 ∧ m2 = -1 then 0 else 1 : Int32)), .val (.int (if 1 < own_slots m1 then 1 else 0 : Int32)), .unset, .unset, .unset] [])) _
      refine XS.iconst X46.here hx rfl (hb hby at_114) ?_
      show Steps p.tables e below (T46.setTop (mkF m 115 #[.val (.long p1), .second, .val (.long p2), .second, .val (.long p3), .second, .val (.long p4), .second, .val (.long m1), .second, .val (.long m2), .second, .val (.long m3), .second, .val (.long m4), .second, .val (.ref b15), .val (.ref b19), .val (.int (if m1 = -1 ∧ m2 = -1 then 0 else 1 : Int32)), .val (.int (if 1 < own_slots m1 then 1 else 0 : Int32)), .unset, .unset, .unset] [(.int (0 : Int32))])) _
      refine XS.istore X46.here hx rfl (hb hby at_115) rfl (l' := #[.val (.long p1), .second, .val (.long p2), .second, .val (.long p3), .second, .val (.long p4), .second, .val (.long m1), .second, .val (.long m2), .second, .val (.long m3), .second, .val (.long m4), .second, .val (.ref b15), .val (.ref b19), .val (.int (if m1 = -1 ∧ m2 = -1 then 0 else 1 : Int32)), .val (.int (if 1 < own_slots m1 then 1 else 0 : Int32)), .val (.int (0 : Int32)), .unset, .unset]) rfl ?_
      show Steps p.tables e below (T46.setTop (mkF m 117 #[.val (.long p1), .second, .val (.long p2), .second, .val (.long p3), .second, .val (.long p4), .second, .val (.long m1), .second, .val (.long m2), .second, .val (.long m3), .second, .val (.long m4), .second, .val (.ref b15), .val (.ref b19), .val (.int (if m1 = -1 ∧ m2 = -1 then 0 else 1 : Int32)), .val (.int (if 1 < own_slots m1 then 1 else 0 : Int32)), .val (.int (0 : Int32)), .unset, .unset] [])) _
      rw [if_neg hl] at kk
      first | exact kk | (rw [if_neg hl]; exact kk)
  refine own_up sgB ?_
  show OwnOk p e below _ (T46.setTop (mkF m 117 #[.val (.long p1), .second, .val (.long p2), .second, .val (.long p3), .second, .val (.long p4), .second, .val (.long m1), .second, .val (.long m2), .second, .val (.long m3), .second, .val (.long m4), .second, .val (.ref b15), .val (.ref b19), .val (.int (if m1 = -1 ∧ m2 = -1 then 0 else 1 : Int32)), .val (.int (if 1 < own_slots m1 then 1 else 0 : Int32)), .val (.int (if 1 < own_slots m2 then 1 else 0 : Int32)), .unset, .unset] []))
  have sgC : ∀ tx, Steps p.tables e below (T46.setTop (mkF m 142 #[.val (.long p1), .second, .val (.long p2), .second, .val (.long p3), .second, .val (.long p4), .second, .val (.long m1), .second, .val (.long m2), .second, .val (.long m3), .second, .val (.long m4), .second, .val (.ref b15), .val (.ref b19), .val (.int (if m1 = -1 ∧ m2 = -1 then 0 else 1 : Int32)), .val (.int (if 1 < own_slots m1 then 1 else 0 : Int32)), .val (.int (if 1 < own_slots m2 then 1 else 0 : Int32)), .val (.int (if m1 = -1 ∧ m2 = -1 then 0 else 1 : Int32)), .unset] [])) tx → Steps p.tables e below (T46.setTop (mkF m 117 #[.val (.long p1), .second, .val (.long p2), .second, .val (.long p3), .second, .val (.long p4), .second, .val (.long m1), .second, .val (.long m2), .second, .val (.long m3), .second, .val (.long m4), .second, .val (.ref b15), .val (.ref b19), .val (.int (if m1 = -1 ∧ m2 = -1 then 0 else 1 : Int32)), .val (.int (if 1 < own_slots m1 then 1 else 0 : Int32)), .val (.int (if 1 < own_slots m2 then 1 else 0 : Int32)), .unset, .unset] [])) tx := by
    intro tx kk
    show Steps p.tables e below (T46.setTop (mkF m 117 #[.val (.long p1), .second, .val (.long p2), .second, .val (.long p3), .second, .val (.long p4), .second, .val (.long m1), .second, .val (.long m2), .second, .val (.long m3), .second, .val (.long m4), .second, .val (.ref b15), .val (.ref b19), .val (.int (if m1 = -1 ∧ m2 = -1 then 0 else 1 : Int32)), .val (.int (if 1 < own_slots m1 then 1 else 0 : Int32)), .val (.int (if 1 < own_slots m2 then 1 else 0 : Int32)), .unset, .unset] [])) _
    refine XS.lload X46.here hx rfl (hb hby at_117) rfl ?_
    show Steps p.tables e below (T46.setTop (mkF m 119 #[.val (.long p1), .second, .val (.long p2), .second, .val (.long p3), .second, .val (.long p4), .second, .val (.long m1), .second, .val (.long m2), .second, .val (.long m3), .second, .val (.long m4), .second, .val (.ref b15), .val (.ref b19), .val (.int (if m1 = -1 ∧ m2 = -1 then 0 else 1 : Int32)), .val (.int (if 1 < own_slots m1 then 1 else 0 : Int32)), .val (.int (if 1 < own_slots m2 then 1 else 0 : Int32)), .unset, .unset] [(.long m1)])) _
    refine X46.ldc2Long hx hown36 (mvT hZ36 (wd_4 hw)) (g := (mkF m 119 #[.val (.long p1), .second, .val (.long p2), .second, .val (.long p3), .second, .val (.long p4), .second, .val (.long m1), .second, .val (.long m2), .second, .val (.long m3), .second, .val (.long m4), .second, .val (.ref b15), .val (.ref b19), .val (.int (if m1 = -1 ∧ m2 = -1 then 0 else 1 : Int32)), .val (.int (if 1 < own_slots m1 then 1 else 0 : Int32)), .val (.int (if 1 < own_slots m2 then 1 else 0 : Int32)), .unset, .unset] [(.long m1)])) rfl (hb hby at_119) _ ?_
    show Steps p.tables e below (T46.setTop (mkF m 122 #[.val (.long p1), .second, .val (.long p2), .second, .val (.long p3), .second, .val (.long p4), .second, .val (.long m1), .second, .val (.long m2), .second, .val (.long m3), .second, .val (.long m4), .second, .val (.ref b15), .val (.ref b19), .val (.int (if m1 = -1 ∧ m2 = -1 then 0 else 1 : Int32)), .val (.int (if 1 < own_slots m1 then 1 else 0 : Int32)), .val (.int (if 1 < own_slots m2 then 1 else 0 : Int32)), .unset, .unset] [(.long (-1 : Int64)), (.long m1)])) _
    refine XS.lcmp X46.here hx rfl (hb hby at_122) rfl ?_
    show Steps p.tables e below (T46.setTop (mkF m 123 #[.val (.long p1), .second, .val (.long p2), .second, .val (.long p3), .second, .val (.long p4), .second, .val (.long m1), .second, .val (.long m2), .second, .val (.long m3), .second, .val (.long m4), .second, .val (.ref b15), .val (.ref b19), .val (.int (if m1 = -1 ∧ m2 = -1 then 0 else 1 : Int32)), .val (.int (if 1 < own_slots m1 then 1 else 0 : Int32)), .val (.int (if 1 < own_slots m2 then 1 else 0 : Int32)), .unset, .unset] [(.int (lcmpW m1 (-1 : Int64)))])) _
    by_cases h1 : m1 = (-1 : Int64)
    · refine XS.ifNo X46.here hx rfl (hb hby at_123) rfl (own_jteq h1).2 ?_
      show Steps p.tables e below (T46.setTop (mkF m 126 #[.val (.long p1), .second, .val (.long p2), .second, .val (.long p3), .second, .val (.long p4), .second, .val (.long m1), .second, .val (.long m2), .second, .val (.long m3), .second, .val (.long m4), .second, .val (.ref b15), .val (.ref b19), .val (.int (if m1 = -1 ∧ m2 = -1 then 0 else 1 : Int32)), .val (.int (if 1 < own_slots m1 then 1 else 0 : Int32)), .val (.int (if 1 < own_slots m2 then 1 else 0 : Int32)), .unset, .unset] [])) _
      refine XS.lload X46.here hx rfl (hb hby at_126) rfl ?_
      show Steps p.tables e below (T46.setTop (mkF m 128 #[.val (.long p1), .second, .val (.long p2), .second, .val (.long p3), .second, .val (.long p4), .second, .val (.long m1), .second, .val (.long m2), .second, .val (.long m3), .second, .val (.long m4), .second, .val (.ref b15), .val (.ref b19), .val (.int (if m1 = -1 ∧ m2 = -1 then 0 else 1 : Int32)), .val (.int (if 1 < own_slots m1 then 1 else 0 : Int32)), .val (.int (if 1 < own_slots m2 then 1 else 0 : Int32)), .unset, .unset] [(.long m2)])) _
      refine X46.ldc2Long hx hown36 (mvT hZ36 (wd_4 hw)) (g := (mkF m 128 #[.val (.long p1), .second, .val (.long p2), .second, .val (.long p3), .second, .val (.long p4), .second, .val (.long m1), .second, .val (.long m2), .second, .val (.long m3), .second, .val (.long m4), .second, .val (.ref b15), .val (.ref b19), .val (.int (if m1 = -1 ∧ m2 = -1 then 0 else 1 : Int32)), .val (.int (if 1 < own_slots m1 then 1 else 0 : Int32)), .val (.int (if 1 < own_slots m2 then 1 else 0 : Int32)), .unset, .unset] [(.long m2)])) rfl (hb hby at_128) _ ?_
      show Steps p.tables e below (T46.setTop (mkF m 131 #[.val (.long p1), .second, .val (.long p2), .second, .val (.long p3), .second, .val (.long p4), .second, .val (.long m1), .second, .val (.long m2), .second, .val (.long m3), .second, .val (.long m4), .second, .val (.ref b15), .val (.ref b19), .val (.int (if m1 = -1 ∧ m2 = -1 then 0 else 1 : Int32)), .val (.int (if 1 < own_slots m1 then 1 else 0 : Int32)), .val (.int (if 1 < own_slots m2 then 1 else 0 : Int32)), .unset, .unset] [(.long (-1 : Int64)), (.long m2)])) _
      refine XS.lcmp X46.here hx rfl (hb hby at_131) rfl ?_
      show Steps p.tables e below (T46.setTop (mkF m 132 #[.val (.long p1), .second, .val (.long p2), .second, .val (.long p3), .second, .val (.long p4), .second, .val (.long m1), .second, .val (.long m2), .second, .val (.long m3), .second, .val (.long m4), .second, .val (.ref b15), .val (.ref b19), .val (.int (if m1 = -1 ∧ m2 = -1 then 0 else 1 : Int32)), .val (.int (if 1 < own_slots m1 then 1 else 0 : Int32)), .val (.int (if 1 < own_slots m2 then 1 else 0 : Int32)), .unset, .unset] [(.int (lcmpW m2 (-1 : Int64)))])) _
      by_cases h2 : m2 = (-1 : Int64)
      · refine XS.ifYes X46.here hx rfl (pc0 := 132) (pc' := 139) rfl (hb hby at_132) rfl (own_jteq h2).1 (by decide) (by decide) ?_
        show Steps p.tables e below (T46.setTop (mkF m 139 #[.val (.long p1), .second, .val (.long p2), .second, .val (.long p3), .second, .val (.long p4), .second, .val (.long m1), .second, .val (.long m2), .second, .val (.long m3), .second, .val (.long m4), .second, .val (.ref b15), .val (.ref b19), .val (.int (if m1 = -1 ∧ m2 = -1 then 0 else 1 : Int32)), .val (.int (if 1 < own_slots m1 then 1 else 0 : Int32)), .val (.int (if 1 < own_slots m2 then 1 else 0 : Int32)), .unset, .unset] [])) _
        refine XS.iconst X46.here hx rfl (hb hby at_139) ?_
        show Steps p.tables e below (T46.setTop (mkF m 140 #[.val (.long p1), .second, .val (.long p2), .second, .val (.long p3), .second, .val (.long p4), .second, .val (.long m1), .second, .val (.long m2), .second, .val (.long m3), .second, .val (.long m4), .second, .val (.ref b15), .val (.ref b19), .val (.int (if m1 = -1 ∧ m2 = -1 then 0 else 1 : Int32)), .val (.int (if 1 < own_slots m1 then 1 else 0 : Int32)), .val (.int (if 1 < own_slots m2 then 1 else 0 : Int32)), .unset, .unset] [(.int (0 : Int32))])) _
        refine XS.istore X46.here hx rfl (hb hby at_140) rfl (l' := #[.val (.long p1), .second, .val (.long p2), .second, .val (.long p3), .second, .val (.long p4), .second, .val (.long m1), .second, .val (.long m2), .second, .val (.long m3), .second, .val (.long m4), .second, .val (.ref b15), .val (.ref b19), .val (.int (if m1 = -1 ∧ m2 = -1 then 0 else 1 : Int32)), .val (.int (if 1 < own_slots m1 then 1 else 0 : Int32)), .val (.int (if 1 < own_slots m2 then 1 else 0 : Int32)), .val (.int (0 : Int32)), .unset]) rfl ?_
        show Steps p.tables e below (T46.setTop (mkF m 142 #[.val (.long p1), .second, .val (.long p2), .second, .val (.long p3), .second, .val (.long p4), .second, .val (.long m1), .second, .val (.long m2), .second, .val (.long m3), .second, .val (.long m4), .second, .val (.ref b15), .val (.ref b19), .val (.int (if m1 = -1 ∧ m2 = -1 then 0 else 1 : Int32)), .val (.int (if 1 < own_slots m1 then 1 else 0 : Int32)), .val (.int (if 1 < own_slots m2 then 1 else 0 : Int32)), .val (.int (0 : Int32)), .unset] [])) _
        rw [if_pos ⟨h1, h2⟩] at kk
        first | exact kk | (rw [if_pos ⟨h1, h2⟩]; exact kk)
      · refine XS.ifNo X46.here hx rfl (hb hby at_132) rfl (own_jfeq h2).1 ?_
        show Steps p.tables e below (T46.setTop (mkF m 135 #[.val (.long p1), .second, .val (.long p2), .second, .val (.long p3), .second, .val (.long p4), .second, .val (.long m1), .second, .val (.long m2), .second, .val (.long m3), .second, .val (.long m4), .second, .val (.ref b15), .val (.ref b19), .val (.int (if m1 = -1 ∧ m2 = -1 then 0 else 1 : Int32)), .val (.int (if 1 < own_slots m1 then 1 else 0 : Int32)), .val (.int (if 1 < own_slots m2 then 1 else 0 : Int32)), .unset, .unset] [])) _
        refine XS.iconst X46.here hx rfl (hb hby at_135) ?_
        show Steps p.tables e below (T46.setTop (mkF m 136 #[.val (.long p1), .second, .val (.long p2), .second, .val (.long p3), .second, .val (.long p4), .second, .val (.long m1), .second, .val (.long m2), .second, .val (.long m3), .second, .val (.long m4), .second, .val (.ref b15), .val (.ref b19), .val (.int (if m1 = -1 ∧ m2 = -1 then 0 else 1 : Int32)), .val (.int (if 1 < own_slots m1 then 1 else 0 : Int32)), .val (.int (if 1 < own_slots m2 then 1 else 0 : Int32)), .unset, .unset] [(.int (1 : Int32))])) _
        refine XS.goto X46.here hx rfl (pc0 := 136) (pc' := 140) rfl (hb hby at_136) (by decide) (by decide) ?_
        show Steps p.tables e below (T46.setTop (mkF m 140 #[.val (.long p1), .second, .val (.long p2), .second, .val (.long p3), .second, .val (.long p4), .second, .val (.long m1), .second, .val (.long m2), .second, .val (.long m3), .second, .val (.long m4), .second, .val (.ref b15), .val (.ref b19), .val (.int (if m1 = -1 ∧ m2 = -1 then 0 else 1 : Int32)), .val (.int (if 1 < own_slots m1 then 1 else 0 : Int32)), .val (.int (if 1 < own_slots m2 then 1 else 0 : Int32)), .unset, .unset] [(.int (1 : Int32))])) _
        refine XS.istore X46.here hx rfl (hb hby at_140) rfl (l' := #[.val (.long p1), .second, .val (.long p2), .second, .val (.long p3), .second, .val (.long p4), .second, .val (.long m1), .second, .val (.long m2), .second, .val (.long m3), .second, .val (.long m4), .second, .val (.ref b15), .val (.ref b19), .val (.int (if m1 = -1 ∧ m2 = -1 then 0 else 1 : Int32)), .val (.int (if 1 < own_slots m1 then 1 else 0 : Int32)), .val (.int (if 1 < own_slots m2 then 1 else 0 : Int32)), .val (.int (1 : Int32)), .unset]) rfl ?_
        show Steps p.tables e below (T46.setTop (mkF m 142 #[.val (.long p1), .second, .val (.long p2), .second, .val (.long p3), .second, .val (.long p4), .second, .val (.long m1), .second, .val (.long m2), .second, .val (.long m3), .second, .val (.long m4), .second, .val (.ref b15), .val (.ref b19), .val (.int (if m1 = -1 ∧ m2 = -1 then 0 else 1 : Int32)), .val (.int (if 1 < own_slots m1 then 1 else 0 : Int32)), .val (.int (if 1 < own_slots m2 then 1 else 0 : Int32)), .val (.int (1 : Int32)), .unset] [])) _
        rw [if_neg fun q => h2 q.2] at kk
        first | exact kk | (rw [if_neg fun q => h2 q.2]; exact kk)
    · refine XS.ifYes X46.here hx rfl (pc0 := 123) (pc' := 135) rfl (hb hby at_123) rfl (own_jfeq h1).2 (by decide) (by decide) ?_
      show Steps p.tables e below (T46.setTop (mkF m 135 #[.val (.long p1), .second, .val (.long p2), .second, .val (.long p3), .second, .val (.long p4), .second, .val (.long m1), .second, .val (.long m2), .second, .val (.long m3), .second, .val (.long m4), .second, .val (.ref b15), .val (.ref b19), .val (.int (if m1 = -1 ∧ m2 = -1 then 0 else 1 : Int32)), .val (.int (if 1 < own_slots m1 then 1 else 0 : Int32)), .val (.int (if 1 < own_slots m2 then 1 else 0 : Int32)), .unset, .unset] [])) _
      refine XS.iconst X46.here hx rfl (hb hby at_135) ?_
      show Steps p.tables e below (T46.setTop (mkF m 136 #[.val (.long p1), .second, .val (.long p2), .second, .val (.long p3), .second, .val (.long p4), .second, .val (.long m1), .second, .val (.long m2), .second, .val (.long m3), .second, .val (.long m4), .second, .val (.ref b15), .val (.ref b19), .val (.int (if m1 = -1 ∧ m2 = -1 then 0 else 1 : Int32)), .val (.int (if 1 < own_slots m1 then 1 else 0 : Int32)), .val (.int (if 1 < own_slots m2 then 1 else 0 : Int32)), .unset, .unset] [(.int (1 : Int32))])) _
      refine XS.goto X46.here hx rfl (pc0 := 136) (pc' := 140) rfl (hb hby at_136) (by decide) (by decide) ?_
      show Steps p.tables e below (T46.setTop (mkF m 140 #[.val (.long p1), .second, .val (.long p2), .second, .val (.long p3), .second, .val (.long p4), .second, .val (.long m1), .second, .val (.long m2), .second, .val (.long m3), .second, .val (.long m4), .second, .val (.ref b15), .val (.ref b19), .val (.int (if m1 = -1 ∧ m2 = -1 then 0 else 1 : Int32)), .val (.int (if 1 < own_slots m1 then 1 else 0 : Int32)), .val (.int (if 1 < own_slots m2 then 1 else 0 : Int32)), .unset, .unset] [(.int (1 : Int32))])) _
      refine XS.istore X46.here hx rfl (hb hby at_140) rfl (l' := #[.val (.long p1), .second, .val (.long p2), .second, .val (.long p3), .second, .val (.long p4), .second, .val (.long m1), .second, .val (.long m2), .second, .val (.long m3), .second, .val (.long m4), .second, .val (.ref b15), .val (.ref b19), .val (.int (if m1 = -1 ∧ m2 = -1 then 0 else 1 : Int32)), .val (.int (if 1 < own_slots m1 then 1 else 0 : Int32)), .val (.int (if 1 < own_slots m2 then 1 else 0 : Int32)), .val (.int (1 : Int32)), .unset]) rfl ?_
      show Steps p.tables e below (T46.setTop (mkF m 142 #[.val (.long p1), .second, .val (.long p2), .second, .val (.long p3), .second, .val (.long p4), .second, .val (.long m1), .second, .val (.long m2), .second, .val (.long m3), .second, .val (.long m4), .second, .val (.ref b15), .val (.ref b19), .val (.int (if m1 = -1 ∧ m2 = -1 then 0 else 1 : Int32)), .val (.int (if 1 < own_slots m1 then 1 else 0 : Int32)), .val (.int (if 1 < own_slots m2 then 1 else 0 : Int32)), .val (.int (1 : Int32)), .unset] [])) _
      rw [if_neg fun q => h1 q.1] at kk
      first | exact kk | (rw [if_neg fun q => h1 q.1]; exact kk)
  refine own_up sgC ?_
  show OwnOk p e below _ (T46.setTop (mkF m 142 #[.val (.long p1), .second, .val (.long p2), .second, .val (.long p3), .second, .val (.long p4), .second, .val (.long m1), .second, .val (.long m2), .second, .val (.long m3), .second, .val (.long m4), .second, .val (.ref b15), .val (.ref b19), .val (.int (if m1 = -1 ∧ m2 = -1 then 0 else 1 : Int32)), .val (.int (if 1 < own_slots m1 then 1 else 0 : Int32)), .val (.int (if 1 < own_slots m2 then 1 else 0 : Int32)), .val (.int (if m1 = -1 ∧ m2 = -1 then 0 else 1 : Int32)), .unset] []))
  have sgD : ∀ tx, Steps p.tables e below (T46.setTop (mkF m 177 #[.val (.long p1), .second, .val (.long p2), .second, .val (.long p3), .second, .val (.long p4), .second, .val (.long m1), .second, .val (.long m2), .second, .val (.long m3), .second, .val (.long m4), .second, .val (.ref b15), .val (.ref b19), .val (.int (if m1 = -1 ∧ m2 = -1 then 0 else 1 : Int32)), .val (.int (if 1 < own_slots m1 then 1 else 0 : Int32)), .val (.int (if 1 < own_slots m2 then 1 else 0 : Int32)), .val (.int (if m1 = -1 ∧ m2 = -1 then 0 else 1 : Int32)), .val (.int (if (if 1 < own_slots m1 then 1 else 0 : Int32) = 0 ∧ (if 1 < own_slots m2 then 1 else 0 : Int32) = 0 ∧ ¬ m1 = (9223372036854775807 : Int64) ∧ ¬ m2 = (9223372036854775807 : Int64) then 0 else 1 : Int32))] [])) tx → Steps p.tables e below (T46.setTop (mkF m 142 #[.val (.long p1), .second, .val (.long p2), .second, .val (.long p3), .second, .val (.long p4), .second, .val (.long m1), .second, .val (.long m2), .second, .val (.long m3), .second, .val (.long m4), .second, .val (.ref b15), .val (.ref b19), .val (.int (if m1 = -1 ∧ m2 = -1 then 0 else 1 : Int32)), .val (.int (if 1 < own_slots m1 then 1 else 0 : Int32)), .val (.int (if 1 < own_slots m2 then 1 else 0 : Int32)), .val (.int (if m1 = -1 ∧ m2 = -1 then 0 else 1 : Int32)), .unset] [])) tx := by
    intro tx kk
    show Steps p.tables e below (T46.setTop (mkF m 142 #[.val (.long p1), .second, .val (.long p2), .second, .val (.long p3), .second, .val (.long p4), .second, .val (.long m1), .second, .val (.long m2), .second, .val (.long m3), .second, .val (.long m4), .second, .val (.ref b15), .val (.ref b19), .val (.int (if m1 = -1 ∧ m2 = -1 then 0 else 1 : Int32)), .val (.int (if 1 < own_slots m1 then 1 else 0 : Int32)), .val (.int (if 1 < own_slots m2 then 1 else 0 : Int32)), .val (.int (if m1 = -1 ∧ m2 = -1 then 0 else 1 : Int32)), .unset] [])) _
    refine XS.iload X46.here hx rfl (hb hby at_142) rfl ?_
    show Steps p.tables e below (T46.setTop (mkF m 144 #[.val (.long p1), .second, .val (.long p2), .second, .val (.long p3), .second, .val (.long p4), .second, .val (.long m1), .second, .val (.long m2), .second, .val (.long m3), .second, .val (.long m4), .second, .val (.ref b15), .val (.ref b19), .val (.int (if m1 = -1 ∧ m2 = -1 then 0 else 1 : Int32)), .val (.int (if 1 < own_slots m1 then 1 else 0 : Int32)), .val (.int (if 1 < own_slots m2 then 1 else 0 : Int32)), .val (.int (if m1 = -1 ∧ m2 = -1 then 0 else 1 : Int32)), .unset] [(.int (if 1 < own_slots m1 then 1 else 0 : Int32))])) _
    by_cases h1 : (if 1 < own_slots m1 then 1 else 0 : Int32) = (0 : Int32)
    · refine XS.ifNo X46.here hx rfl (hb hby at_144) rfl ((if0 _ _).trans (teq h1).2) ?_
      show Steps p.tables e below (T46.setTop (mkF m 147 #[.val (.long p1), .second, .val (.long p2), .second, .val (.long p3), .second, .val (.long p4), .second, .val (.long m1), .second, .val (.long m2), .second, .val (.long m3), .second, .val (.long m4), .second, .val (.ref b15), .val (.ref b19), .val (.int (if m1 = -1 ∧ m2 = -1 then 0 else 1 : Int32)), .val (.int (if 1 < own_slots m1 then 1 else 0 : Int32)), .val (.int (if 1 < own_slots m2 then 1 else 0 : Int32)), .val (.int (if m1 = -1 ∧ m2 = -1 then 0 else 1 : Int32)), .unset] [])) _
      refine XS.iload X46.here hx rfl (hb hby at_147) rfl ?_
      show Steps p.tables e below (T46.setTop (mkF m 149 #[.val (.long p1), .second, .val (.long p2), .second, .val (.long p3), .second, .val (.long p4), .second, .val (.long m1), .second, .val (.long m2), .second, .val (.long m3), .second, .val (.long m4), .second, .val (.ref b15), .val (.ref b19), .val (.int (if m1 = -1 ∧ m2 = -1 then 0 else 1 : Int32)), .val (.int (if 1 < own_slots m1 then 1 else 0 : Int32)), .val (.int (if 1 < own_slots m2 then 1 else 0 : Int32)), .val (.int (if m1 = -1 ∧ m2 = -1 then 0 else 1 : Int32)), .unset] [(.int (if 1 < own_slots m2 then 1 else 0 : Int32))])) _
      by_cases h2 : (if 1 < own_slots m2 then 1 else 0 : Int32) = (0 : Int32)
      · refine XS.ifNo X46.here hx rfl (hb hby at_149) rfl ((if0 _ _).trans (teq h2).2) ?_
        show Steps p.tables e below (T46.setTop (mkF m 152 #[.val (.long p1), .second, .val (.long p2), .second, .val (.long p3), .second, .val (.long p4), .second, .val (.long m1), .second, .val (.long m2), .second, .val (.long m3), .second, .val (.long m4), .second, .val (.ref b15), .val (.ref b19), .val (.int (if m1 = -1 ∧ m2 = -1 then 0 else 1 : Int32)), .val (.int (if 1 < own_slots m1 then 1 else 0 : Int32)), .val (.int (if 1 < own_slots m2 then 1 else 0 : Int32)), .val (.int (if m1 = -1 ∧ m2 = -1 then 0 else 1 : Int32)), .unset] [])) _
        refine XS.lload X46.here hx rfl (hb hby at_152) rfl ?_
        show Steps p.tables e below (T46.setTop (mkF m 154 #[.val (.long p1), .second, .val (.long p2), .second, .val (.long p3), .second, .val (.long p4), .second, .val (.long m1), .second, .val (.long m2), .second, .val (.long m3), .second, .val (.long m4), .second, .val (.ref b15), .val (.ref b19), .val (.int (if m1 = -1 ∧ m2 = -1 then 0 else 1 : Int32)), .val (.int (if 1 < own_slots m1 then 1 else 0 : Int32)), .val (.int (if 1 < own_slots m2 then 1 else 0 : Int32)), .val (.int (if m1 = -1 ∧ m2 = -1 then 0 else 1 : Int32)), .unset] [(.long m1)])) _
        refine X46.ldc2Long hx hown36 (mvT hZ36 (wd_8 hw)) (g := (mkF m 154 #[.val (.long p1), .second, .val (.long p2), .second, .val (.long p3), .second, .val (.long p4), .second, .val (.long m1), .second, .val (.long m2), .second, .val (.long m3), .second, .val (.long m4), .second, .val (.ref b15), .val (.ref b19), .val (.int (if m1 = -1 ∧ m2 = -1 then 0 else 1 : Int32)), .val (.int (if 1 < own_slots m1 then 1 else 0 : Int32)), .val (.int (if 1 < own_slots m2 then 1 else 0 : Int32)), .val (.int (if m1 = -1 ∧ m2 = -1 then 0 else 1 : Int32)), .unset] [(.long m1)])) rfl (hb hby at_154) _ ?_
        show Steps p.tables e below (T46.setTop (mkF m 157 #[.val (.long p1), .second, .val (.long p2), .second, .val (.long p3), .second, .val (.long p4), .second, .val (.long m1), .second, .val (.long m2), .second, .val (.long m3), .second, .val (.long m4), .second, .val (.ref b15), .val (.ref b19), .val (.int (if m1 = -1 ∧ m2 = -1 then 0 else 1 : Int32)), .val (.int (if 1 < own_slots m1 then 1 else 0 : Int32)), .val (.int (if 1 < own_slots m2 then 1 else 0 : Int32)), .val (.int (if m1 = -1 ∧ m2 = -1 then 0 else 1 : Int32)), .unset] [(.long (9223372036854775807 : Int64)), (.long m1)])) _
        refine XS.lcmp X46.here hx rfl (hb hby at_157) rfl ?_
        show Steps p.tables e below (T46.setTop (mkF m 158 #[.val (.long p1), .second, .val (.long p2), .second, .val (.long p3), .second, .val (.long p4), .second, .val (.long m1), .second, .val (.long m2), .second, .val (.long m3), .second, .val (.long m4), .second, .val (.ref b15), .val (.ref b19), .val (.int (if m1 = -1 ∧ m2 = -1 then 0 else 1 : Int32)), .val (.int (if 1 < own_slots m1 then 1 else 0 : Int32)), .val (.int (if 1 < own_slots m2 then 1 else 0 : Int32)), .val (.int (if m1 = -1 ∧ m2 = -1 then 0 else 1 : Int32)), .unset] [(.int (lcmpW m1 (9223372036854775807 : Int64)))])) _
        by_cases h3 : m1 = (9223372036854775807 : Int64)
        · refine XS.ifYes X46.here hx rfl (pc0 := 158) (pc' := 170) rfl (hb hby at_158) rfl (own_jteq h3).1 (by decide) (by decide) ?_
          show Steps p.tables e below (T46.setTop (mkF m 170 #[.val (.long p1), .second, .val (.long p2), .second, .val (.long p3), .second, .val (.long p4), .second, .val (.long m1), .second, .val (.long m2), .second, .val (.long m3), .second, .val (.long m4), .second, .val (.ref b15), .val (.ref b19), .val (.int (if m1 = -1 ∧ m2 = -1 then 0 else 1 : Int32)), .val (.int (if 1 < own_slots m1 then 1 else 0 : Int32)), .val (.int (if 1 < own_slots m2 then 1 else 0 : Int32)), .val (.int (if m1 = -1 ∧ m2 = -1 then 0 else 1 : Int32)), .unset] [])) _
          refine XS.iconst X46.here hx rfl (hb hby at_170) ?_
          show Steps p.tables e below (T46.setTop (mkF m 171 #[.val (.long p1), .second, .val (.long p2), .second, .val (.long p3), .second, .val (.long p4), .second, .val (.long m1), .second, .val (.long m2), .second, .val (.long m3), .second, .val (.long m4), .second, .val (.ref b15), .val (.ref b19), .val (.int (if m1 = -1 ∧ m2 = -1 then 0 else 1 : Int32)), .val (.int (if 1 < own_slots m1 then 1 else 0 : Int32)), .val (.int (if 1 < own_slots m2 then 1 else 0 : Int32)), .val (.int (if m1 = -1 ∧ m2 = -1 then 0 else 1 : Int32)), .unset] [(.int (1 : Int32))])) _
          refine XS.goto X46.here hx rfl (pc0 := 171) (pc' := 175) rfl (hb hby at_171) (by decide) (by decide) ?_
          show Steps p.tables e below (T46.setTop (mkF m 175 #[.val (.long p1), .second, .val (.long p2), .second, .val (.long p3), .second, .val (.long p4), .second, .val (.long m1), .second, .val (.long m2), .second, .val (.long m3), .second, .val (.long m4), .second, .val (.ref b15), .val (.ref b19), .val (.int (if m1 = -1 ∧ m2 = -1 then 0 else 1 : Int32)), .val (.int (if 1 < own_slots m1 then 1 else 0 : Int32)), .val (.int (if 1 < own_slots m2 then 1 else 0 : Int32)), .val (.int (if m1 = -1 ∧ m2 = -1 then 0 else 1 : Int32)), .unset] [(.int (1 : Int32))])) _
          refine XS.istore X46.here hx rfl (hb hby at_175) rfl (l' := #[.val (.long p1), .second, .val (.long p2), .second, .val (.long p3), .second, .val (.long p4), .second, .val (.long m1), .second, .val (.long m2), .second, .val (.long m3), .second, .val (.long m4), .second, .val (.ref b15), .val (.ref b19), .val (.int (if m1 = -1 ∧ m2 = -1 then 0 else 1 : Int32)), .val (.int (if 1 < own_slots m1 then 1 else 0 : Int32)), .val (.int (if 1 < own_slots m2 then 1 else 0 : Int32)), .val (.int (if m1 = -1 ∧ m2 = -1 then 0 else 1 : Int32)), .val (.int (1 : Int32))]) rfl ?_
          show Steps p.tables e below (T46.setTop (mkF m 177 #[.val (.long p1), .second, .val (.long p2), .second, .val (.long p3), .second, .val (.long p4), .second, .val (.long m1), .second, .val (.long m2), .second, .val (.long m3), .second, .val (.long m4), .second, .val (.ref b15), .val (.ref b19), .val (.int (if m1 = -1 ∧ m2 = -1 then 0 else 1 : Int32)), .val (.int (if 1 < own_slots m1 then 1 else 0 : Int32)), .val (.int (if 1 < own_slots m2 then 1 else 0 : Int32)), .val (.int (if m1 = -1 ∧ m2 = -1 then 0 else 1 : Int32)), .val (.int (1 : Int32))] [])) _
          rw [show (if (if 1 < own_slots m1 then 1 else 0 : Int32) = 0 ∧ (if 1 < own_slots m2 then 1 else 0 : Int32) = 0 ∧ ¬ m1 = (9223372036854775807 : Int64) ∧ ¬ m2 = (9223372036854775807 : Int64) then 0 else 1 : Int32) = (1 : Int32) from if_neg (fun q => q.2.2.1 h3)] at kk
          first | exact kk | (rw [show (if (if 1 < own_slots m1 then 1 else 0 : Int32) = 0 ∧ (if 1 < own_slots m2 then 1 else 0 : Int32) = 0 ∧ ¬ m1 = (9223372036854775807 : Int64) ∧ ¬ m2 = (9223372036854775807 : Int64) then 0 else 1 : Int32) = (1 : Int32) from if_neg (fun q => q.2.2.1 h3)]; exact kk)
        · refine XS.ifNo X46.here hx rfl (hb hby at_158) rfl (own_jfeq h3).1 ?_
          show Steps p.tables e below (T46.setTop (mkF m 161 #[.val (.long p1), .second, .val (.long p2), .second, .val (.long p3), .second, .val (.long p4), .second, .val (.long m1), .second, .val (.long m2), .second, .val (.long m3), .second, .val (.long m4), .second, .val (.ref b15), .val (.ref b19), .val (.int (if m1 = -1 ∧ m2 = -1 then 0 else 1 : Int32)), .val (.int (if 1 < own_slots m1 then 1 else 0 : Int32)), .val (.int (if 1 < own_slots m2 then 1 else 0 : Int32)), .val (.int (if m1 = -1 ∧ m2 = -1 then 0 else 1 : Int32)), .unset] [])) _
          refine XS.lload X46.here hx rfl (hb hby at_161) rfl ?_
          show Steps p.tables e below (T46.setTop (mkF m 163 #[.val (.long p1), .second, .val (.long p2), .second, .val (.long p3), .second, .val (.long p4), .second, .val (.long m1), .second, .val (.long m2), .second, .val (.long m3), .second, .val (.long m4), .second, .val (.ref b15), .val (.ref b19), .val (.int (if m1 = -1 ∧ m2 = -1 then 0 else 1 : Int32)), .val (.int (if 1 < own_slots m1 then 1 else 0 : Int32)), .val (.int (if 1 < own_slots m2 then 1 else 0 : Int32)), .val (.int (if m1 = -1 ∧ m2 = -1 then 0 else 1 : Int32)), .unset] [(.long m2)])) _
          refine X46.ldc2Long hx hown36 (mvT hZ36 (wd_8 hw)) (g := (mkF m 163 #[.val (.long p1), .second, .val (.long p2), .second, .val (.long p3), .second, .val (.long p4), .second, .val (.long m1), .second, .val (.long m2), .second, .val (.long m3), .second, .val (.long m4), .second, .val (.ref b15), .val (.ref b19), .val (.int (if m1 = -1 ∧ m2 = -1 then 0 else 1 : Int32)), .val (.int (if 1 < own_slots m1 then 1 else 0 : Int32)), .val (.int (if 1 < own_slots m2 then 1 else 0 : Int32)), .val (.int (if m1 = -1 ∧ m2 = -1 then 0 else 1 : Int32)), .unset] [(.long m2)])) rfl (hb hby at_163) _ ?_
          show Steps p.tables e below (T46.setTop (mkF m 166 #[.val (.long p1), .second, .val (.long p2), .second, .val (.long p3), .second, .val (.long p4), .second, .val (.long m1), .second, .val (.long m2), .second, .val (.long m3), .second, .val (.long m4), .second, .val (.ref b15), .val (.ref b19), .val (.int (if m1 = -1 ∧ m2 = -1 then 0 else 1 : Int32)), .val (.int (if 1 < own_slots m1 then 1 else 0 : Int32)), .val (.int (if 1 < own_slots m2 then 1 else 0 : Int32)), .val (.int (if m1 = -1 ∧ m2 = -1 then 0 else 1 : Int32)), .unset] [(.long (9223372036854775807 : Int64)), (.long m2)])) _
          refine XS.lcmp X46.here hx rfl (hb hby at_166) rfl ?_
          show Steps p.tables e below (T46.setTop (mkF m 167 #[.val (.long p1), .second, .val (.long p2), .second, .val (.long p3), .second, .val (.long p4), .second, .val (.long m1), .second, .val (.long m2), .second, .val (.long m3), .second, .val (.long m4), .second, .val (.ref b15), .val (.ref b19), .val (.int (if m1 = -1 ∧ m2 = -1 then 0 else 1 : Int32)), .val (.int (if 1 < own_slots m1 then 1 else 0 : Int32)), .val (.int (if 1 < own_slots m2 then 1 else 0 : Int32)), .val (.int (if m1 = -1 ∧ m2 = -1 then 0 else 1 : Int32)), .unset] [(.int (lcmpW m2 (9223372036854775807 : Int64)))])) _
          by_cases h4 : m2 = (9223372036854775807 : Int64)
          · refine XS.ifNo X46.here hx rfl (hb hby at_167) rfl (own_jteq h4).2 ?_
            show Steps p.tables e below (T46.setTop (mkF m 170 #[.val (.long p1), .second, .val (.long p2), .second, .val (.long p3), .second, .val (.long p4), .second, .val (.long m1), .second, .val (.long m2), .second, .val (.long m3), .second, .val (.long m4), .second, .val (.ref b15), .val (.ref b19), .val (.int (if m1 = -1 ∧ m2 = -1 then 0 else 1 : Int32)), .val (.int (if 1 < own_slots m1 then 1 else 0 : Int32)), .val (.int (if 1 < own_slots m2 then 1 else 0 : Int32)), .val (.int (if m1 = -1 ∧ m2 = -1 then 0 else 1 : Int32)), .unset] [])) _
            refine XS.iconst X46.here hx rfl (hb hby at_170) ?_
            show Steps p.tables e below (T46.setTop (mkF m 171 #[.val (.long p1), .second, .val (.long p2), .second, .val (.long p3), .second, .val (.long p4), .second, .val (.long m1), .second, .val (.long m2), .second, .val (.long m3), .second, .val (.long m4), .second, .val (.ref b15), .val (.ref b19), .val (.int (if m1 = -1 ∧ m2 = -1 then 0 else 1 : Int32)), .val (.int (if 1 < own_slots m1 then 1 else 0 : Int32)), .val (.int (if 1 < own_slots m2 then 1 else 0 : Int32)), .val (.int (if m1 = -1 ∧ m2 = -1 then 0 else 1 : Int32)), .unset] [(.int (1 : Int32))])) _
            refine XS.goto X46.here hx rfl (pc0 := 171) (pc' := 175) rfl (hb hby at_171) (by decide) (by decide) ?_
            show Steps p.tables e below (T46.setTop (mkF m 175 #[.val (.long p1), .second, .val (.long p2), .second, .val (.long p3), .second, .val (.long p4), .second, .val (.long m1), .second, .val (.long m2), .second, .val (.long m3), .second, .val (.long m4), .second, .val (.ref b15), .val (.ref b19), .val (.int (if m1 = -1 ∧ m2 = -1 then 0 else 1 : Int32)), .val (.int (if 1 < own_slots m1 then 1 else 0 : Int32)), .val (.int (if 1 < own_slots m2 then 1 else 0 : Int32)), .val (.int (if m1 = -1 ∧ m2 = -1 then 0 else 1 : Int32)), .unset] [(.int (1 : Int32))])) _
            refine XS.istore X46.here hx rfl (hb hby at_175) rfl (l' := #[.val (.long p1), .second, .val (.long p2), .second, .val (.long p3), .second, .val (.long p4), .second, .val (.long m1), .second, .val (.long m2), .second, .val (.long m3), .second, .val (.long m4), .second, .val (.ref b15), .val (.ref b19), .val (.int (if m1 = -1 ∧ m2 = -1 then 0 else 1 : Int32)), .val (.int (if 1 < own_slots m1 then 1 else 0 : Int32)), .val (.int (if 1 < own_slots m2 then 1 else 0 : Int32)), .val (.int (if m1 = -1 ∧ m2 = -1 then 0 else 1 : Int32)), .val (.int (1 : Int32))]) rfl ?_
            show Steps p.tables e below (T46.setTop (mkF m 177 #[.val (.long p1), .second, .val (.long p2), .second, .val (.long p3), .second, .val (.long p4), .second, .val (.long m1), .second, .val (.long m2), .second, .val (.long m3), .second, .val (.long m4), .second, .val (.ref b15), .val (.ref b19), .val (.int (if m1 = -1 ∧ m2 = -1 then 0 else 1 : Int32)), .val (.int (if 1 < own_slots m1 then 1 else 0 : Int32)), .val (.int (if 1 < own_slots m2 then 1 else 0 : Int32)), .val (.int (if m1 = -1 ∧ m2 = -1 then 0 else 1 : Int32)), .val (.int (1 : Int32))] [])) _
            rw [show (if (if 1 < own_slots m1 then 1 else 0 : Int32) = 0 ∧ (if 1 < own_slots m2 then 1 else 0 : Int32) = 0 ∧ ¬ m1 = (9223372036854775807 : Int64) ∧ ¬ m2 = (9223372036854775807 : Int64) then 0 else 1 : Int32) = (1 : Int32) from if_neg (fun q => q.2.2.2 h4)] at kk
            first | exact kk | (rw [show (if (if 1 < own_slots m1 then 1 else 0 : Int32) = 0 ∧ (if 1 < own_slots m2 then 1 else 0 : Int32) = 0 ∧ ¬ m1 = (9223372036854775807 : Int64) ∧ ¬ m2 = (9223372036854775807 : Int64) then 0 else 1 : Int32) = (1 : Int32) from if_neg (fun q => q.2.2.2 h4)]; exact kk)
          · refine XS.ifYes X46.here hx rfl (pc0 := 167) (pc' := 174) rfl (hb hby at_167) rfl (own_jfeq h4).2 (by decide) (by decide) ?_
            show Steps p.tables e below (T46.setTop (mkF m 174 #[.val (.long p1), .second, .val (.long p2), .second, .val (.long p3), .second, .val (.long p4), .second, .val (.long m1), .second, .val (.long m2), .second, .val (.long m3), .second, .val (.long m4), .second, .val (.ref b15), .val (.ref b19), .val (.int (if m1 = -1 ∧ m2 = -1 then 0 else 1 : Int32)), .val (.int (if 1 < own_slots m1 then 1 else 0 : Int32)), .val (.int (if 1 < own_slots m2 then 1 else 0 : Int32)), .val (.int (if m1 = -1 ∧ m2 = -1 then 0 else 1 : Int32)), .unset] [])) _
            refine XS.iconst X46.here hx rfl (hb hby at_174) ?_
            show Steps p.tables e below (T46.setTop (mkF m 175 #[.val (.long p1), .second, .val (.long p2), .second, .val (.long p3), .second, .val (.long p4), .second, .val (.long m1), .second, .val (.long m2), .second, .val (.long m3), .second, .val (.long m4), .second, .val (.ref b15), .val (.ref b19), .val (.int (if m1 = -1 ∧ m2 = -1 then 0 else 1 : Int32)), .val (.int (if 1 < own_slots m1 then 1 else 0 : Int32)), .val (.int (if 1 < own_slots m2 then 1 else 0 : Int32)), .val (.int (if m1 = -1 ∧ m2 = -1 then 0 else 1 : Int32)), .unset] [(.int (0 : Int32))])) _
            refine XS.istore X46.here hx rfl (hb hby at_175) rfl (l' := #[.val (.long p1), .second, .val (.long p2), .second, .val (.long p3), .second, .val (.long p4), .second, .val (.long m1), .second, .val (.long m2), .second, .val (.long m3), .second, .val (.long m4), .second, .val (.ref b15), .val (.ref b19), .val (.int (if m1 = -1 ∧ m2 = -1 then 0 else 1 : Int32)), .val (.int (if 1 < own_slots m1 then 1 else 0 : Int32)), .val (.int (if 1 < own_slots m2 then 1 else 0 : Int32)), .val (.int (if m1 = -1 ∧ m2 = -1 then 0 else 1 : Int32)), .val (.int (0 : Int32))]) rfl ?_
            show Steps p.tables e below (T46.setTop (mkF m 177 #[.val (.long p1), .second, .val (.long p2), .second, .val (.long p3), .second, .val (.long p4), .second, .val (.long m1), .second, .val (.long m2), .second, .val (.long m3), .second, .val (.long m4), .second, .val (.ref b15), .val (.ref b19), .val (.int (if m1 = -1 ∧ m2 = -1 then 0 else 1 : Int32)), .val (.int (if 1 < own_slots m1 then 1 else 0 : Int32)), .val (.int (if 1 < own_slots m2 then 1 else 0 : Int32)), .val (.int (if m1 = -1 ∧ m2 = -1 then 0 else 1 : Int32)), .val (.int (0 : Int32))] [])) _
            rw [show (if (if 1 < own_slots m1 then 1 else 0 : Int32) = 0 ∧ (if 1 < own_slots m2 then 1 else 0 : Int32) = 0 ∧ ¬ m1 = (9223372036854775807 : Int64) ∧ ¬ m2 = (9223372036854775807 : Int64) then 0 else 1 : Int32) = (0 : Int32) from if_pos (⟨h1, h2, h3, h4⟩)] at kk
            first | exact kk | (rw [show (if (if 1 < own_slots m1 then 1 else 0 : Int32) = 0 ∧ (if 1 < own_slots m2 then 1 else 0 : Int32) = 0 ∧ ¬ m1 = (9223372036854775807 : Int64) ∧ ¬ m2 = (9223372036854775807 : Int64) then 0 else 1 : Int32) = (0 : Int32) from if_pos (⟨h1, h2, h3, h4⟩)]; exact kk)
      · refine XS.ifYes X46.here hx rfl (pc0 := 149) (pc' := 170) rfl (hb hby at_149) rfl ((if0 _ _).trans (feq h2).2) (by decide) (by decide) ?_
        show Steps p.tables e below (T46.setTop (mkF m 170 #[.val (.long p1), .second, .val (.long p2), .second, .val (.long p3), .second, .val (.long p4), .second, .val (.long m1), .second, .val (.long m2), .second, .val (.long m3), .second, .val (.long m4), .second, .val (.ref b15), .val (.ref b19), .val (.int (if m1 = -1 ∧ m2 = -1 then 0 else 1 : Int32)), .val (.int (if 1 < own_slots m1 then 1 else 0 : Int32)), .val (.int (if 1 < own_slots m2 then 1 else 0 : Int32)), .val (.int (if m1 = -1 ∧ m2 = -1 then 0 else 1 : Int32)), .unset] [])) _
        refine XS.iconst X46.here hx rfl (hb hby at_170) ?_
        show Steps p.tables e below (T46.setTop (mkF m 171 #[.val (.long p1), .second, .val (.long p2), .second, .val (.long p3), .second, .val (.long p4), .second, .val (.long m1), .second, .val (.long m2), .second, .val (.long m3), .second, .val (.long m4), .second, .val (.ref b15), .val (.ref b19), .val (.int (if m1 = -1 ∧ m2 = -1 then 0 else 1 : Int32)), .val (.int (if 1 < own_slots m1 then 1 else 0 : Int32)), .val (.int (if 1 < own_slots m2 then 1 else 0 : Int32)), .val (.int (if m1 = -1 ∧ m2 = -1 then 0 else 1 : Int32)), .unset] [(.int (1 : Int32))])) _
        refine XS.goto X46.here hx rfl (pc0 := 171) (pc' := 175) rfl (hb hby at_171) (by decide) (by decide) ?_
        show Steps p.tables e below (T46.setTop (mkF m 175 #[.val (.long p1), .second, .val (.long p2), .second, .val (.long p3), .second, .val (.long p4), .second, .val (.long m1), .second, .val (.long m2), .second, .val (.long m3), .second, .val (.long m4), .second, .val (.ref b15), .val (.ref b19), .val (.int (if m1 = -1 ∧ m2 = -1 then 0 else 1 : Int32)), .val (.int (if 1 < own_slots m1 then 1 else 0 : Int32)), .val (.int (if 1 < own_slots m2 then 1 else 0 : Int32)), .val (.int (if m1 = -1 ∧ m2 = -1 then 0 else 1 : Int32)), .unset] [(.int (1 : Int32))])) _
        refine XS.istore X46.here hx rfl (hb hby at_175) rfl (l' := #[.val (.long p1), .second, .val (.long p2), .second, .val (.long p3), .second, .val (.long p4), .second, .val (.long m1), .second, .val (.long m2), .second, .val (.long m3), .second, .val (.long m4), .second, .val (.ref b15), .val (.ref b19), .val (.int (if m1 = -1 ∧ m2 = -1 then 0 else 1 : Int32)), .val (.int (if 1 < own_slots m1 then 1 else 0 : Int32)), .val (.int (if 1 < own_slots m2 then 1 else 0 : Int32)), .val (.int (if m1 = -1 ∧ m2 = -1 then 0 else 1 : Int32)), .val (.int (1 : Int32))]) rfl ?_
        show Steps p.tables e below (T46.setTop (mkF m 177 #[.val (.long p1), .second, .val (.long p2), .second, .val (.long p3), .second, .val (.long p4), .second, .val (.long m1), .second, .val (.long m2), .second, .val (.long m3), .second, .val (.long m4), .second, .val (.ref b15), .val (.ref b19), .val (.int (if m1 = -1 ∧ m2 = -1 then 0 else 1 : Int32)), .val (.int (if 1 < own_slots m1 then 1 else 0 : Int32)), .val (.int (if 1 < own_slots m2 then 1 else 0 : Int32)), .val (.int (if m1 = -1 ∧ m2 = -1 then 0 else 1 : Int32)), .val (.int (1 : Int32))] [])) _
        rw [show (if (if 1 < own_slots m1 then 1 else 0 : Int32) = 0 ∧ (if 1 < own_slots m2 then 1 else 0 : Int32) = 0 ∧ ¬ m1 = (9223372036854775807 : Int64) ∧ ¬ m2 = (9223372036854775807 : Int64) then 0 else 1 : Int32) = (1 : Int32) from if_neg (fun q => h2 q.2.1)] at kk
        first | exact kk | (rw [show (if (if 1 < own_slots m1 then 1 else 0 : Int32) = 0 ∧ (if 1 < own_slots m2 then 1 else 0 : Int32) = 0 ∧ ¬ m1 = (9223372036854775807 : Int64) ∧ ¬ m2 = (9223372036854775807 : Int64) then 0 else 1 : Int32) = (1 : Int32) from if_neg (fun q => h2 q.2.1)]; exact kk)
    · refine XS.ifYes X46.here hx rfl (pc0 := 144) (pc' := 170) rfl (hb hby at_144) rfl ((if0 _ _).trans (feq h1).2) (by decide) (by decide) ?_
      show Steps p.tables e below (T46.setTop (mkF m 170 #[.val (.long p1), .second, .val (.long p2), .second, .val (.long p3), .second, .val (.long p4), .second, .val (.long m1), .second, .val (.long m2), .second, .val (.long m3), .second, .val (.long m4), .second, .val (.ref b15), .val (.ref b19), .val (.int (if m1 = -1 ∧ m2 = -1 then 0 else 1 : Int32)), .val (.int (if 1 < own_slots m1 then 1 else 0 : Int32)), .val (.int (if 1 < own_slots m2 then 1 else 0 : Int32)), .val (.int (if m1 = -1 ∧ m2 = -1 then 0 else 1 : Int32)), .unset] [])) _
      refine XS.iconst X46.here hx rfl (hb hby at_170) ?_
      show Steps p.tables e below (T46.setTop (mkF m 171 #[.val (.long p1), .second, .val (.long p2), .second, .val (.long p3), .second, .val (.long p4), .second, .val (.long m1), .second, .val (.long m2), .second, .val (.long m3), .second, .val (.long m4), .second, .val (.ref b15), .val (.ref b19), .val (.int (if m1 = -1 ∧ m2 = -1 then 0 else 1 : Int32)), .val (.int (if 1 < own_slots m1 then 1 else 0 : Int32)), .val (.int (if 1 < own_slots m2 then 1 else 0 : Int32)), .val (.int (if m1 = -1 ∧ m2 = -1 then 0 else 1 : Int32)), .unset] [(.int (1 : Int32))])) _
      refine XS.goto X46.here hx rfl (pc0 := 171) (pc' := 175) rfl (hb hby at_171) (by decide) (by decide) ?_
      show Steps p.tables e below (T46.setTop (mkF m 175 #[.val (.long p1), .second, .val (.long p2), .second, .val (.long p3), .second, .val (.long p4), .second, .val (.long m1), .second, .val (.long m2), .second, .val (.long m3), .second, .val (.long m4), .second, .val (.ref b15), .val (.ref b19), .val (.int (if m1 = -1 ∧ m2 = -1 then 0 else 1 : Int32)), .val (.int (if 1 < own_slots m1 then 1 else 0 : Int32)), .val (.int (if 1 < own_slots m2 then 1 else 0 : Int32)), .val (.int (if m1 = -1 ∧ m2 = -1 then 0 else 1 : Int32)), .unset] [(.int (1 : Int32))])) _
      refine XS.istore X46.here hx rfl (hb hby at_175) rfl (l' := #[.val (.long p1), .second, .val (.long p2), .second, .val (.long p3), .second, .val (.long p4), .second, .val (.long m1), .second, .val (.long m2), .second, .val (.long m3), .second, .val (.long m4), .second, .val (.ref b15), .val (.ref b19), .val (.int (if m1 = -1 ∧ m2 = -1 then 0 else 1 : Int32)), .val (.int (if 1 < own_slots m1 then 1 else 0 : Int32)), .val (.int (if 1 < own_slots m2 then 1 else 0 : Int32)), .val (.int (if m1 = -1 ∧ m2 = -1 then 0 else 1 : Int32)), .val (.int (1 : Int32))]) rfl ?_
      show Steps p.tables e below (T46.setTop (mkF m 177 #[.val (.long p1), .second, .val (.long p2), .second, .val (.long p3), .second, .val (.long p4), .second, .val (.long m1), .second, .val (.long m2), .second, .val (.long m3), .second, .val (.long m4), .second, .val (.ref b15), .val (.ref b19), .val (.int (if m1 = -1 ∧ m2 = -1 then 0 else 1 : Int32)), .val (.int (if 1 < own_slots m1 then 1 else 0 : Int32)), .val (.int (if 1 < own_slots m2 then 1 else 0 : Int32)), .val (.int (if m1 = -1 ∧ m2 = -1 then 0 else 1 : Int32)), .val (.int (1 : Int32))] [])) _
      rw [show (if (if 1 < own_slots m1 then 1 else 0 : Int32) = 0 ∧ (if 1 < own_slots m2 then 1 else 0 : Int32) = 0 ∧ ¬ m1 = (9223372036854775807 : Int64) ∧ ¬ m2 = (9223372036854775807 : Int64) then 0 else 1 : Int32) = (1 : Int32) from if_neg (fun q => h1 q.1)] at kk
      first | exact kk | (rw [show (if (if 1 < own_slots m1 then 1 else 0 : Int32) = 0 ∧ (if 1 < own_slots m2 then 1 else 0 : Int32) = 0 ∧ ¬ m1 = (9223372036854775807 : Int64) ∧ ¬ m2 = (9223372036854775807 : Int64) then 0 else 1 : Int32) = (1 : Int32) from if_neg (fun q => h1 q.1)]; exact kk)
  refine own_up sgD ?_
  show OwnOk p e below _ (T46.setTop (mkF m 177 #[.val (.long p1), .second, .val (.long p2), .second, .val (.long p3), .second, .val (.long p4), .second, .val (.long m1), .second, .val (.long m2), .second, .val (.long m3), .second, .val (.long m4), .second, .val (.ref b15), .val (.ref b19), .val (.int (if m1 = -1 ∧ m2 = -1 then 0 else 1 : Int32)), .val (.int (if 1 < own_slots m1 then 1 else 0 : Int32)), .val (.int (if 1 < own_slots m2 then 1 else 0 : Int32)), .val (.int (if m1 = -1 ∧ m2 = -1 then 0 else 1 : Int32)), .val (.int (if (if 1 < own_slots m1 then 1 else 0 : Int32) = 0 ∧ (if 1 < own_slots m2 then 1 else 0 : Int32) = 0 ∧ ¬ m1 = (9223372036854775807 : Int64) ∧ ¬ m2 = (9223372036854775807 : Int64) then 0 else 1 : Int32))] []))
  refine own_up (fun tx kx => XS.iload X46.here hx rfl (hb hby at_177) rfl kx) ?_
  show OwnOk p e below _ (T46.setTop (mkF m 179 #[.val (.long p1), .second, .val (.long p2), .second, .val (.long p3), .second, .val (.long p4), .second, .val (.long m1), .second, .val (.long m2), .second, .val (.long m3), .second, .val (.long m4), .second, .val (.ref b15), .val (.ref b19), .val (.int (if m1 = -1 ∧ m2 = -1 then 0 else 1 : Int32)), .val (.int (if 1 < own_slots m1 then 1 else 0 : Int32)), .val (.int (if 1 < own_slots m2 then 1 else 0 : Int32)), .val (.int (if m1 = -1 ∧ m2 = -1 then 0 else 1 : Int32)), .val (.int (if (if 1 < own_slots m1 then 1 else 0 : Int32) = 0 ∧ (if 1 < own_slots m2 then 1 else 0 : Int32) = 0 ∧ ¬ m1 = (9223372036854775807 : Int64) ∧ ¬ m2 = (9223372036854775807 : Int64) then 0 else 1 : Int32))] [(.int (if m1 = -1 ∧ m2 = -1 then 0 else 1 : Int32))]))
  refine own_up (fun tx kx => XS.iload X46.here hx rfl (hb hby at_179) rfl kx) ?_
  show OwnOk p e below _ (T46.setTop (mkF m 181 #[.val (.long p1), .second, .val (.long p2), .second, .val (.long p3), .second, .val (.long p4), .second, .val (.long m1), .second, .val (.long m2), .second, .val (.long m3), .second, .val (.long m4), .second, .val (.ref b15), .val (.ref b19), .val (.int (if m1 = -1 ∧ m2 = -1 then 0 else 1 : Int32)), .val (.int (if 1 < own_slots m1 then 1 else 0 : Int32)), .val (.int (if 1 < own_slots m2 then 1 else 0 : Int32)), .val (.int (if m1 = -1 ∧ m2 = -1 then 0 else 1 : Int32)), .val (.int (if (if 1 < own_slots m1 then 1 else 0 : Int32) = 0 ∧ (if 1 < own_slots m2 then 1 else 0 : Int32) = 0 ∧ ¬ m1 = (9223372036854775807 : Int64) ∧ ¬ m2 = (9223372036854775807 : Int64) then 0 else 1 : Int32))] [(.int (if m1 = -1 ∧ m2 = -1 then 0 else 1 : Int32)), (.int (if m1 = -1 ∧ m2 = -1 then 0 else 1 : Int32))]))
  refine own_up (fun tx kx => XS.icmpNo X46.here hx rfl (hb hby at_181) rfl (teq rfl).2 kx) ?_
  show OwnOk p e below _ (T46.setTop (mkF m 184 #[.val (.long p1), .second, .val (.long p2), .second, .val (.long p3), .second, .val (.long p4), .second, .val (.long m1), .second, .val (.long m2), .second, .val (.long m3), .second, .val (.long m4), .second, .val (.ref b15), .val (.ref b19), .val (.int (if m1 = -1 ∧ m2 = -1 then 0 else 1 : Int32)), .val (.int (if 1 < own_slots m1 then 1 else 0 : Int32)), .val (.int (if 1 < own_slots m2 then 1 else 0 : Int32)), .val (.int (if m1 = -1 ∧ m2 = -1 then 0 else 1 : Int32)), .val (.int (if (if 1 < own_slots m1 then 1 else 0 : Int32) = 0 ∧ (if 1 < own_slots m2 then 1 else 0 : Int32) = 0 ∧ ¬ m1 = (9223372036854775807 : Int64) ∧ ¬ m2 = (9223372036854775807 : Int64) then 0 else 1 : Int32))] []))
  refine own_up (fun tx kx => XS.iload X46.here hx rfl (hb hby at_184) rfl kx) ?_
  show OwnOk p e below _ (T46.setTop (mkF m 186 #[.val (.long p1), .second, .val (.long p2), .second, .val (.long p3), .second, .val (.long p4), .second, .val (.long m1), .second, .val (.long m2), .second, .val (.long m3), .second, .val (.long m4), .second, .val (.ref b15), .val (.ref b19), .val (.int (if m1 = -1 ∧ m2 = -1 then 0 else 1 : Int32)), .val (.int (if 1 < own_slots m1 then 1 else 0 : Int32)), .val (.int (if 1 < own_slots m2 then 1 else 0 : Int32)), .val (.int (if m1 = -1 ∧ m2 = -1 then 0 else 1 : Int32)), .val (.int (if (if 1 < own_slots m1 then 1 else 0 : Int32) = 0 ∧ (if 1 < own_slots m2 then 1 else 0 : Int32) = 0 ∧ ¬ m1 = (9223372036854775807 : Int64) ∧ ¬ m2 = (9223372036854775807 : Int64) then 0 else 1 : Int32))] [(.int (if m1 = -1 ∧ m2 = -1 then 0 else 1 : Int32))]))
  refine own_up (fun tx kx => XS.iload X46.here hx rfl (hb hby at_186) rfl kx) ?_
  show OwnOk p e below _ (T46.setTop (mkF m 188 #[.val (.long p1), .second, .val (.long p2), .second, .val (.long p3), .second, .val (.long p4), .second, .val (.long m1), .second, .val (.long m2), .second, .val (.long m3), .second, .val (.long m4), .second, .val (.ref b15), .val (.ref b19), .val (.int (if m1 = -1 ∧ m2 = -1 then 0 else 1 : Int32)), .val (.int (if 1 < own_slots m1 then 1 else 0 : Int32)), .val (.int (if 1 < own_slots m2 then 1 else 0 : Int32)), .val (.int (if m1 = -1 ∧ m2 = -1 then 0 else 1 : Int32)), .val (.int (if (if 1 < own_slots m1 then 1 else 0 : Int32) = 0 ∧ (if 1 < own_slots m2 then 1 else 0 : Int32) = 0 ∧ ¬ m1 = (9223372036854775807 : Int64) ∧ ¬ m2 = (9223372036854775807 : Int64) then 0 else 1 : Int32))] [(.int (if (if 1 < own_slots m1 then 1 else 0 : Int32) = 0 ∧ (if 1 < own_slots m2 then 1 else 0 : Int32) = 0 ∧ ¬ m1 = (9223372036854775807 : Int64) ∧ ¬ m2 = (9223372036854775807 : Int64) then 0 else 1 : Int32)), (.int (if m1 = -1 ∧ m2 = -1 then 0 else 1 : Int32))]))
  refine own_up (fun tx kx => XS.icmpNo X46.here hx rfl (hb hby at_188) rfl (teq (own_final m1 m2 km1 km2)).2 kx) ?_
  show OwnOk p e below _ (T46.setTop (mkF m 191 #[.val (.long p1), .second, .val (.long p2), .second, .val (.long p3), .second, .val (.long p4), .second, .val (.long m1), .second, .val (.long m2), .second, .val (.long m3), .second, .val (.long m4), .second, .val (.ref b15), .val (.ref b19), .val (.int (if m1 = -1 ∧ m2 = -1 then 0 else 1 : Int32)), .val (.int (if 1 < own_slots m1 then 1 else 0 : Int32)), .val (.int (if 1 < own_slots m2 then 1 else 0 : Int32)), .val (.int (if m1 = -1 ∧ m2 = -1 then 0 else 1 : Int32)), .val (.int (if (if 1 < own_slots m1 then 1 else 0 : Int32) = 0 ∧ (if 1 < own_slots m2 then 1 else 0 : Int32) = 0 ∧ ¬ m1 = (9223372036854775807 : Int64) ∧ ¬ m2 = (9223372036854775807 : Int64) then 0 else 1 : Int32))] []))
  refine own_up (fun tx kx => XS.iconst X46.here hx rfl (hb hby at_191) kx) ?_
  show OwnOk p e below _ (T46.setTop (mkF m 192 #[.val (.long p1), .second, .val (.long p2), .second, .val (.long p3), .second, .val (.long p4), .second, .val (.long m1), .second, .val (.long m2), .second, .val (.long m3), .second, .val (.long m4), .second, .val (.ref b15), .val (.ref b19), .val (.int (if m1 = -1 ∧ m2 = -1 then 0 else 1 : Int32)), .val (.int (if 1 < own_slots m1 then 1 else 0 : Int32)), .val (.int (if 1 < own_slots m2 then 1 else 0 : Int32)), .val (.int (if m1 = -1 ∧ m2 = -1 then 0 else 1 : Int32)), .val (.int (if (if 1 < own_slots m1 then 1 else 0 : Int32) = 0 ∧ (if 1 < own_slots m2 then 1 else 0 : Int32) = 0 ∧ ¬ m1 = (9223372036854775807 : Int64) ∧ ¬ m2 = (9223372036854775807 : Int64) then 0 else 1 : Int32))] [(.int (1 : Int32))]))
  refine own_up (fun tx kx => XS.goto X46.here hx rfl (pc0 := 192) (pc' := 196) rfl (hb hby at_192) (by decide) (by decide) kx) ?_
  show OwnOk p e below _ (T46.setTop (mkF m 196 #[.val (.long p1), .second, .val (.long p2), .second, .val (.long p3), .second, .val (.long p4), .second, .val (.long m1), .second, .val (.long m2), .second, .val (.long m3), .second, .val (.long m4), .second, .val (.ref b15), .val (.ref b19), .val (.int (if m1 = -1 ∧ m2 = -1 then 0 else 1 : Int32)), .val (.int (if 1 < own_slots m1 then 1 else 0 : Int32)), .val (.int (if 1 < own_slots m2 then 1 else 0 : Int32)), .val (.int (if m1 = -1 ∧ m2 = -1 then 0 else 1 : Int32)), .val (.int (if (if 1 < own_slots m1 then 1 else 0 : Int32) = 0 ∧ (if 1 < own_slots m2 then 1 else 0 : Int32) = 0 ∧ ¬ m1 = (9223372036854775807 : Int64) ∧ ¬ m2 = (9223372036854775807 : Int64) then 0 else 1 : Int32))] [(.int (1 : Int32))]))
  refine own_retNW X46 hB36 hx (t := .boolean) (show meth.sig.returnType = some .boolean from hret) (by simp) hlk (hb hby at_196) (z' := (1 : Int32)) rfl hh46 (Nat.le_of_ble_eq_true rfl) (Nat.le_of_ble_eq_true rfl) ?_
  exact ⟨rfl, N46⟩
set_option maxRecDepth 65536 in
set_option maxHeartbeats 40000000 in
theorem comes_1 {Post : Tables → Env → Array Value → State → Outcome → State → Prop} (hpost : ∀ tb e args s v u, (limb_1_1.after args s (.returned v) u = true ∧ limb_1_2.after args s (.returned v) u = true ∧ True) → ReturnedEndW s (.returned v) u (Jvm.fieldLocs frame_1_writes args s ++ Jvm.arrayLocs frame_1_arrays args s ++ Jvm.staticLocs frame_1_statics s) 24 4224 → Post tb e args s (.returned v) u) :
    ArmFor flags0 classFile x code maxLocals ret World_1 tables_1 room_1 Calls_1 rest_1 Pre_1 Post := by
  intro l hfl _ _ p e ha hc hk s m args below hf hA hF happ hP
  obtain ⟨hcalls, hrest, hpre⟩ := hP
  obtain ⟨-, -, -, hnamed, -, -, -, hat⟩ := (Spec.applies_iff hf).mp happ
  obtain ⟨hg, hn⟩ := and_e (Cond.before_iff.mp (show (Jvm.Cond.and given_1 narrow_1).before args s = true from hpre))
  obtain ⟨g0, gr0⟩ := and_e hg
  obtain ⟨w_0, w_1, w_2, w_3, rfl⟩ : ∃ w_0 w_1 w_2 w_3 : Value, args = #[w_0, w_1, w_2, w_3] := by
    have hs : args.size = 4 := by simpa [Cond.value, given_1] using g0
    obtain ⟨L⟩ := args
    match L, hs with
    | [w_0, w_1, w_2, w_3], _ => exact ⟨w_0, w_1, w_2, w_3, rfl⟩
  have hw := fun d (hd : d ∈ tables_1) => atoms_spec (ws := Jvm.Cond.code x code maxLocals ret :: tables_1) hat d (List.mem_cons_of_mem _ hd)
  have hfit : Fit s := fun {y c} hc i hi => by
    obtain ⟨ha, rfl⟩ := Array.getElem?_eq_some_iff.mp hc
    have q := List.all_eq_true.mp ((Array.all_eq_true_iff_forall_mem.mp hF) _ (Array.getElem_mem ha)) i (List.mem_range.mpr hi)
    simpa [Array.getElem?_eq_getElem hi] using q
  obtain ⟨gi0, gr1⟩ := and_e gr0
  obtain ⟨i0, ei0⟩ := isL_v gi0
  obtain rfl : w_0 = (.long i0) := Option.some.inj ei0
  obtain ⟨gi1, gr2⟩ := and_e gr1
  obtain ⟨i1, ei1⟩ := isL_v gi1
  obtain rfl : w_1 = (.long i1) := Option.some.inj ei1
  obtain ⟨gi2, gr3⟩ := and_e gr2
  obtain ⟨i2, ei2⟩ := isL_v gi2
  obtain rfl : w_2 = (.long i2) := Option.some.inj ei2
  obtain ⟨i3, ei3⟩ := isL_v gr3
  obtain rfl : w_3 = (.long i3) := Option.some.inj ei3
  obtain ⟨x0, r0⟩ := and_e hn
  obtain ⟨x1, r1⟩ := and_e r0
  obtain ⟨x2, r2⟩ := and_e r1
  obtain ⟨o2, o1⟩ := and_e r2
  obtain ⟨r, v0⟩ := exa_v x0
  have SN := Sta.start v0 (Or.inr ⟨(wd_51 hw), (wd_52 hw)⟩)
  obtain ⟨wm, v1⟩ := exa_v x1
  have SM := Sta.start v1 (Or.inr ⟨(wd_95 hw), (wd_96 hw)⟩)
  obtain ⟨wr, v2⟩ := exa_v x2
  have SR := Sta.start v2 (Or.inr ⟨(wd_95 hw), (wd_120 hw)⟩)
  have f1 := own_fldEq v1 o1
  have f2 := own_fldEq v2 o2
  have hne : ¬ wr = wm := Fld.ne f2 f1 (by decide)
  obtain ⟨n, o, h1, h2, h3, _, L, rfl, ⟨rfl, N⟩, hq⟩ := (rm0 l s _ hw i0 i1 i2 i3 r wm wr s.heap s.heap.size (Old.start s) SN SM SR hne) tables_1 p e ha hc hk s m _ below hf ((Spec.applies_iff_loose hf).mp happ).1 ⟨rfl, State.Warmed39.refl s, rfl⟩ trivial
  refine ⟨n, _, h1, h2, h3, hpost _ _ _ _ _ _ ⟨Cond.after_iff.mpr rfl, Cond.after_iff.mpr (eq_i res_at (Term.int_eval (1)) rfl), trivial⟩ ⟨hq.1, hq.2.1, hq.2.2.1, (hq.2.2.2.sift fun y hy => Or.inr (N y hy)).mono (by decide) (by decide)⟩⟩
theorem main_1_1 : Claimed_1_1 := comes_1 fun _ _ _ _ _ _ h hF => ⟨h.1, hF⟩
theorem main_1_2 : Claimed_1_2 := comes_1 fun _ _ _ _ _ _ h hF => ⟨h.2.1, hF⟩
end Jvm.Pilot.@@N@@
namespace Jvm.Pilot.@@N@@
open Jvm Jvm.ClassFile Sem Op Lib Jvm.Free Jvm.Stand Jvm.Pilot.@@N@@.Jvm.D
/-! MADE BY PROGRAM (witnessworld.py) out of the Statement's table words and the real class files: 22 classes; the members and pool entries that the words name. The judged class is class 1, her method 2. -/
namespace start1
open Jvm.ClassFile
def u (s : String) : CpInfo := .utf8 (stringToUtf16 s)
/-- a pool by its gaps: so many unusable entries, then the entry; so many at the end -/
def gap : Nat → List CpInfo → List CpInfo
  | 0, r => r
  | n + 1, r => .unusable :: gap n r
def poolList (es : List (Nat × CpInfo)) (last : Nat) : List CpInfo := es.foldr (fun e r => gap e.1 (e.2 :: r)) (gap last [])
def pool (es : List (Nat × CpInfo)) (last : Nat) : Array CpInfo := ⟨poolList es last⟩
def fileOf (pool : Array CpInfo) (this : Nat) (attrs : Array Attribute := #[]) (ms : Array MethodInfo := #[]) (fl : Nat := 33) (sup : Nat := 0) (ifs : Array Nat := #[]) (fds : Array FieldInfo := #[]) : ClassFile where
  minorVersion := 0
  majorVersion := 65
  constantPool := pool
  accessFlags := fl
  thisClass := this
  superClass := sup
  interfaces := ifs
  fields := fds
  methods := ms
  attributes := attrs
def plain (name : String) (sup : Option ClassId) : Class where
  name := name
  kind := .ordinary
  loader := none
  accessFlags := 33
  super := sup
  interfaces := #[]
  cf := none
  fields := #[]
  methods := #[]
  instanceTypes := #[]
  staticTypes := #[]
  resolved := #[]
  callSites := []
  init := .initialized
  statics := none
  mirror := none

def pool0 : Array CpInfo := pool [(5, u "<init>"), (0, u "()V"), (1, .class_ 10), (1, u "java/lang/Object")] 113

def k0c0 : Code := { maxStack := 0, maxLocals := 1, code := object_method_1_code, exceptionTable := #[], attributes := #[] }
def k0m0 : Method := { name := "<init>", desc := "()V", sig := { parameters := [], returnType := none }, accessFlags := 1, code := some k0c0 }
/-- java/lang/Object -/
def k0 : Class := { plain "java/lang/Object" none with
  accessFlags := 33
  interfaces := #[]
  cf := some (fileOf pool0 8 #[] #[{ accessFlags := 1, nameIndex := 5, descriptorIndex := 6, attributes := #[] }] 33 0 #[] #[])
  fields := #[]
  methods := #[k0m0]
  instanceTypes := #[]
  staticTypes := #[]
  resolved := Array.replicate 124 none
  statics := none }

def pool1 : Array CpInfo := pool [(2, .class_ 4), (1, u "java/lang/Object"), (0, u "<init>"), (0, u "()V"), (0, .class_ 8), (0, u "com/example/slotwright/slotwright/sched/TaskMemory"), (0, .long 18446744073709551615), (1, .methodref 12 13), (0, .class_ 14), (0, .nameAndType 15 16), (0, u "com/example/slotwright/slotwright/sched/TaskMemorySizesSlotsPinLaw"), (0, u "mb"), (0, u "(J)J"), (2, .long 9223372036854775807), (1, .methodref 7 22), (0, .nameAndType 5 23), (0, u "(JJJJJJ)V"), (0, .class_ 25), (0, u "com/example/slotwright/slotwright/sched/JobSpec"), (0, .string 27), (0, u "j"), (0, .string 29), (0, u "q"), (0, .string 31), (0, u "u"), (0, .methodref 24 33), (0, .nameAndType 5 34), (0, u "(Ljava/lang/String;Ljava/lang/String;Ljava/lang/String;II)V"), (0, .methodref 7 36), (0, .nameAndType 37 38), (0, u "sizesSlots"), (0, u "()Z"), (0, .fieldref 40 41), (0, .class_ 42), (0, .nameAndType 43 44), (0, u "com/example/slotwright/slotwright/sched/TaskKind"), (0, u "MAP"), (0, u "Lcom/example/slotwright/slotwright/sched/TaskKind;"), (0, .methodref 7 46), (0, .nameAndType 47 48), (0, u "slots"), (0, u "(Lcom/example/slotwright/slotwright/sched/TaskKind;Lcom/example/slotwright/slotwright/sched/JobSpec;)J"), (0, .fieldref 40 50), (0, .nameAndType 51 44), (0, u "REDUCE"), (3, u "law"), (0, u "(JJJJ)Z")] 2

def k1m0 : Method := { name := "<init>", desc := "()V", sig := { parameters := [], returnType := none }, accessFlags := 1, code := none }
def k1c1 : Code := { maxStack := 4, maxLocals := 2, code := method_2_code, exceptionTable := #[], attributes := #[] }
def k1m1 : Method := { name := "mb", desc := "(J)J", sig := { parameters := [.long], returnType := some .long }, accessFlags := 10, code := some k1c1 }
def k1c2 : Code := { maxStack := 14, maxLocals := 23, code := code, exceptionTable := #[], attributes := #[] }
def k1m2 : Method := { name := "law", desc := "(JJJJ)Z", sig := { parameters := [.long, .long, .long, .long], returnType := some .boolean }, accessFlags := 9, code := some k1c2 }
/-- com/example/slotwright/slotwright/sched/TaskMemorySizesSlotsPinLaw -/
def k1 : Class := { plain "com/example/slotwright/slotwright/sched/TaskMemorySizesSlotsPinLaw" (some 0) with
  accessFlags := 49
  interfaces := #[]
  cf := some (fileOf pool1 12 #[] #[{ accessFlags := 1, nameIndex := 5, descriptorIndex := 6, attributes := #[] }, { accessFlags := 10, nameIndex := 15, descriptorIndex := 16, attributes := #[] }, { accessFlags := 9, nameIndex := 55, descriptorIndex := 56, attributes := #[] }] 49 2 #[] #[])
  fields := #[]
  methods := #[k1m0, k1m1, k1m2]
  instanceTypes := #[]
  staticTypes := #[]
  resolved := Array.replicate 59 none
  statics := none }

def pool2 : Array CpInfo := pool [(1, .methodref 2 3), (0, .class_ 4), (0, .nameAndType 5 6), (0, u "java/lang/Object"), (0, u "<init>"), (0, u "()V"), (0, .class_ 8), (0, u "java/lang/Record")] 13

def k2c0 : Code := { maxStack := 1, maxLocals := 1, code := jdk_30_method_1_code, exceptionTable := #[], attributes := #[] }
def k2m0 : Method := { name := "<init>", desc := "()V", sig := { parameters := [], returnType := none }, accessFlags := 4, code := some k2c0 }
/-- java/lang/Record -/
def k2 : Class := { plain "java/lang/Record" (some 0) with
  accessFlags := 1057
  interfaces := #[]
  cf := some (fileOf pool2 7 #[] #[{ accessFlags := 4, nameIndex := 5, descriptorIndex := 6, attributes := #[] }] 1057 2 #[] #[])
  fields := #[]
  methods := #[k2m0]
  instanceTypes := #[]
  staticTypes := #[]
  resolved := Array.replicate 22 none
  statics := none }

def pool3 : Array CpInfo := pool [(1, .methodref 2 3), (0, .class_ 4), (0, .nameAndType 5 6), (0, u "java/lang/Record"), (0, u "<init>"), (0, u "()V"), (0, .class_ 8), (0, u "com/example/slotwright/slotwright/sched/TaskMemory"), (0, .long 18446744073709551615), (10, .fieldref 7 21), (0, .nameAndType 22 23), (0, u "mapSlotMb"), (0, u "J"), (0, .fieldref 7 25), (0, .nameAndType 26 23), (0, u "reduceSlotMb"), (0, .fieldref 7 28), (0, .nameAndType 29 23), (0, u "maxMapMb"), (0, .fieldref 7 31), (0, .nameAndType 32 23), (0, u "maxReduceMb"), (0, .fieldref 7 34), (0, .nameAndType 35 23), (0, u "jobMapMb"), (0, .fieldref 7 37), (0, .nameAndType 38 23), (0, u "jobReduceMb"), (0, .fieldref 40 41), (0, .class_ 42), (0, .nameAndType 43 44), (0, u "com/example/slotwright/slotwright/sched/TaskKind"), (0, u "MAP"), (0, u "Lcom/example/slotwright/slotwright/sched/TaskKind;"), (0, .methodref 46 47), (0, .class_ 48), (0, .nameAndType 49 50), (0, u "com/example/slotwright/slotwright/sched/JobSpec"), (0, u "memoryMb"), (0, u "(Lcom/example/slotwright/slotwright/sched/TaskKind;)J"), (0, .methodref 7 52), (0, .nameAndType 53 54), (0, u "askedMb"), (0, u "(Lcom/example/slotwright/slotwright/sched/TaskKind;Lcom/example/slotwright/slotwright/sched/JobSpec;)J"), (0, .methodref 7 56), (0, .nameAndType 57 50), (0, u "slotMb"), (14, u "slots"), (17, u "(JJJJJJ)V"), (2, u "NONE"), (0, u "Lcom/example/slotwright/slotwright/sched/TaskMemory;"), (0, u "UNSET"), (7, u "sizesSlots"), (0, u "()Z")] 43

def k3c0 : Code := { maxStack := 5, maxLocals := 18, code := prog_148_method_1_code, exceptionTable := #[], attributes := #[] }
def k3m0 : Method := { name := "<init>", desc := "(JJJJJJ)V", sig := { parameters := [.long, .long, .long, .long, .long, .long], returnType := none }, accessFlags := 1, code := some k3c0 }
def k3c1 : Code := { maxStack := 2, maxLocals := 2, code := prog_148_method_2_code, exceptionTable := #[], attributes := #[] }
def k3m1 : Method := { name := "slotMb", desc := "(Lcom/example/slotwright/slotwright/sched/TaskKind;)J", sig := { parameters := [(.object "com/example/slotwright/slotwright/sched/TaskKind")], returnType := some .long }, accessFlags := 1, code := some k3c1 }
def k3c2 : Code := { maxStack := 4, maxLocals := 1, code := prog_148_method_4_code, exceptionTable := #[], attributes := #[] }
def k3m2 : Method := { name := "sizesSlots", desc := "()Z", sig := { parameters := [], returnType := some .boolean }, accessFlags := 1, code := some k3c2 }
def k3c3 : Code := { maxStack := 4, maxLocals := 5, code := prog_148_method_5_code, exceptionTable := #[], attributes := #[] }
def k3m3 : Method := { name := "askedMb", desc := "(Lcom/example/slotwright/slotwright/sched/TaskKind;Lcom/example/slotwright/slotwright/sched/JobSpec;)J", sig := { parameters := [(.object "com/example/slotwright/slotwright/sched/TaskKind"), (.object "com/example/slotwright/slotwright/sched/JobSpec")], returnType := some .long }, accessFlags := 1, code := some k3c3 }
def k3c4 : Code := { maxStack := 4, maxLocals := 7, code := prog_148_method_6_code, exceptionTable := #[], attributes := #[] }
def k3m4 : Method := { name := "slots", desc := "(Lcom/example/slotwright/slotwright/sched/TaskKind;Lcom/example/slotwright/slotwright/sched/JobSpec;)J", sig := { parameters := [(.object "com/example/slotwright/slotwright/sched/TaskKind"), (.object "com/example/slotwright/slotwright/sched/JobSpec")], returnType := some .long }, accessFlags := 1, code := some k3c4 }
/-- com/example/slotwright/slotwright/sched/TaskMemory -/
def k3 : Class := { plain "com/example/slotwright/slotwright/sched/TaskMemory" (some 2) with
  accessFlags := 49
  interfaces := #[]
  cf := some (fileOf pool3 7 #[] #[{ accessFlags := 1, nameIndex := 5, descriptorIndex := 90, attributes := #[] }, { accessFlags := 1, nameIndex := 57, descriptorIndex := 50, attributes := #[] }, { accessFlags := 1, nameIndex := 103, descriptorIndex := 104, attributes := #[] }, { accessFlags := 1, nameIndex := 53, descriptorIndex := 54, attributes := #[] }, { accessFlags := 1, nameIndex := 72, descriptorIndex := 54, attributes := #[] }] 49 2 #[] #[{ accessFlags := 18, nameIndex := 22, descriptorIndex := 23, attributes := #[] }, { accessFlags := 18, nameIndex := 26, descriptorIndex := 23, attributes := #[] }, { accessFlags := 18, nameIndex := 29, descriptorIndex := 23, attributes := #[] }, { accessFlags := 18, nameIndex := 32, descriptorIndex := 23, attributes := #[] }, { accessFlags := 18, nameIndex := 35, descriptorIndex := 23, attributes := #[] }, { accessFlags := 18, nameIndex := 38, descriptorIndex := 23, attributes := #[] }, { accessFlags := 25, nameIndex := 95, descriptorIndex := 23, attributes := #[] }, { accessFlags := 25, nameIndex := 93, descriptorIndex := 94, attributes := #[] }])
  fields := #[{ name := "mapSlotMb", type := .long, accessFlags := 18, slot := 0, constantValue := 0 }, { name := "reduceSlotMb", type := .long, accessFlags := 18, slot := 1, constantValue := 0 }, { name := "maxMapMb", type := .long, accessFlags := 18, slot := 2, constantValue := 0 }, { name := "maxReduceMb", type := .long, accessFlags := 18, slot := 3, constantValue := 0 }, { name := "jobMapMb", type := .long, accessFlags := 18, slot := 4, constantValue := 0 }, { name := "jobReduceMb", type := .long, accessFlags := 18, slot := 5, constantValue := 0 }, { name := "UNSET", type := .long, accessFlags := 25, slot := 0, constantValue := 0 }, { name := "NONE", type := (.object "com/example/slotwright/slotwright/sched/TaskMemory"), accessFlags := 25, slot := 1, constantValue := 0 }]
  methods := #[k3m0, k3m1, k3m2, k3m3, k3m4]
  instanceTypes := #[.long, .long, .long, .long, .long, .long]
  staticTypes := #[.long, (.object "com/example/slotwright/slotwright/sched/TaskMemory")]
  resolved := Array.replicate 148 none
  statics := none }

def pool4 : Array CpInfo := pool [(1, .methodref 2 3), (0, .class_ 4), (0, .nameAndType 5 6), (0, u "java/lang/Record"), (0, u "<init>"), (0, u "()V"), (0, .string 8), (0, u "priority"), (0, .methodref 10 11), (0, .class_ 12), (0, .nameAndType 13 14), (0, u "java/util/Objects"), (0, u "requireNonNull"), (0, u "(Ljava/lang/Object;Ljava/lang/String;)Ljava/lang/Object;"), (2, .long 18446744073709551615), (10, .class_ 29), (0, u "com/example/slotwright/slotwright/sched/JobSpec"), (3, .fieldref 28 34), (0, .nameAndType 35 36), (0, u "name"), (0, u "Ljava/lang/String;"), (0, .fieldref 28 38), (0, .nameAndType 39 36), (0, u "queue"), (0, .fieldref 28 41), (0, .nameAndType 42 36), (0, u "user"), (0, .fieldref 28 44), (0, .nameAndType 45 46), (0, u "maps"), (0, u "I"), (0, .fieldref 28 48), (0, .nameAndType 49 46), (0, u "reduces"), (0, .fieldref 28 51), (0, .nameAndType 8 52), (0, u "Lcom/example/slotwright/slotwright/sched/JobPriority;"), (0, .fieldref 28 54), (0, .nameAndType 55 56), (0, u "mapMemoryMb"), (0, u "J"), (0, .fieldref 28 58), (0, .nameAndType 59 56), (0, u "reduceMemoryMb"), (0, .fieldref 28 61), (0, .nameAndType 62 56), (0, u "deadlineMs"), (0, .fieldref 28 64), (0, .nameAndType 65 36), (0, u "profile"), (0, .methodref 28 67), (0, .nameAndType 5 68), (0, u "(Ljava/lang/String;Ljava/lang/String;Ljava/lang/String;IILcom/example/slotwright/slotwright/sched/JobPriority;JJJLjava/lang/String;)V"), (0, .methodref 28 70), (0, .nameAndType 5 71), (0, u "(Ljava/lang/String;Ljava/lang/String;Ljava/lang/String;IILcom/example/slotwright/slotwright/sched/JobPriority;JJ)V"), (0, .fieldref 73 74), (0, .class_ 75), (0, .nameAndType 76 52), (0, u "com/example/slotwright/slotwright/sched/JobPriority"), (0, u "NORMAL"), (0, .methodref 28 78), (0, .nameAndType 5 79), (0, u "(Ljava/lang/String;Ljava/lang/String;Ljava/lang/String;IILcom/example/slotwright/slotwright/sched/JobPriority;)V"), (0, .fieldref 81 82), (0, .class_ 83), (0, .nameAndType 84 85), (0, u "com/example/slotwright/slotwright/sched/TaskKind"), (0, u "MAP"), (0, u "Lcom/example/slotwright/slotwright/sched/TaskKind;"), (12, u "NO_DEADLINE"), (9, u "(Ljava/lang/String;Ljava/lang/String;Ljava/lang/String;II)V"), (7, u "memoryMb"), (0, u "(Lcom/example/slotwright/slotwright/sched/TaskKind;)J")] 43

def k4c0 : Code := { maxStack := 6, maxLocals := 19, code := prog_102_method_1_code, exceptionTable := #[], attributes := #[] }
def k4m0 : Method := { name := "<init>", desc := "(Ljava/lang/String;Ljava/lang/String;Ljava/lang/String;IILcom/example/slotwright/slotwright/sched/JobPriority;JJJLjava/lang/String;)V", sig := { parameters := [(.object "java/lang/String"), (.object "java/lang/String"), (.object "java/lang/String"), .int, .int, (.object "com/example/slotwright/slotwright/sched/JobPriority"), .long, .long, .long, (.object "java/lang/String")], returnType := none }, accessFlags := 1, code := some k4c0 }
def k4c1 : Code := { maxStack := 14, maxLocals := 11, code := prog_102_method_2_code, exceptionTable := #[], attributes := #[] }
def k4m1 : Method := { name := "<init>", desc := "(Ljava/lang/String;Ljava/lang/String;Ljava/lang/String;IILcom/example/slotwright/slotwright/sched/JobPriority;JJ)V", sig := { parameters := [(.object "java/lang/String"), (.object "java/lang/String"), (.object "java/lang/String"), .int, .int, (.object "com/example/slotwright/slotwright/sched/JobPriority"), .long, .long], returnType := none }, accessFlags := 1, code := some k4c1 }
def k4c2 : Code := { maxStack := 11, maxLocals := 7, code := prog_102_method_3_code, exceptionTable := #[], attributes := #[] }
def k4m2 : Method := { name := "<init>", desc := "(Ljava/lang/String;Ljava/lang/String;Ljava/lang/String;IILcom/example/slotwright/slotwright/sched/JobPriority;)V", sig := { parameters := [(.object "java/lang/String"), (.object "java/lang/String"), (.object "java/lang/String"), .int, .int, (.object "com/example/slotwright/slotwright/sched/JobPriority")], returnType := none }, accessFlags := 1, code := some k4c2 }
def k4c3 : Code := { maxStack := 7, maxLocals := 6, code := prog_102_method_4_code, exceptionTable := #[], attributes := #[] }
def k4m3 : Method := { name := "<init>", desc := "(Ljava/lang/String;Ljava/lang/String;Ljava/lang/String;II)V", sig := { parameters := [(.object "java/lang/String"), (.object "java/lang/String"), (.object "java/lang/String"), .int, .int], returnType := none }, accessFlags := 1, code := some k4c3 }
def k4c4 : Code := { maxStack := 2, maxLocals := 2, code := prog_102_method_9_code, exceptionTable := #[], attributes := #[] }
def k4m4 : Method := { name := "memoryMb", desc := "(Lcom/example/slotwright/slotwright/sched/TaskKind;)J", sig := { parameters := [(.object "com/example/slotwright/slotwright/sched/TaskKind")], returnType := some .long }, accessFlags := 1, code := some k4c4 }
/-- com/example/slotwright/slotwright/sched/JobSpec -/
def k4 : Class := { plain "com/example/slotwright/slotwright/sched/JobSpec" (some 2) with
  accessFlags := 49
  interfaces := #[]
  cf := some (fileOf pool4 28 #[] #[{ accessFlags := 1, nameIndex := 5, descriptorIndex := 68, attributes := #[] }, { accessFlags := 1, nameIndex := 5, descriptorIndex := 71, attributes := #[] }, { accessFlags := 1, nameIndex := 5, descriptorIndex := 79, attributes := #[] }, { accessFlags := 1, nameIndex := 5, descriptorIndex := 108, attributes := #[] }, { accessFlags := 1, nameIndex := 116, descriptorIndex := 117, attributes := #[] }] 49 2 #[] #[{ accessFlags := 18, nameIndex := 35, descriptorIndex := 36, attributes := #[] }, { accessFlags := 18, nameIndex := 39, descriptorIndex := 36, attributes := #[] }, { accessFlags := 18, nameIndex := 42, descriptorIndex := 36, attributes := #[] }, { accessFlags := 18, nameIndex := 45, descriptorIndex := 46, attributes := #[] }, { accessFlags := 18, nameIndex := 49, descriptorIndex := 46, attributes := #[] }, { accessFlags := 18, nameIndex := 8, descriptorIndex := 52, attributes := #[] }, { accessFlags := 18, nameIndex := 55, descriptorIndex := 56, attributes := #[] }, { accessFlags := 18, nameIndex := 59, descriptorIndex := 56, attributes := #[] }, { accessFlags := 18, nameIndex := 62, descriptorIndex := 56, attributes := #[] }, { accessFlags := 18, nameIndex := 65, descriptorIndex := 36, attributes := #[] }, { accessFlags := 25, nameIndex := 98, descriptorIndex := 56, attributes := #[] }])
  fields := #[{ name := "name", type := (.object "java/lang/String"), accessFlags := 18, slot := 0, constantValue := 0 }, { name := "queue", type := (.object "java/lang/String"), accessFlags := 18, slot := 1, constantValue := 0 }, { name := "user", type := (.object "java/lang/String"), accessFlags := 18, slot := 2, constantValue := 0 }, { name := "maps", type := .int, accessFlags := 18, slot := 3, constantValue := 0 }, { name := "reduces", type := .int, accessFlags := 18, slot := 4, constantValue := 0 }, { name := "priority", type := (.object "com/example/slotwright/slotwright/sched/JobPriority"), accessFlags := 18, slot := 5, constantValue := 0 }, { name := "mapMemoryMb", type := .long, accessFlags := 18, slot := 6, constantValue := 0 }, { name := "reduceMemoryMb", type := .long, accessFlags := 18, slot := 7, constantValue := 0 }, { name := "deadlineMs", type := .long, accessFlags := 18, slot := 8, constantValue := 0 }, { name := "profile", type := (.object "java/lang/String"), accessFlags := 18, slot := 9, constantValue := 0 }, { name := "NO_DEADLINE", type := .long, accessFlags := 25, slot := 0, constantValue := 0 }]
  methods := #[k4m0, k4m1, k4m2, k4m3, k4m4]
  instanceTypes := #[(.object "java/lang/String"), (.object "java/lang/String"), (.object "java/lang/String"), .int, .int, (.object "com/example/slotwright/slotwright/sched/JobPriority"), .long, .long, .long, (.object "java/lang/String")]
  staticTypes := #[.long]
  resolved := Array.replicate 161 none
  statics := none }

def pool5 : Array CpInfo := pool [(1, .class_ 2), (0, u "java/io/Serializable"), (0, .class_ 4), (0, u "java/lang/Object")] 2

/-- java/io/Serializable -/
def k5 : Class := { plain "java/io/Serializable" (some 0) with
  accessFlags := 1537
  interfaces := #[]
  cf := some (fileOf pool5 1 #[] #[] 1537 3 #[] #[])
  fields := #[]
  methods := #[]
  instanceTypes := #[]
  staticTypes := #[]
  resolved := Array.replicate 7 none
  statics := none }

def pool6 : Array CpInfo := pool [(1, .class_ 2), (0, u "java/lang/Comparable"), (0, .class_ 4), (0, u "java/lang/Object")] 7

/-- java/lang/Comparable -/
def k6 : Class := { plain "java/lang/Comparable" (some 0) with
  accessFlags := 1537
  interfaces := #[]
  cf := some (fileOf pool6 1 #[] #[] 1537 3 #[] #[])
  fields := #[]
  methods := #[]
  instanceTypes := #[]
  staticTypes := #[]
  resolved := Array.replicate 12 none
  statics := none }

def pool7 : Array CpInfo := pool [(2, .class_ 4), (1, u "java/lang/CharSequence"), (42, .class_ 48), (0, u "java/lang/CharSequence$1CodePointIterator"), (10, .class_ 60), (0, u "java/lang/CharSequence$1CharIterator"), (5, .class_ 67), (0, u "java/lang/Object")] 63

/-- java/lang/CharSequence -/
def k7 : Class := { plain "java/lang/CharSequence" (some 0) with
  accessFlags := 1537
  interfaces := #[]
  cf := some (fileOf pool7 2 #[.nestMembers #[47, 59]] #[] 1537 66 #[] #[])
  fields := #[]
  methods := #[]
  instanceTypes := #[]
  staticTypes := #[]
  resolved := Array.replicate 131 none
  statics := none }

def pool8 : Array CpInfo := pool [(1, .class_ 2), (0, u "java/lang/constant/Constable"), (0, .class_ 4), (0, u "java/lang/Object")] 6

/-- java/lang/constant/Constable -/
def k8 : Class := { plain "java/lang/constant/Constable" (some 0) with
  accessFlags := 1537
  interfaces := #[]
  cf := some (fileOf pool8 1 #[] #[] 1537 3 #[] #[])
  fields := #[]
  methods := #[]
  instanceTypes := #[]
  staticTypes := #[]
  resolved := Array.replicate 11 none
  statics := none }

def pool9 : Array CpInfo := pool [(1, .class_ 2), (0, u "java/lang/constant/ConstantDesc"), (0, .class_ 4), (0, u "java/lang/Object")] 32

/-- java/lang/constant/ConstantDesc -/
def k9 : Class := { plain "java/lang/constant/ConstantDesc" (some 0) with
  accessFlags := 1537
  interfaces := #[]
  cf := some (fileOf pool9 1 #[] #[] 1537 3 #[] #[])
  fields := #[]
  methods := #[]
  instanceTypes := #[]
  staticTypes := #[]
  resolved := Array.replicate 37 none
  statics := none }

def pool10 : Array CpInfo := pool [(2, .class_ 4), (1, u "java/lang/Object"), (0, u "<init>"), (0, u "()V"), (3, .class_ 12), (1, u "java/lang/String"), (0, u "value"), (0, u "[B"), (2, u "coder"), (0, u "B"), (2, u "hash"), (0, u "I"), (2, u "hashIsZero"), (0, u "Z"), (13, u "COMPACT_STRINGS"), (534, .class_ 576), (0, u "java/lang/CharSequence"), (22, u "CASE_INSENSITIVE_ORDER"), (0, u "Ljava/util/Comparator;"), (500, u "serialPersistentFields"), (0, u "[Ljava/io/ObjectStreamField;"), (0, .class_ 1104), (0, u "java/lang/String$CaseInsensitiveComparator"), (1, .class_ 1107), (0, u "java/io/Serializable"), (0, .class_ 1109), (0, u "java/lang/Comparable"), (0, .class_ 1111), (0, u "java/lang/constant/Constable"), (0, .class_ 1113), (0, u "java/lang/constant/ConstantDesc"), (2, u "serialVersionUID"), (0, u "J"), (3, u "REPL"), (0, u "C"), (2, u "LATIN1"), (1, u "UTF16")] 323

def k10m0 : Method := { name := "<init>", desc := "()V", sig := { parameters := [], returnType := none }, accessFlags := 1, code := none }
/-- java/lang/String -/
def k10 : Class := { plain "java/lang/String" (some 0) with
  accessFlags := 49
  interfaces := #[5, 6, 7, 8, 9]
  cf := some (fileOf pool10 10 #[.nestMembers #[1103]] #[{ accessFlags := 1, nameIndex := 5, descriptorIndex := 6, attributes := #[] }] 49 2 #[1106, 1108, 575, 1110, 1112] #[{ accessFlags := 18, nameIndex := 13, descriptorIndex := 14, attributes := #[] }, { accessFlags := 18, nameIndex := 17, descriptorIndex := 18, attributes := #[] }, { accessFlags := 2, nameIndex := 21, descriptorIndex := 22, attributes := #[] }, { accessFlags := 2, nameIndex := 25, descriptorIndex := 26, attributes := #[] }, { accessFlags := 26, nameIndex := 1116, descriptorIndex := 1117, attributes := #[] }, { accessFlags := 24, nameIndex := 40, descriptorIndex := 26, attributes := #[] }, { accessFlags := 26, nameIndex := 1101, descriptorIndex := 1102, attributes := #[] }, { accessFlags := 26, nameIndex := 1121, descriptorIndex := 1122, attributes := #[] }, { accessFlags := 25, nameIndex := 599, descriptorIndex := 600, attributes := #[] }, { accessFlags := 24, nameIndex := 1125, descriptorIndex := 18, attributes := #[] }, { accessFlags := 24, nameIndex := 1127, descriptorIndex := 18, attributes := #[] }])
  fields := #[{ name := "value", type := (.array .byte), accessFlags := 18, slot := 0, constantValue := 0 }, { name := "coder", type := .byte, accessFlags := 18, slot := 1, constantValue := 0 }, { name := "hash", type := .int, accessFlags := 2, slot := 2, constantValue := 0 }, { name := "hashIsZero", type := .boolean, accessFlags := 2, slot := 3, constantValue := 0 }, { name := "serialVersionUID", type := .long, accessFlags := 26, slot := 0, constantValue := 0 }, { name := "COMPACT_STRINGS", type := .boolean, accessFlags := 24, slot := 1, constantValue := 0 }, { name := "serialPersistentFields", type := (.array (.object "java/io/ObjectStreamField")), accessFlags := 26, slot := 2, constantValue := 0 }, { name := "REPL", type := .char, accessFlags := 26, slot := 3, constantValue := 0 }, { name := "CASE_INSENSITIVE_ORDER", type := (.object "java/util/Comparator"), accessFlags := 25, slot := 4, constantValue := 0 }, { name := "LATIN1", type := .byte, accessFlags := 24, slot := 5, constantValue := 0 }, { name := "UTF16", type := .byte, accessFlags := 24, slot := 6, constantValue := 0 }]
  methods := #[k10m0]
  instanceTypes := #[(.array .byte), .byte, .int, .boolean]
  staticTypes := #[.long, .boolean, (.array (.object "java/io/ObjectStreamField")), .char, (.object "java/util/Comparator"), .byte, .byte]
  resolved := Array.replicate 1451 none
  statics := none }

def pool11 : Array CpInfo := pool [(2, .class_ 4), (1, u "java/lang/Enum"), (0, u "name"), (0, u "Ljava/lang/String;"), (2, u "ordinal"), (0, u "I"), (1, .class_ 14), (1, u "java/lang/Object"), (4, u "hash"), (86, .class_ 108), (1, u "java/lang/Enum$EnumDesc"), (2, .class_ 112), (0, u "java/lang/constant/Constable"), (0, .class_ 114), (0, u "java/lang/Comparable"), (0, .class_ 116), (0, u "java/io/Serializable")] 87

/-- java/lang/Enum -/
def k11 : Class := { plain "java/lang/Enum" (some 0) with
  accessFlags := 1057
  interfaces := #[8, 6, 5]
  cf := some (fileOf pool11 2 #[.nestMembers #[106]] #[] 1057 12 #[111, 113, 115] #[{ accessFlags := 18, nameIndex := 5, descriptorIndex := 6, attributes := #[] }, { accessFlags := 18, nameIndex := 9, descriptorIndex := 10, attributes := #[] }, { accessFlags := 2, nameIndex := 19, descriptorIndex := 10, attributes := #[] }])
  fields := #[{ name := "name", type := (.object "java/lang/String"), accessFlags := 18, slot := 0, constantValue := 0 }, { name := "ordinal", type := .int, accessFlags := 18, slot := 1, constantValue := 0 }, { name := "hash", type := .int, accessFlags := 2, slot := 2, constantValue := 0 }]
  methods := #[]
  instanceTypes := #[(.object "java/lang/String"), .int, .int]
  staticTypes := #[]
  resolved := Array.replicate 204 none
  statics := none }

def pool12 : Array CpInfo := pool [(1, .class_ 2), (0, u "com/example/slotwright/slotwright/sched/JobPriority"), (2, u "VERY_HIGH"), (0, u "Lcom/example/slotwright/slotwright/sched/JobPriority;"), (2, u "HIGH"), (2, u "NORMAL"), (2, u "LOW"), (2, u "VERY_LOW"), (2, u "$VALUES"), (0, u "[Lcom/example/slotwright/slotwright/sched/JobPriority;"), (6, .class_ 31), (1, u "java/lang/Enum")] 27

/-- com/example/slotwright/slotwright/sched/JobPriority -/
def k12 : Class := { plain "com/example/slotwright/slotwright/sched/JobPriority" (some 11) with
  accessFlags := 16433
  interfaces := #[]
  cf := some (fileOf pool12 1 #[] #[] 16433 29 #[] #[{ accessFlags := 16409, nameIndex := 5, descriptorIndex := 6, attributes := #[] }, { accessFlags := 16409, nameIndex := 9, descriptorIndex := 6, attributes := #[] }, { accessFlags := 16409, nameIndex := 12, descriptorIndex := 6, attributes := #[] }, { accessFlags := 16409, nameIndex := 15, descriptorIndex := 6, attributes := #[] }, { accessFlags := 16409, nameIndex := 18, descriptorIndex := 6, attributes := #[] }, { accessFlags := 4122, nameIndex := 21, descriptorIndex := 22, attributes := #[] }])
  fields := #[{ name := "VERY_HIGH", type := (.object "com/example/slotwright/slotwright/sched/JobPriority"), accessFlags := 16409, slot := 0, constantValue := 0 }, { name := "HIGH", type := (.object "com/example/slotwright/slotwright/sched/JobPriority"), accessFlags := 16409, slot := 1, constantValue := 0 }, { name := "NORMAL", type := (.object "com/example/slotwright/slotwright/sched/JobPriority"), accessFlags := 16409, slot := 2, constantValue := 0 }, { name := "LOW", type := (.object "com/example/slotwright/slotwright/sched/JobPriority"), accessFlags := 16409, slot := 3, constantValue := 0 }, { name := "VERY_LOW", type := (.object "com/example/slotwright/slotwright/sched/JobPriority"), accessFlags := 16409, slot := 4, constantValue := 0 }, { name := "$VALUES", type := (.array (.object "com/example/slotwright/slotwright/sched/JobPriority")), accessFlags := 4122, slot := 5, constantValue := 0 }]
  methods := #[]
  instanceTypes := #[(.object "java/lang/String"), .int, .int]
  staticTypes := #[(.object "com/example/slotwright/slotwright/sched/JobPriority"), (.object "com/example/slotwright/slotwright/sched/JobPriority"), (.object "com/example/slotwright/slotwright/sched/JobPriority"), (.object "com/example/slotwright/slotwright/sched/JobPriority"), (.object "com/example/slotwright/slotwright/sched/JobPriority"), (.array (.object "com/example/slotwright/slotwright/sched/JobPriority"))]
  resolved := Array.replicate 59 none
  statics := some 0 }

def pool13 : Array CpInfo := pool [(2, .class_ 4), (1, u "java/lang/Object"), (0, u "<init>"), (0, u "()V"), (35, .class_ 44), (1, u "java/util/Objects"), (0, u "requireNonNull"), (48, u "(Ljava/lang/Object;Ljava/lang/String;)Ljava/lang/Object;")] 89

def k13m0 : Method := { name := "<init>", desc := "()V", sig := { parameters := [], returnType := none }, accessFlags := 2, code := none }
def k13c1 : Code := { maxStack := 3, maxLocals := 2, code := jdk_31_method_11_code, exceptionTable := #[], attributes := #[] }
def k13m1 : Method := { name := "requireNonNull", desc := "(Ljava/lang/Object;Ljava/lang/String;)Ljava/lang/Object;", sig := { parameters := [(.object "java/lang/Object"), (.object "java/lang/String")], returnType := some (.object "java/lang/Object") }, accessFlags := 9, code := some k13c1 }
/-- java/util/Objects -/
def k13 : Class := { plain "java/util/Objects" (some 0) with
  accessFlags := 49
  interfaces := #[]
  cf := some (fileOf pool13 42 #[] #[{ accessFlags := 2, nameIndex := 5, descriptorIndex := 6, attributes := #[] }, { accessFlags := 9, nameIndex := 45, descriptorIndex := 94, attributes := #[] }] 49 2 #[] #[])
  fields := #[]
  methods := #[k13m0, k13m1]
  instanceTypes := #[]
  staticTypes := #[]
  resolved := Array.replicate 184 none
  statics := none }

def pool14 : Array CpInfo := pool [(1, .class_ 2), (0, u "com/example/slotwright/slotwright/sched/TaskKind"), (2, u "MAP"), (0, u "Lcom/example/slotwright/slotwright/sched/TaskKind;"), (2, u "REDUCE"), (2, u "$VALUES"), (0, u "[Lcom/example/slotwright/slotwright/sched/TaskKind;"), (6, .class_ 22), (1, u "java/lang/Enum")] 24

/-- com/example/slotwright/slotwright/sched/TaskKind -/
def k14 : Class := { plain "com/example/slotwright/slotwright/sched/TaskKind" (some 11) with
  accessFlags := 16433
  interfaces := #[]
  cf := some (fileOf pool14 1 #[] #[] 16433 20 #[] #[{ accessFlags := 16409, nameIndex := 5, descriptorIndex := 6, attributes := #[] }, { accessFlags := 16409, nameIndex := 9, descriptorIndex := 6, attributes := #[] }, { accessFlags := 4122, nameIndex := 12, descriptorIndex := 13, attributes := #[] }])
  fields := #[{ name := "MAP", type := (.object "com/example/slotwright/slotwright/sched/TaskKind"), accessFlags := 16409, slot := 0, constantValue := 0 }, { name := "REDUCE", type := (.object "com/example/slotwright/slotwright/sched/TaskKind"), accessFlags := 16409, slot := 1, constantValue := 0 }, { name := "$VALUES", type := (.array (.object "com/example/slotwright/slotwright/sched/TaskKind")), accessFlags := 4122, slot := 2, constantValue := 0 }]
  methods := #[]
  instanceTypes := #[(.object "java/lang/String"), .int, .int]
  staticTypes := #[(.object "com/example/slotwright/slotwright/sched/TaskKind"), (.object "com/example/slotwright/slotwright/sched/TaskKind"), (.array (.object "com/example/slotwright/slotwright/sched/TaskKind"))]
  resolved := Array.replicate 47 none
  statics := some 1 }

def pool15 : Array CpInfo := pool [(1, u "java/lang/Cloneable"), (0, .class_ 1), (0, u "java/lang/Object"), (0, .class_ 3)] 3

/-- java/lang/Cloneable -/
def k15 : Class := { plain "java/lang/Cloneable" (some 0) with
  accessFlags := 1537
  interfaces := #[]
  cf := some (fileOf pool15 2 #[] #[] 1537 4 #[] #[])
  fields := #[]
  methods := #[]
  instanceTypes := #[]
  staticTypes := #[]
  resolved := Array.replicate 8 none
  statics := none }

/-- the primitive byte -/
def k16 : Class := { plain "byte" none with kind := .primitive 'B', accessFlags := 0x411 }
/-- [B -/
def k17 : Class := { plain "[B" (some 0) with kind := .array 16 .byte, interfaces := #[15, 5], accessFlags := 1041 }

/-- the primitive int -/
def k18 : Class := { plain "int" none with kind := .primitive 'I', accessFlags := 0x411 }
/-- [I -/
def k19 : Class := { plain "[I" (some 0) with kind := .array 18 .int, interfaces := #[15, 5], accessFlags := 1041 }

/-- the primitive long -/
def k20 : Class := { plain "long" none with kind := .primitive 'J', accessFlags := 0x411 }
/-- [J -/
def k21 : Class := { plain "[J" (some 0) with kind := .array 20 .long, interfaces := #[15, 5], accessFlags := 1041 }

def heap : Heap := #[{ cls := 12, slots := #[.null, .null, .ref 2, .null, .null, .null], vm := .statics 12 },
  { cls := 14, slots := #[.ref 3, .ref 4, .null], vm := .statics 14 },
  { cls := 12, slots := #[.null, .int 2, .int 0], vm := .none },
  { cls := 14, slots := #[.null, .int 0, .int 0], vm := .none },
  { cls := 14, slots := #[.null, .int 1, .int 0], vm := .none }]
def classes : Array Class := #[k0, k1, k2, k3, k4, k5, k6, k7, k8, k9, k10, k11, k12, k13, k14, k15, k16, k17, k18, k19, k20, k21]
def interned : List (Array UInt16 × Addr) := []
def slotsUsed : Nat := 18
def theMethod : MethodId := ⟨1, 2⟩
def args0 : Array Value := #[.long 5, .long 6, .long 7, .long 8]
def aboutOver (below : List Frame) : State where
  vm := { classes := classes, interned := interned.toArray }
  heap := heap
  slotsUsed := slotsUsed
  threads := #[{ frames := .invoking theMethod args0 :: below }]
def below0 : List Frame := [.native { method := ⟨0, 0⟩, args := #[] }]
def about1 : State := aboutOver below0
def p0 : Program := .bare "" "" ""
def e0 : Env := launch0.env 0 0 0
theorem w_frames : about1.frames = Frame.invoking theMethod args0 :: below0 := rfl
set_option maxRecDepth 65536 in
theorem w_args : argsFit about1.vm theMethod args0 = true := by decide +kernel
set_option maxRecDepth 65536 in
theorem w_heap : heapFits about1 = true := by decide +kernel
set_option maxRecDepth 65536 in
theorem w_runnable : about1.curStatus? = some .runnable := by decide +kernel
set_option maxRecDepth 65536 in
theorem w_alone : about1.alone = true := by decide +kernel
set_option maxRecDepth 65536 in
theorem w_named : about1.methodNamed? x = some theMethod := by decide +kernel
set_option maxRecDepth 65536 in
theorem w_hears : about1.hears theMethod below0 = true := by decide +kernel
set_option maxRecDepth 65536 in
theorem w_ripe : about1.ripe theMethod args0 below0 = true := by decide +kernel
theorem w_running : about1.status = .running := rfl
set_option maxRecDepth 65536 in
theorem w_room : about1.hasRoom e0.platform room_1 = true :=
  launch0.hasRoom_least _ room_1 (by decide +kernel) (by decide +kernel) (by decide +kernel) (by decide +kernel) (by decide +kernel) (by decide +kernel)
theorem allAtoms_all (ts : List Jvm.Cond) (a : Array Jvm.Value) (st : Jvm.State) : (allAtoms ts).before a st = ts.all (fun c => c.before a st) := by
  induction ts with
  | nil => rfl
  | cons c t ih =>
    show (Jvm.Cond.and c (allAtoms t)).before a st = _
    rw [Jvm.Cond.before_and, ih, List.all_cons]
def words1 : List Jvm.Cond := Jvm.Cond.code x code maxLocals ret :: tables_1
/-- a 'code' word, met by the world's own term for the bytes: nothing is compared byte by byte -/
theorem code_word {y : MethodName} {bytes : ByteArray} {mx : Nat} {rt : Option FieldType} {a : Array Value} {s : State} {m : MethodId} {meth : Method} {c : Code} (h1 : s.methodNamed? y = some m) (h2 : s.vm.method? m = some meth) (h3 : meth.code = some c) (h4 : c.code = bytes)
    (h5 : (c.maxLocals == mx && c.exceptionTable.isEmpty && decide (c.maxStack ≤ mostOperands) && decide (meth.sig.returnType = rt) && !meth.locks && decide (parseMethodDescriptor y.desc = some meth.sig)) = true) : (Jvm.Cond.code y bytes mx rt).before a s = true := by
  simp only [Bool.and_eq_true, beq_iff_eq, Bool.not_eq_true', decide_eq_true_eq] at h5
  obtain ⟨⟨⟨⟨⟨g1, g2⟩, g3⟩, g4⟩, g5⟩, g6⟩ := h5
  simp [Cond.before, Cond.holds, Cond.value, h1, h2, h3, h4, g1, g2, g3, g4, g5, g6]
def isCode : Jvm.Cond → Bool
  | .code _ _ _ _ => true
  | _ => false
theorem all_split {L : List Jvm.Cond} {P : Jvm.Cond → Bool} (h1 : L.all (fun c => isCode c || P c) = true) (h2 : ∀ c ∈ L.filter isCode, P c = true) : L.all P = true := by
  refine List.all_eq_true.mpr fun c hc => ?_
  have h := List.all_eq_true.mp h1 c hc
  rcases Bool.eq_false_or_eq_true (isCode c) with hi | hi
  · exact h2 c (List.mem_filter.mpr ⟨hc, hi⟩)
  · simpa [hi] using h
set_option maxRecDepth 65536 in
theorem w_c0 : (Jvm.Cond.code x code maxLocals ret).before args0 about1 = true := code_word (m := ⟨1, 2⟩) (meth := k1m2) (c := k1c2) (by decide +kernel) rfl rfl rfl (by decide +kernel)
set_option maxRecDepth 65536 in
theorem w_c1 : (Jvm.Cond.code ({ cls := "com/example/slotwright/slotwright/sched/TaskMemorySizesSlotsPinLaw", name := "mb", desc := "(J)J" } : Jvm.MethodName) method_2_code (2 : Nat) (Option.some Jvm.ClassFile.FieldType.long)).before args0 about1 = true := code_word (m := ⟨1, 1⟩) (meth := k1m1) (c := k1c1) (by decide +kernel) rfl rfl rfl (by decide +kernel)
set_option maxRecDepth 65536 in
theorem w_c2 : (Jvm.Cond.code ({ cls := "com/example/slotwright/slotwright/sched/TaskMemory", name := "<init>", desc := "(JJJJJJ)V" } : Jvm.MethodName) prog_148_method_1_code (18 : Nat) (Option.none : Option Jvm.ClassFile.FieldType)).before args0 about1 = true := code_word (m := ⟨3, 0⟩) (meth := k3m0) (c := k3c0) (by decide +kernel) rfl rfl rfl (by decide +kernel)
set_option maxRecDepth 65536 in
theorem w_c3 : (Jvm.Cond.code ({ cls := "java/lang/Record", name := "<init>", desc := "()V" } : Jvm.MethodName) jdk_30_method_1_code (1 : Nat) (Option.none : Option Jvm.ClassFile.FieldType)).before args0 about1 = true := code_word (m := ⟨2, 0⟩) (meth := k2m0) (c := k2c0) (by decide +kernel) rfl rfl rfl (by decide +kernel)
set_option maxRecDepth 65536 in
theorem w_c4 : (Jvm.Cond.code ({ cls := "java/lang/Object", name := "<init>", desc := "()V" } : Jvm.MethodName) object_method_1_code (1 : Nat) (Option.none : Option Jvm.ClassFile.FieldType)).before args0 about1 = true := code_word (m := ⟨0, 0⟩) (meth := k0m0) (c := k0c0) (by decide +kernel) rfl rfl rfl (by decide +kernel)
set_option maxRecDepth 65536 in
theorem w_c5 : (Jvm.Cond.code ({ cls := "com/example/slotwright/slotwright/sched/JobSpec", name := "<init>", desc := "(Ljava/lang/String;Ljava/lang/String;Ljava/lang/String;II)V" } : Jvm.MethodName) prog_102_method_4_code (6 : Nat) (Option.none : Option Jvm.ClassFile.FieldType)).before args0 about1 = true := code_word (m := ⟨4, 3⟩) (meth := k4m3) (c := k4c3) (by decide +kernel) rfl rfl rfl (by decide +kernel)
set_option maxRecDepth 65536 in
theorem w_c6 : (Jvm.Cond.code ({ cls := "com/example/slotwright/slotwright/sched/JobSpec", name := "<init>", desc := "(Ljava/lang/String;Ljava/lang/String;Ljava/lang/String;IILcom/example/slotwright/slotwright/sched/JobPriority;)V" } : Jvm.MethodName) prog_102_method_3_code (7 : Nat) (Option.none : Option Jvm.ClassFile.FieldType)).before args0 about1 = true := code_word (m := ⟨4, 2⟩) (meth := k4m2) (c := k4c2) (by decide +kernel) rfl rfl rfl (by decide +kernel)
set_option maxRecDepth 65536 in
theorem w_c7 : (Jvm.Cond.code ({ cls := "com/example/slotwright/slotwright/sched/JobSpec", name := "<init>", desc := "(Ljava/lang/String;Ljava/lang/String;Ljava/lang/String;IILcom/example/slotwright/slotwright/sched/JobPriority;JJ)V" } : Jvm.MethodName) prog_102_method_2_code (11 : Nat) (Option.none : Option Jvm.ClassFile.FieldType)).before args0 about1 = true := code_word (m := ⟨4, 1⟩) (meth := k4m1) (c := k4c1) (by decide +kernel) rfl rfl rfl (by decide +kernel)
set_option maxRecDepth 65536 in
theorem w_c8 : (Jvm.Cond.code ({ cls := "com/example/slotwright/slotwright/sched/JobSpec", name := "<init>", desc := "(Ljava/lang/String;Ljava/lang/String;Ljava/lang/String;IILcom/example/slotwright/slotwright/sched/JobPriority;JJJLjava/lang/String;)V" } : Jvm.MethodName) prog_102_method_1_code (19 : Nat) (Option.none : Option Jvm.ClassFile.FieldType)).before args0 about1 = true := code_word (m := ⟨4, 0⟩) (meth := k4m0) (c := k4c0) (by decide +kernel) rfl rfl rfl (by decide +kernel)
set_option maxRecDepth 65536 in
theorem w_c9 : (Jvm.Cond.code ({ cls := "java/util/Objects", name := "requireNonNull", desc := "(Ljava/lang/Object;Ljava/lang/String;)Ljava/lang/Object;" } : Jvm.MethodName) jdk_31_method_11_code (2 : Nat) (Option.some (Jvm.ClassFile.FieldType.object "java/lang/Object"))).before args0 about1 = true := code_word (m := ⟨13, 1⟩) (meth := k13m1) (c := k13c1) (by decide +kernel) rfl rfl rfl (by decide +kernel)
set_option maxRecDepth 65536 in
theorem w_c10 : (Jvm.Cond.code ({ cls := "com/example/slotwright/slotwright/sched/TaskMemory", name := "sizesSlots", desc := "()Z" } : Jvm.MethodName) prog_148_method_4_code (1 : Nat) (Option.some Jvm.ClassFile.FieldType.boolean)).before args0 about1 = true := code_word (m := ⟨3, 2⟩) (meth := k3m2) (c := k3c2) (by decide +kernel) rfl rfl rfl (by decide +kernel)
set_option maxRecDepth 65536 in
theorem w_c11 : (Jvm.Cond.code ({ cls := "com/example/slotwright/slotwright/sched/TaskMemory", name := "slots", desc := "(Lcom/example/slotwright/slotwright/sched/TaskKind;Lcom/example/slotwright/slotwright/sched/JobSpec;)J" } : Jvm.MethodName) prog_148_method_6_code (7 : Nat) (Option.some Jvm.ClassFile.FieldType.long)).before args0 about1 = true := code_word (m := ⟨3, 4⟩) (meth := k3m4) (c := k3c4) (by decide +kernel) rfl rfl rfl (by decide +kernel)
set_option maxRecDepth 65536 in
theorem w_c12 : (Jvm.Cond.code ({ cls := "com/example/slotwright/slotwright/sched/TaskMemory", name := "askedMb", desc := "(Lcom/example/slotwright/slotwright/sched/TaskKind;Lcom/example/slotwright/slotwright/sched/JobSpec;)J" } : Jvm.MethodName) prog_148_method_5_code (5 : Nat) (Option.some Jvm.ClassFile.FieldType.long)).before args0 about1 = true := code_word (m := ⟨3, 3⟩) (meth := k3m3) (c := k3c3) (by decide +kernel) rfl rfl rfl (by decide +kernel)
set_option maxRecDepth 65536 in
theorem w_c13 : (Jvm.Cond.code ({ cls := "com/example/slotwright/slotwright/sched/JobSpec", name := "memoryMb", desc := "(Lcom/example/slotwright/slotwright/sched/TaskKind;)J" } : Jvm.MethodName) prog_102_method_9_code (2 : Nat) (Option.some Jvm.ClassFile.FieldType.long)).before args0 about1 = true := code_word (m := ⟨4, 4⟩) (meth := k4m4) (c := k4c4) (by decide +kernel) rfl rfl rfl (by decide +kernel)
set_option maxRecDepth 65536 in
theorem w_c14 : (Jvm.Cond.code ({ cls := "com/example/slotwright/slotwright/sched/TaskMemory", name := "slotMb", desc := "(Lcom/example/slotwright/slotwright/sched/TaskKind;)J" } : Jvm.MethodName) prog_148_method_2_code (2 : Nat) (Option.some Jvm.ClassFile.FieldType.long)).before args0 about1 = true := code_word (m := ⟨3, 1⟩) (meth := k3m1) (c := k3c1) (by decide +kernel) rfl rfl rfl (by decide +kernel)
def codes1 : List Jvm.Cond := [Jvm.Cond.code x code maxLocals ret, Jvm.Cond.code ({ cls := "com/example/slotwright/slotwright/sched/TaskMemorySizesSlotsPinLaw", name := "mb", desc := "(J)J" } : Jvm.MethodName) method_2_code (2 : Nat) (Option.some Jvm.ClassFile.FieldType.long), Jvm.Cond.code ({ cls := "com/example/slotwright/slotwright/sched/TaskMemory", name := "<init>", desc := "(JJJJJJ)V" } : Jvm.MethodName) prog_148_method_1_code (18 : Nat) (Option.none : Option Jvm.ClassFile.FieldType), Jvm.Cond.code ({ cls := "java/lang/Record", name := "<init>", desc := "()V" } : Jvm.MethodName) jdk_30_method_1_code (1 : Nat) (Option.none : Option Jvm.ClassFile.FieldType), Jvm.Cond.code ({ cls := "java/lang/Object", name := "<init>", desc := "()V" } : Jvm.MethodName) object_method_1_code (1 : Nat) (Option.none : Option Jvm.ClassFile.FieldType), Jvm.Cond.code ({ cls := "com/example/slotwright/slotwright/sched/JobSpec", name := "<init>", desc := "(Ljava/lang/String;Ljava/lang/String;Ljava/lang/String;II)V" } : Jvm.MethodName) prog_102_method_4_code (6 : Nat) (Option.none : Option Jvm.ClassFile.FieldType), Jvm.Cond.code ({ cls := "com/example/slotwright/slotwright/sched/JobSpec", name := "<init>", desc := "(Ljava/lang/String;Ljava/lang/String;Ljava/lang/String;IILcom/example/slotwright/slotwright/sched/JobPriority;)V" } : Jvm.MethodName) prog_102_method_3_code (7 : Nat) (Option.none : Option Jvm.ClassFile.FieldType), Jvm.Cond.code ({ cls := "com/example/slotwright/slotwright/sched/JobSpec", name := "<init>", desc := "(Ljava/lang/String;Ljava/lang/String;Ljava/lang/String;IILcom/example/slotwright/slotwright/sched/JobPriority;JJ)V" } : Jvm.MethodName) prog_102_method_2_code (11 : Nat) (Option.none : Option Jvm.ClassFile.FieldType), Jvm.Cond.code ({ cls := "com/example/slotwright/slotwright/sched/JobSpec", name := "<init>", desc := "(Ljava/lang/String;Ljava/lang/String;Ljava/lang/String;IILcom/example/slotwright/slotwright/sched/JobPriority;JJJLjava/lang/String;)V" } : Jvm.MethodName) prog_102_method_1_code (19 : Nat) (Option.none : Option Jvm.ClassFile.FieldType), Jvm.Cond.code ({ cls := "java/util/Objects", name := "requireNonNull", desc := "(Ljava/lang/Object;Ljava/lang/String;)Ljava/lang/Object;" } : Jvm.MethodName) jdk_31_method_11_code (2 : Nat) (Option.some (Jvm.ClassFile.FieldType.object "java/lang/Object")), Jvm.Cond.code ({ cls := "com/example/slotwright/slotwright/sched/TaskMemory", name := "sizesSlots", desc := "()Z" } : Jvm.MethodName) prog_148_method_4_code (1 : Nat) (Option.some Jvm.ClassFile.FieldType.boolean), Jvm.Cond.code ({ cls := "com/example/slotwright/slotwright/sched/TaskMemory", name := "slots", desc := "(Lcom/example/slotwright/slotwright/sched/TaskKind;Lcom/example/slotwright/slotwright/sched/JobSpec;)J" } : Jvm.MethodName) prog_148_method_6_code (7 : Nat) (Option.some Jvm.ClassFile.FieldType.long), Jvm.Cond.code ({ cls := "com/example/slotwright/slotwright/sched/TaskMemory", name := "askedMb", desc := "(Lcom/example/slotwright/slotwright/sched/TaskKind;Lcom/example/slotwright/slotwright/sched/JobSpec;)J" } : Jvm.MethodName) prog_148_method_5_code (5 : Nat) (Option.some Jvm.ClassFile.FieldType.long), Jvm.Cond.code ({ cls := "com/example/slotwright/slotwright/sched/JobSpec", name := "memoryMb", desc := "(Lcom/example/slotwright/slotwright/sched/TaskKind;)J" } : Jvm.MethodName) prog_102_method_9_code (2 : Nat) (Option.some Jvm.ClassFile.FieldType.long), Jvm.Cond.code ({ cls := "com/example/slotwright/slotwright/sched/TaskMemory", name := "slotMb", desc := "(Lcom/example/slotwright/slotwright/sched/TaskKind;)J" } : Jvm.MethodName) prog_148_method_2_code (2 : Nat) (Option.some Jvm.ClassFile.FieldType.long)]
set_option maxRecDepth 65536 in
theorem codes_eq : words1.filter isCode = codes1 := rfl
theorem w_codes : ∀ c ∈ words1.filter isCode, c.before args0 about1 = true := by
  rw [codes_eq]
  intro c hc
  simp only [codes1, List.mem_cons, List.not_mem_nil, or_false] at hc
  rcases hc with rfl | rfl | rfl | rfl | rfl | rfl | rfl | rfl | rfl | rfl | rfl | rfl | rfl | rfl | rfl
  · exact w_c0
  · exact w_c1
  · exact w_c2
  · exact w_c3
  · exact w_c4
  · exact w_c5
  · exact w_c6
  · exact w_c7
  · exact w_c8
  · exact w_c9
  · exact w_c10
  · exact w_c11
  · exact w_c12
  · exact w_c13
  · exact w_c14
set_option maxRecDepth 65536 in
theorem w_t1 : (words1.take 24).all (fun c => isCode c || c.before args0 about1) = true := by decide +kernel
set_option maxRecDepth 65536 in
theorem w_t2 : ((words1.drop 24).take 24).all (fun c => isCode c || c.before args0 about1) = true := by decide +kernel
set_option maxRecDepth 65536 in
theorem w_t3 : (((words1.drop 24).drop 24).take 24).all (fun c => isCode c || c.before args0 about1) = true := by decide +kernel
set_option maxRecDepth 65536 in
theorem w_t4 : ((((words1.drop 24).drop 24).drop 24).take 24).all (fun c => isCode c || c.before args0 about1) = true := by decide +kernel
set_option maxRecDepth 65536 in
theorem w_t5 : (((((words1.drop 24).drop 24).drop 24).drop 24).take 24).all (fun c => isCode c || c.before args0 about1) = true := by decide +kernel
set_option maxRecDepth 65536 in
theorem w_t6 : (((((words1.drop 24).drop 24).drop 24).drop 24).drop 24).all (fun c => isCode c || c.before args0 about1) = true := by decide +kernel
theorem w_tables : (allAtoms (Jvm.Cond.code x code maxLocals ret :: tables_1)).before args0 about1 = true := by
  rw [allAtoms_all]
  show words1.all (fun c => c.before args0 about1) = true
  refine all_split ?_ w_codes
  rw [← List.take_append_drop 24 words1, List.all_append, w_t1, ← List.take_append_drop 24 (words1.drop 24), List.all_append, w_t2, ← List.take_append_drop 24 ((words1.drop 24).drop 24), List.all_append, w_t3, ← List.take_append_drop 24 (((words1.drop 24).drop 24).drop 24), List.all_append, w_t4, ← List.take_append_drop 24 ((((words1.drop 24).drop 24).drop 24).drop 24), List.all_append, w_t5, w_t6]
  rfl
set_option maxRecDepth 65536 in
theorem w_case : (Jvm.Cond.and given_1 narrow_1).before args0 about1 = true := by decide +kernel
theorem w_applies : (headSpec (Jvm.Cond.code x code maxLocals ret :: tables_1) room_1).applies x e0.platform about1 = true :=
  (Spec.applies_iff w_frames).mpr ⟨w_running, w_runnable, w_alone, w_named, w_hears, w_ripe, w_room, w_tables⟩
theorem atStart : AtStart classFile x code maxLocals ret World_1 tables_1 room_1 Calls_1 rest_1 Pre_1 launch0 p0 e0 about1 theMethod args0 below0 :=
  ⟨lists_1, trivial, launch0.admits_env _ _ _, launch0.least_env, fairChoices_fair.cas, fairChoices_fair.clock, w_frames, w_args, w_heap, w_applies, trivial, trivial, w_case⟩
end start1
theorem witness_1 : WitnessClaimed_1 := ⟨start1.p0, start1.e0, start1.about1, start1.theMethod, start1.args0, start1.below0, start1.atStart⟩
end Jvm.Pilot.@@N@@
