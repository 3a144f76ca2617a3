import JvmDerived
import JvmDerived.Pilot.@@N@@Statement
import JvmDerived.Pilot.@@N@@Code
set_option linter.unusedVariables false
set_option linter.unusedSimpArgs false
@@BLOCK:TracedD.lean.txt@@
namespace Jvm.Own
open Jvm Jvm.ClassFile Sem Op Lib Jvm.Free Jvm.Stand Jvm.LawKit Jvm.RoadKit
/-! OWN KIT 1: a walk as a weakest precondition. 'Go pc L st h ss k n': from any state of this invocation that stands at pc with locals L, stack st, heap h, the writable addresses ss, k cells and n slots made so far, the run ends as Q says. -/
abbrev IV : Type := Program × Launch × Env × Room × State × MethodId × Array Value × List Frame × Method × Code
abbrev IV.p (K : IV) : Program := K.1
abbrev IV.l (K : IV) : Launch := K.2.1
abbrev IV.e (K : IV) : Env := K.2.2.1
abbrev IV.R (K : IV) : Room := K.2.2.2.1
abbrev IV.s (K : IV) : State := K.2.2.2.2.1
abbrev IV.m (K : IV) : MethodId := K.2.2.2.2.2.1
abbrev IV.args (K : IV) : Array Value := K.2.2.2.2.2.2.1
abbrev IV.below (K : IV) : List Frame := K.2.2.2.2.2.2.2.1
abbrev IV.meth (K : IV) : Method := K.2.2.2.2.2.2.2.2.1
abbrev IV.c (K : IV) : Code := K.2.2.2.2.2.2.2.2.2
def Sf (Z : State) (EL : List (String × Nat)) (n0 : Nat) (vm : Vm) (h : Heap) (ss0 : List Addr) (h0 : Heap) (ss : List Addr) : Prop := ∀ x ∈ ss, n0 ≤ x ∧ x < h.size ∧ Safe Z EL vm h x ∧ (x ∈ ss0 ∨ h0.size ≤ x)
def EndW (w : Bool) (s : State) (o : Outcome) (t : State) (L : List Loc) (k n : Nat) : Prop := match w with
  | true => ReturnedEndW s o t L k n
  | false => FrameEnd s o t L k n
def Here (w : Bool) (K : IV) (Z : State) (EL : List (String × Nat)) (n0 : Nat) (ss0 : List Addr) (T : State) (h : Heap) (ss : List Addr) (k n : Nat) : Prop :=
  ∃ (vm0 : Vm) (locs : List Loc) (k0 : Nat), Stand K.p K.l K.e K.R (K.s.setVm vm0) K.m K.args K.below K.meth K.c T locs k n ∧ Fr n0 locs ∧ T.heap = h ∧ K.s.Since vm0 k0 ∧ k0 ≤ h.size ∧ Z.Warmed39 vm0 ∧ (w = false → vm0 = K.s.vm) ∧ CHr Z EL K.s.vm K.s.heap vm0 h ∧ Sf Z EL n0 vm0 h ss0 K.s.heap ss ∧ Old Z n0 h ∧ Keep K.s.heap h ss0
def Fns (w : Bool) (K : IV) (Z : State) (EL : List (String × Nat)) (n0 : Nat) (ss0 : List Addr) (Q : Option Value → Heap → List Addr → Prop) (u : State) : Prop :=
  ∃ (t : State) (v : Option Value) (L : List Loc) (gs : List Addr), Steps K.p.tables K.e K.below u t ∧ t.status = .running ∧ Ended t K.below (.returned v) ∧ Q v t.heap gs ∧ Fr n0 L ∧ CHr Z EL K.s.vm K.s.heap t.vm t.heap ∧ Keep K.s.heap t.heap ss0 ∧ Sf Z EL n0 t.vm t.heap ss0 K.s.heap gs ∧ Old Z n0 t.heap ∧ EndW w K.s (.returned v) t L K.R.cells K.R.slots
def Go (w : Bool) (K : IV) (Z : State) (EL : List (String × Nat)) (n0 : Nat) (ss0 : List Addr) (Q : Option Value → Heap → List Addr → Prop) (pc : Nat) (L : Array Slot) (st : List Value) (h : Heap) (ss : List Addr) (k n : Nat) : Prop :=
  ∀ T, Here w K Z EL n0 ss0 T h ss k n → Fns w K Z EL n0 ss0 Q (T.setTop (mkF K.m pc L st))
def Cx (w : Bool) (K : IV) (Z : State) (a0 : Array Value) (EL : List (String × Nat)) (own : String) (code : ByteArray) (ml : Nat) (rt : Option FieldType) (mn : String) (R : Room) : Prop :=
  K.p.tables.exec = Jvm.exec ∧ K.c.code = code ∧ K.c.maxLocals = ml ∧ K.s.vm.findClass own = some K.m.cls ∧ K.meth.sig.returnType = rt ∧ K.meth.locks = false ∧ K.meth.name = mn ∧ K.R = R ∧ EW Z a0 EL ∧ (w = false → EL = []) ∧ K.s.vm.MethodsKnown ∧ K.s.vm.FramesKnown K.below ∧ K.l.stackTraces = true
abbrev Rm (f c s l : Nat) : Room := { frames := f, cells := c, slots := s, locals := l }
def Con (w : Bool) (Z : State) (EL : List (String × Nat)) (n0 : Nat) (y : MethodName) (bytes : ByteArray) (ml : Nat) (rt : Option FieldType) (R : Room) (as : List Value) (h0 : Heap) (ss0 : List Addr) (Q : Option Value → Heap → List Addr → Prop) : Prop :=
  ∀ (l : Launch), l.stackTraces = true → ∀ (ws : List Cond), MetFree l y (head1 (Cond.code y bytes ml rt :: ws) R) (fun a U => a = as.toArray ∧ Z.Warmed39 U.vm ∧ U.heap = h0 ∧ CHv Z EL U.vm h0 ∧ ∀ x ∈ ss0, n0 ≤ x ∧ x < h0.size ∧ Safe Z EL U.vm h0 x) Jvm.Free.KnownK
    (fun _ U o U' => ∃ (v : Option Value) (L : List Loc) (gs : List Addr), o = .returned v ∧ Q v U'.heap gs ∧ Fr n0 L ∧ CHr Z EL U.vm h0 U'.vm U'.heap ∧ Keep h0 U'.heap ss0 ∧ Sf Z EL n0 U'.vm U'.heap ss0 h0 gs ∧ Old Z n0 U'.heap ∧ EndW w U o U' L R.cells R.slots)
theorem dle {a b : Nat} (h : Nat.ble a b = true) : a ≤ b := Nat.le_of_ble_eq_true h
theorem dlt {a b : Nat} (h : Nat.ble (a + 1) b = true) : a < b := Nat.le_of_ble_eq_true h
section Kit
variable {w : Bool} {K : IV} {Z : State} {a0 : Array Value} {EL : List (String × Nat)} {n0 : Nat} {ss0 ss : List Addr} {Q : Option Value → Heap → List Addr → Prop} {pc pc' pcT : Nat} {L L' : Array Slot} {st st' : List Value} {h h' : Heap} {k n : Nat} {own : String} {code : ByteArray} {ml : Nat} {rt : Option FieldType} {mn : String} {R : Room}
theorem chr_nil {vm vm' : Vm} (q : h.size ≤ h'.size) : CHr Z [] vm h vm' h' := ⟨fun _ hp => absurd hp List.not_mem_nil, q, fun y ⟨p, hp, _⟩ => absurd hp List.not_mem_nil⟩
theorem Fns.steps {u u' : State} (hs : ∀ t, Steps K.p.tables K.e K.below u' t → Steps K.p.tables K.e K.below u t) (F : Fns w K Z EL n0 ss0 Q u') : Fns w K Z EL n0 ss0 Q u := by
  obtain ⟨t, v, L, gs, h1, r⟩ := F
  exact ⟨t, v, L, gs, hs t h1, r⟩
theorem Go.plain (hs : ∀ {T : State}, At T K.m K.c K.below → ∀ t, Steps K.p.tables K.e K.below (T.setTop (mkF K.m pc' L' st')) t → Steps K.p.tables K.e K.below (T.setTop (mkF K.m pc L st)) t) (G : Go w K Z EL n0 ss0 Q pc' L' st' h ss k n) : Go w K Z EL n0 ss0 Q pc L st h ss k n := by
  intro T H
  have H' := H
  obtain ⟨vm0, locs, k0, X, -⟩ := H
  exact Fns.steps (hs X.here) (G T H')
theorem fcl {vm0 : Vm} {k0 : Nat} (C : Cx w K Z a0 EL own code ml rt mn R) (hS : K.s.Since vm0 k0) : vm0.findClass own = some K.m.cls := by
  rw [hS.1.alike.findClass]; exact C.2.2.2.1
/-- a step that moves the tables alone -/
theorem Go.same (C : Cx w K Z a0 EL own code ml rt mn R) (hs : ∀ {T : State} {vm0 : Vm} {locs : List Loc}, Stand K.p K.l K.e K.R (K.s.setVm vm0) K.m K.args K.below K.meth K.c T locs k n → T.heap = h → Z.Warmed39 (K.s.setVm vm0).vm → (K.s.setVm vm0).vm.findClass own = some K.m.cls → Ext Z.heap h →
      ∃ T', Stand K.p K.l K.e K.R (K.s.setVm vm0) K.m K.args K.below K.meth K.c T' locs k n ∧ T'.heap = h ∧ ∀ t, Steps K.p.tables K.e K.below (T'.setTop (mkF K.m pc' L' st')) t → Steps K.p.tables K.e K.below (T.setTop (mkF K.m pc L st)) t)
    (G : Go w K Z EL n0 ss0 Q pc' L' st' h ss k n) : Go w K Z EL n0 ss0 Q pc L st h ss k n := by
  intro T H
  obtain ⟨vm0, locs, k0, X, N, eT, hS, hk, hZ, hv, hC, hF, hO, hK⟩ := H
  obtain ⟨T', X', eT', st'⟩ := hs X eT hZ (fcl C hS) hO.2
  exact Fns.steps st' (G T' ⟨vm0, locs, k0, X', N, eT', hS, hk, hZ, hv, hC, hF, hO, hK⟩)
theorem Sf.ext {vm : Vm} {h0 : Heap} (E : Ext h h') (H : CHv Z EL vm h) (S : Sf Z EL n0 vm h ss0 h0 ss) : Sf Z EL n0 vm h' ss0 h0 ss := fun x hx => by
  obtain ⟨a, b, c, d⟩ := S x hx
  exact ⟨a, Nat.lt_of_lt_of_le b E.1, Safe.ext E H c, d⟩
/-- a step that makes one cell (or more) at the heap's end, the first at h.size -/
theorem Go.grow (C : Cx w K Z a0 EL own code ml rt mn R) {dk dn : Nat} {P : Heap → Prop} (hsz : ∀ h', P h' → h.size < h'.size) (hs : ∀ {T : State} {vm0 : Vm} {locs : List Loc}, Stand K.p K.l K.e K.R (K.s.setVm vm0) K.m K.args K.below K.meth K.c T locs k n → T.heap = h → Z.Warmed39 (K.s.setVm vm0).vm → (K.s.setVm vm0).vm.findClass own = some K.m.cls →
      ∃ T' h', Stand K.p K.l K.e K.R (K.s.setVm vm0) K.m K.args K.below K.meth K.c T' locs (k + dk) (n + dn) ∧ T'.heap = h' ∧ Ext h h' ∧ P h' ∧ ∀ t, Steps K.p.tables K.e K.below (T'.setTop (mkF K.m pc' L' st')) t → Steps K.p.tables K.e K.below (T.setTop (mkF K.m pc L st)) t)
    (G : ∀ h', Keep h h' [] → h.size < h'.size → n0 ≤ h.size → P h' → Go w K Z EL n0 ss0 Q pc' L' st' h' (h.size :: ss) (k + dk) (n + dn)) : Go w K Z EL n0 ss0 Q pc L st h ss k n := by
  intro T H
  obtain ⟨vm0, locs, k0, X, N, eT, hS, hk, hZ, hv, hC, hF, hO, hK⟩ := H
  obtain ⟨T', h', X', eT', E, hP, st'⟩ := hs X eT hZ (fcl C hS)
  have hn0 : n0 ≤ h.size := hO.1 ▸ hO.2.1
  refine Fns.steps st' (G h' ((Keep.refl h []).ext E) (hsz _ hP) hn0 hP T' ⟨vm0, locs, k0, X', N, eT', hS, Nat.le_trans hk E.1, hZ, hv, hC.trans (CHr.ext E hC.1), ?_, hO.ext E, hK.ext E⟩)
  intro x hx
  rcases List.mem_cons.mp hx with rfl | hx
  · exact ⟨hn0, hsz _ hP, Safe.ext E hC.1 (Safe.new (Nat.le_refl _)), Or.inr hK.1⟩
  · exact hF.ext E hC.1 x hx
/-- a step that writes one slot of a writable cell -/
theorem Go.write (C : Cx w K Z a0 EL own code ml rt mn R) {a : Addr} {sl : Nat} {v : Value} (ha : a ∈ ss) (hs : ∀ {T : State} {vm0 : Vm} {locs : List Loc}, Stand K.p K.l K.e K.R (K.s.setVm vm0) K.m K.args K.below K.meth K.c T locs k n → T.heap = h → Z.Warmed39 (K.s.setVm vm0).vm → (K.s.setVm vm0).vm.findClass own = some K.m.cls →
      ∃ T' h', Stand K.p K.l K.e K.R (K.s.setVm vm0) K.m K.args K.below K.meth K.c T' (locs ++ [⟨a, sl⟩]) k n ∧ T'.heap = h' ∧ Wr h h' a sl v ∧ ∀ t, Steps K.p.tables K.e K.below (T'.setTop (mkF K.m pc' L' st')) t → Steps K.p.tables K.e K.below (T.setTop (mkF K.m pc L st)) t)
    (G : ∀ h', Wr h h' a sl v → Go w K Z EL n0 ss0 Q pc' L' st' h' ss k n) : Go w K Z EL n0 ss0 Q pc L st h ss k n := by
  intro T H
  obtain ⟨vm0, locs, k0, X, N, eT, hS, hk, hZ, hv, hC, hF, hO, hK⟩ := H
  obtain ⟨T', h', X', eT', W, st'⟩ := hs X eT hZ (fcl C hS)
  obtain ⟨f1, f2, f3, f4⟩ := hF a ha
  refine Fns.steps st' (G h' W T' ⟨vm0, _, k0, X', Fr.snoc X' N f1, eT', hS, by rw [W.size]; exact hk, hZ, hv, hC.trans (CHr.wr W f3 hC.1), ?_, hO.wr W f1, hK.wr W f4⟩)
  intro x hx
  obtain ⟨g1, g2, g3, g4⟩ := hF x hx
  exact ⟨g1, by rw [W.size]; exact g2, Safe.wr W f3 hC.1 g3, g4⟩
/-- the end -/
theorem Go.leave (C : Cx w K Z a0 EL own code ml rt mn R) {v : Option Value} {gs : List Addr} (hv : rt = none → v = none) (hs : ∀ {T : State} {vm0 : Vm} {locs : List Loc}, Stand K.p K.l K.e K.R (K.s.setVm vm0) K.m K.args K.below K.meth K.c T locs k n → ∀ {fs : List Frame}, (∀ (f : JFrame) (acts : List Action), f.method = K.m → f.locked = none → f.entered = [] → (doReturn K.e (T.setTop f) acts v).1 = T.setFrames fs) →
      Steps K.p.tables K.e K.below (T.setTop (mkF K.m pc L st)) (T.setFrames fs)) (hQ : Q v h gs) (hg : ∀ x ∈ gs, x ∈ ss) (hc : k ≤ R.cells) (hn : n ≤ R.slots) : Go w K Z EL n0 ss0 Q pc L st h ss k n := by
  intro T H
  obtain ⟨vm0, locs, k0, X, N, eT, hS, hk, hZ, hw, hC, hF, hO, hK⟩ := H
  have hlk : K.meth.locks = false := C.2.2.2.2.2.1
  have hR : K.R = R := C.2.2.2.2.2.2.2.1
  have hrt : K.meth.sig.returnType = rt := C.2.2.2.2.1
  have A := CHv.at X hZ C.2.2.2.2.2.2.2.2.1 hC.1
  have hvm : ∀ fs, (T.setFrames fs).vm = T.vm := fun _ => rfl
  have hhp : ∀ fs, (T.setFrames fs).heap = h := fun _ => eT
  obtain ⟨fs, r1, r2, r3, r4, r5⟩ := X.leave (v := v) (fun q => hv (hrt ▸ q)) hlk
  refine ⟨T.setFrames fs, v, locs, gs, hs X r1, r2, r3, by rw [hhp]; exact hQ, N, by rw [hhp, hvm]; exact hC.trans A, by rw [hhp]; exact hK, ?_, by rw [hhp]; exact hO, ?_⟩
  · rw [hhp, hvm]
    intro x hx
    obtain ⟨g1, g2, g3, g4⟩ := hF x (hg x hx)
    exact ⟨g1, g2, A.safe g2 g3, g4⟩
  · cases w with
    | false =>
      obtain rfl := hw rfl
      exact ⟨⟨_, rfl⟩, r4, r5.mono (by rw [hR]; exact hc) (by rw [hR]; exact hn)⟩
    | true =>
      obtain ⟨a, b, c'⟩ := hS.ended (U := T.setFrames fs) r4 (by rw [hhp]; exact hk) r5
      exact ⟨⟨_, rfl⟩, a, b, c'.mono (by rw [hR]; exact hc) (by rw [hR]; exact hn)⟩
/-- a body's walk gives its contract -/
theorem Con.of {y : MethodName} {bytes : ByteArray} {as : List Value} {h0 : Heap} {L0 : Array Slot} (hpn : plainFor y = true) (hE : EW Z a0 EL) (hwE : w = false → EL = []) (hO : Old Z n0 h0) (hef : ∀ m, entryFrame m as.toArray ml = mkF m 0 L0 [])
    (B : ∀ K : IV, Cx w K Z a0 EL y.cls bytes ml rt y.name R → K.s.heap = h0 → Go w K Z EL n0 ss0 Q 0 L0 [] h0 ss0 0 0) : Con w Z EL n0 y bytes ml rt R as h0 ss0 Q := by
  intro l hst ws
  refine MetFree.of_bodySF hpn hisR ?_
  intro p e s m args below meth c s₁ Bd hml0 hP hK
  obtain ⟨rfl, hZ, hh, hCH, hss⟩ := hP
  have X0 : Stand p l e R s m as.toArray below meth c s₁ [] 0 0 := Stand.of_body Bd
  have e0 : s₁.heap = h0 := by rw [← hh, Bd.state]; rfl
  obtain ⟨t, v, L, gs, r1, r2, r3, r4, r5, r6, r7, r8, r9, r10⟩ := B (p, l, e, R, s, m, as.toArray, below, meth, c)
    ⟨Bd.exec, Bd.bytes, hml0, findClass_of_methodNamed Bd.named, Bd.returns, BodyLoose.notSynchronized Bd, (name_of_methodNamed Bd.named Bd.method).1, rfl, hE, hwE, hK.1, hK.2, hst⟩ hh s₁
    ⟨s.vm, [], s.heap.size, X0, Fr.nil n0, e0, State.WarmedH.since (State.WarmedH.refl s) _, by rw [hh]; exact Nat.le_refl _, hZ, fun _ => rfl, by show CHr Z EL s.vm s.heap s.vm h0; rw [hh]; exact CHr.refl hCH, fun x hx => ⟨(hss x hx).1, (hss x hx).2.1, (hss x hx).2.2, Or.inl hx⟩, hO, by show Keep s.heap h0 ss0; rw [hh]; exact Keep.refl _ _⟩
  refine ⟨t, _, castTop (hef m) r1, r2, r3, v, L, gs, rfl, r4, r5, ?_, ?_, ?_, r9, r10⟩
  · rw [← hh]; exact r6
  · rw [← hh]; exact r7
  · rw [← hh]; exact r8
end Kit
end Jvm.Own
namespace Jvm.Own
open Jvm Jvm.ClassFile Sem Op Lib Jvm.Free Jvm.Stand Jvm.LawKit Jvm.RoadKit
def Dc (code : ByteArray) (pc : Nat) (i : Instr) (len pc' : Nat) : Prop := decode code pc = .ok (i, len) ∧ pc + len = pc'
def Db (code : ByteArray) (pc : Nat) (i : Instr) (len pc' : Nat) (o : Int) (pcT : Nat) : Prop := decode code pc = .ok (i, len) ∧ pc + len = pc' ∧ 0 ≤ (pc : Int) + o ∧ ((pc : Int) + o).toNat = pcT
/-- Java's x >>> y -/
def ushr (x y : Int32) : Int32 := (x.toUInt32 >>> (y &&& 31).toUInt32).toInt32
def ushrL (x : Int64) (y : Int32) : Int64 := (x.toUInt64 >>> (y &&& 0x3f).toInt64.toUInt64).toInt64
section Ops
variable {w : Bool} {K : IV} {Z : State} {a0 : Array Value} {EL : List (String × Nat)} {n0 : Nat} {ss0 ss : List Addr} {Q : Option Value → Heap → List Addr → Prop} {pc pc' pcT : Nat} {L L' : Array Slot} {st st' : List Value} {h h' : Heap} {k n : Nat} {own : String} {code : ByteArray} {ml : Nat} {rt : Option FieldType} {mn : String} {rf rc rs rl : Nat}
theorem irem_mod (x y : Int32) : x - (x / y) * y = x % y := by
  apply Int32.toInt_inj.mp
  have h1 := Int32.le_toInt (x % y)
  have h2 := Int32.toInt_lt (x % y)
  rw [Int32.toInt_sub, Int32.toInt_mul, Int32.toInt_div, Int.bmod_mul_bmod, Int.sub_bmod_bmod, Int.mul_comm (x.toInt.tdiv y.toInt), ← Int.tmod_def, ← Int32.toInt_mod]
  exact Int.bmod_eq_of_le_mul_two (by omega) (by omega)
theorem iadd (C : Cx w K Z a0 EL own code ml rt mn (Rm rf rc rs rl)) {x y : Int32} (d : Dc code pc .iadd 1 pc')  (G : Go w K Z EL n0 ss0 Q pc' L (.int (x + y) :: st) h ss k n) : Go w K Z EL n0 ss0 Q pc L (.int y :: .int x :: st) h ss k n := by
  obtain ⟨d1, rfl⟩ := d
  exact Go.plain (fun X t r => XS.iadd X C.1 rfl (hb C.2.1 d1) rfl r) G
theorem isub (C : Cx w K Z a0 EL own code ml rt mn (Rm rf rc rs rl)) {x y : Int32} (d : Dc code pc .isub 1 pc')  (G : Go w K Z EL n0 ss0 Q pc' L (.int (x - y) :: st) h ss k n) : Go w K Z EL n0 ss0 Q pc L (.int y :: .int x :: st) h ss k n := by
  obtain ⟨d1, rfl⟩ := d
  exact Go.plain (fun X t r => XS.isub X C.1 rfl (hb C.2.1 d1) rfl r) G
theorem imul (C : Cx w K Z a0 EL own code ml rt mn (Rm rf rc rs rl)) {x y : Int32} (d : Dc code pc .imul 1 pc')  (G : Go w K Z EL n0 ss0 Q pc' L (.int (x * y) :: st) h ss k n) : Go w K Z EL n0 ss0 Q pc L (.int y :: .int x :: st) h ss k n := by
  obtain ⟨d1, rfl⟩ := d
  exact Go.plain (fun X t r => XS.imul X C.1 rfl (hb C.2.1 d1) rfl r) G
theorem iand (C : Cx w K Z a0 EL own code ml rt mn (Rm rf rc rs rl)) {x y : Int32} (d : Dc code pc .iand 1 pc')  (G : Go w K Z EL n0 ss0 Q pc' L (.int (x &&& y) :: st) h ss k n) : Go w K Z EL n0 ss0 Q pc L (.int y :: .int x :: st) h ss k n := by
  obtain ⟨d1, rfl⟩ := d
  exact Go.plain (fun X t r => XS.iand X C.1 rfl (hb C.2.1 d1) rfl r) G
theorem ior (C : Cx w K Z a0 EL own code ml rt mn (Rm rf rc rs rl)) {x y : Int32} (d : Dc code pc .ior 1 pc')  (G : Go w K Z EL n0 ss0 Q pc' L (.int (x ||| y) :: st) h ss k n) : Go w K Z EL n0 ss0 Q pc L (.int y :: .int x :: st) h ss k n := by
  obtain ⟨d1, rfl⟩ := d
  exact Go.plain (fun X t r => XS.ior X C.1 rfl (hb C.2.1 d1) rfl r) G
theorem ixor (C : Cx w K Z a0 EL own code ml rt mn (Rm rf rc rs rl)) {x y : Int32} (d : Dc code pc .ixor 1 pc')  (G : Go w K Z EL n0 ss0 Q pc' L (.int (x ^^^ y) :: st) h ss k n) : Go w K Z EL n0 ss0 Q pc L (.int y :: .int x :: st) h ss k n := by
  obtain ⟨d1, rfl⟩ := d
  exact Go.plain (fun X t r => XS.ixor X C.1 rfl (hb C.2.1 d1) rfl r) G
theorem ishl (C : Cx w K Z a0 EL own code ml rt mn (Rm rf rc rs rl)) {x y : Int32} (d : Dc code pc .ishl 1 pc')  (G : Go w K Z EL n0 ss0 Q pc' L (.int (x <<< (y &&& 31)) :: st) h ss k n) : Go w K Z EL n0 ss0 Q pc L (.int y :: .int x :: st) h ss k n := by
  obtain ⟨d1, rfl⟩ := d
  exact Go.plain (fun X t r => XS.ishl X C.1 rfl (hb C.2.1 d1) rfl r) G
theorem ishr (C : Cx w K Z a0 EL own code ml rt mn (Rm rf rc rs rl)) {x y : Int32} (d : Dc code pc .ishr 1 pc')  (G : Go w K Z EL n0 ss0 Q pc' L (.int (x >>> (y &&& 31)) :: st) h ss k n) : Go w K Z EL n0 ss0 Q pc L (.int y :: .int x :: st) h ss k n := by
  obtain ⟨d1, rfl⟩ := d
  exact Go.plain (fun X t r => XS.ishr X C.1 rfl (hb C.2.1 d1) rfl r) G
theorem iushr (C : Cx w K Z a0 EL own code ml rt mn (Rm rf rc rs rl)) {x y : Int32} (d : Dc code pc .iushr 1 pc')  (G : Go w K Z EL n0 ss0 Q pc' L (.int (ushr x y) :: st) h ss k n) : Go w K Z EL n0 ss0 Q pc L (.int y :: .int x :: st) h ss k n := by
  obtain ⟨d1, rfl⟩ := d
  exact Go.plain (fun X t r => XS.iushr X C.1 rfl (hb C.2.1 d1) rfl r) G
theorem ladd (C : Cx w K Z a0 EL own code ml rt mn (Rm rf rc rs rl)) {x y : Int64} (d : Dc code pc .ladd 1 pc')  (G : Go w K Z EL n0 ss0 Q pc' L (.long (x + y) :: st) h ss k n) : Go w K Z EL n0 ss0 Q pc L (.long y :: .long x :: st) h ss k n := by
  obtain ⟨d1, rfl⟩ := d
  exact Go.plain (fun X t r => XS.ladd X C.1 rfl (hb C.2.1 d1) rfl r) G
theorem lsub (C : Cx w K Z a0 EL own code ml rt mn (Rm rf rc rs rl)) {x y : Int64} (d : Dc code pc .lsub 1 pc')  (G : Go w K Z EL n0 ss0 Q pc' L (.long (x - y) :: st) h ss k n) : Go w K Z EL n0 ss0 Q pc L (.long y :: .long x :: st) h ss k n := by
  obtain ⟨d1, rfl⟩ := d
  exact Go.plain (fun X t r => XS.lsub X C.1 rfl (hb C.2.1 d1) rfl r) G
theorem lmul (C : Cx w K Z a0 EL own code ml rt mn (Rm rf rc rs rl)) {x y : Int64} (d : Dc code pc .lmul 1 pc')  (G : Go w K Z EL n0 ss0 Q pc' L (.long (x * y) :: st) h ss k n) : Go w K Z EL n0 ss0 Q pc L (.long y :: .long x :: st) h ss k n := by
  obtain ⟨d1, rfl⟩ := d
  exact Go.plain (fun X t r => XS.lmul X C.1 rfl (hb C.2.1 d1) rfl r) G
theorem land (C : Cx w K Z a0 EL own code ml rt mn (Rm rf rc rs rl)) {x y : Int64} (d : Dc code pc .land 1 pc')  (G : Go w K Z EL n0 ss0 Q pc' L (.long (x &&& y) :: st) h ss k n) : Go w K Z EL n0 ss0 Q pc L (.long y :: .long x :: st) h ss k n := by
  obtain ⟨d1, rfl⟩ := d
  exact Go.plain (fun X t r => XS.land X C.1 rfl (hb C.2.1 d1) rfl r) G
theorem lor (C : Cx w K Z a0 EL own code ml rt mn (Rm rf rc rs rl)) {x y : Int64} (d : Dc code pc .lor 1 pc')  (G : Go w K Z EL n0 ss0 Q pc' L (.long (x ||| y) :: st) h ss k n) : Go w K Z EL n0 ss0 Q pc L (.long y :: .long x :: st) h ss k n := by
  obtain ⟨d1, rfl⟩ := d
  exact Go.plain (fun X t r => XS.lor X C.1 rfl (hb C.2.1 d1) rfl r) G
theorem lushr (C : Cx w K Z a0 EL own code ml rt mn (Rm rf rc rs rl)) {x : Int64} {y : Int32} (d : Dc code pc .lushr 1 pc')  (G : Go w K Z EL n0 ss0 Q pc' L (.long (ushrL x y) :: st) h ss k n) : Go w K Z EL n0 ss0 Q pc L (.int y :: .long x :: st) h ss k n := by
  obtain ⟨d1, rfl⟩ := d
  exact Go.plain (fun X t r => XS.lushr X C.1 rfl (hb C.2.1 d1) rfl r) G
theorem idiv (C : Cx w K Z a0 EL own code ml rt mn (Rm rf rc rs rl)) {x y : Int32} (d : Dc code pc .idiv 1 pc') (hy : y ≠ 0) (G : Go w K Z EL n0 ss0 Q pc' L (.int (x / y) :: st) h ss k n) : Go w K Z EL n0 ss0 Q pc L (.int y :: .int x :: st) h ss k n := by
  obtain ⟨d1, rfl⟩ := d
  exact Go.plain (fun X t r => XS.idiv X C.1 rfl (hb C.2.1 d1) rfl hy r) G
theorem irem (C : Cx w K Z a0 EL own code ml rt mn (Rm rf rc rs rl)) {x y : Int32} (d : Dc code pc .irem 1 pc') (hy : y ≠ 0) (G : Go w K Z EL n0 ss0 Q pc' L (.int (x % y) :: st) h ss k n) : Go w K Z EL n0 ss0 Q pc L (.int y :: .int x :: st) h ss k n := by
  obtain ⟨d1, rfl⟩ := d
  rw [← irem_mod] at G
  exact Go.plain (fun X t r => XS.irem X C.1 rfl (hb C.2.1 d1) rfl hy r) G
theorem lrem (C : Cx w K Z a0 EL own code ml rt mn (Rm rf rc rs rl)) {x y : Int64} (d : Dc code pc .lrem 1 pc') (hy : y ≠ 0) (G : Go w K Z EL n0 ss0 Q pc' L (.long (x % y) :: st) h ss k n) : Go w K Z EL n0 ss0 Q pc L (.long y :: .long x :: st) h ss k n := by
  obtain ⟨d1, rfl⟩ := d
  rw [← lrem_mod] at G
  exact Go.plain (fun X t r => XS.lrem X C.1 rfl (hb C.2.1 d1) rfl hy r) G
theorem lcmp (C : Cx w K Z a0 EL own code ml rt mn (Rm rf rc rs rl)) {x y : Int64} (d : Dc code pc .lcmp 1 pc')  (G : Go w K Z EL n0 ss0 Q pc' L (.int (lcmpW x y) :: st) h ss k n) : Go w K Z EL n0 ss0 Q pc L (.long y :: .long x :: st) h ss k n := by
  obtain ⟨d1, rfl⟩ := d
  exact Go.plain (fun X t r => XS.lcmp X C.1 rfl (hb C.2.1 d1) rfl r) G
theorem ineg (C : Cx w K Z a0 EL own code ml rt mn (Rm rf rc rs rl)) {x : Int32} (d : Dc code pc .ineg 1 pc')  (G : Go w K Z EL n0 ss0 Q pc' L (.int (-x) :: st) h ss k n) : Go w K Z EL n0 ss0 Q pc L (.int x :: st) h ss k n := by
  obtain ⟨d1, rfl⟩ := d
  exact Go.plain (fun X t r => XS.ineg X C.1 rfl (hb C.2.1 d1) rfl r) G
theorem l2i (C : Cx w K Z a0 EL own code ml rt mn (Rm rf rc rs rl)) {x : Int64} (d : Dc code pc .l2i 1 pc')  (G : Go w K Z EL n0 ss0 Q pc' L (.int x.toInt32 :: st) h ss k n) : Go w K Z EL n0 ss0 Q pc L (.long x :: st) h ss k n := by
  obtain ⟨d1, rfl⟩ := d
  exact Go.plain (fun X t r => XS.l2i X C.1 rfl (hb C.2.1 d1) rfl r) G
theorem i2l (C : Cx w K Z a0 EL own code ml rt mn (Rm rf rc rs rl)) {x : Int32} (d : Dc code pc .i2l 1 pc')  (G : Go w K Z EL n0 ss0 Q pc' L (.long x.toInt64 :: st) h ss k n) : Go w K Z EL n0 ss0 Q pc L (.int x :: st) h ss k n := by
  obtain ⟨d1, rfl⟩ := d
  exact Go.plain (fun X t r => XS.i2l X C.1 rfl (hb C.2.1 d1) rfl r) G
theorem i2c (C : Cx w K Z a0 EL own code ml rt mn (Rm rf rc rs rl)) {x : Int32} (d : Dc code pc .i2c 1 pc')  (G : Go w K Z EL n0 ss0 Q pc' L (.int (nar .char x) :: st) h ss k n) : Go w K Z EL n0 ss0 Q pc L (.int x :: st) h ss k n := by
  obtain ⟨d1, rfl⟩ := d
  exact Go.plain (fun X t r => XS.i2c X C.1 rfl (hb C.2.1 d1) rfl r) G
theorem i2b (C : Cx w K Z a0 EL own code ml rt mn (Rm rf rc rs rl)) {x : Int32} (d : Dc code pc .i2b 1 pc')  (G : Go w K Z EL n0 ss0 Q pc' L (.int (nar .byte x) :: st) h ss k n) : Go w K Z EL n0 ss0 Q pc L (.int x :: st) h ss k n := by
  obtain ⟨d1, rfl⟩ := d
  exact Go.plain (fun X t r => XS.i2b X C.1 rfl (hb C.2.1 d1) rfl r) G
theorem i2s (C : Cx w K Z a0 EL own code ml rt mn (Rm rf rc rs rl)) {x : Int32} (d : Dc code pc .i2s 1 pc')  (G : Go w K Z EL n0 ss0 Q pc' L (.int (nar .short x) :: st) h ss k n) : Go w K Z EL n0 ss0 Q pc L (.int x :: st) h ss k n := by
  obtain ⟨d1, rfl⟩ := d
  exact Go.plain (fun X t r => XS.i2s X C.1 rfl (hb C.2.1 d1) rfl r) G
theorem dup (C : Cx w K Z a0 EL own code ml rt mn (Rm rf rc rs rl)) {x : Value} (d : Dc code pc .dup 1 pc') (hc : x.category = 1) (G : Go w K Z EL n0 ss0 Q pc' L (x :: x :: st) h ss k n) : Go w K Z EL n0 ss0 Q pc L (x :: st) h ss k n := by
  obtain ⟨d1, rfl⟩ := d
  exact Go.plain (fun X t r => XS.dup X C.1 rfl (hb C.2.1 d1) rfl hc r) G
theorem pop (C : Cx w K Z a0 EL own code ml rt mn (Rm rf rc rs rl)) {x : Value} (d : Dc code pc .pop 1 pc') (hc : x.category = 1) (G : Go w K Z EL n0 ss0 Q pc' L st h ss k n) : Go w K Z EL n0 ss0 Q pc L (x :: st) h ss k n := by
  obtain ⟨d1, rfl⟩ := d
  exact Go.plain (fun X t r => XS.pop X C.1 rfl (hb C.2.1 d1) rfl hc r) G
theorem dupX1 (C : Cx w K Z a0 EL own code ml rt mn (Rm rf rc rs rl)) {x y : Value} (d : Dc code pc .dup_x1 1 pc') (hc : x.category = 1) (hc' : y.category = 1) (G : Go w K Z EL n0 ss0 Q pc' L (x :: y :: x :: st) h ss k n) : Go w K Z EL n0 ss0 Q pc L (x :: y :: st) h ss k n := by
  obtain ⟨d1, rfl⟩ := d
  exact Go.plain (fun X t r => XS.dupX1 X C.1 rfl (hb C.2.1 d1) rfl hc hc' r) G
theorem dup2 (C : Cx w K Z a0 EL own code ml rt mn (Rm rf rc rs rl)) {x y : Value} (d : Dc code pc .dup2 1 pc') (hc : x.category = 1) (hc' : y.category = 1) (G : Go w K Z EL n0 ss0 Q pc' L (x :: y :: x :: y :: st) h ss k n) : Go w K Z EL n0 ss0 Q pc L (x :: y :: st) h ss k n := by
  obtain ⟨d1, rfl⟩ := d
  exact Go.plain (fun X t r => XT.dup2 X C.1 rfl (hb C.2.1 d1) rfl hc hc' r) G
theorem aconstNull (C : Cx w K Z a0 EL own code ml rt mn (Rm rf rc rs rl))  (d : Dc code pc .aconst_null 1 pc')  (G : Go w K Z EL n0 ss0 Q pc' L (.null :: st) h ss k n) : Go w K Z EL n0 ss0 Q pc L st h ss k n := by
  obtain ⟨d1, rfl⟩ := d
  exact Go.plain (fun X t r => XS.aconstNull X C.1 rfl (hb C.2.1 d1)  r) G
theorem iconst (C : Cx w K Z a0 EL own code ml rt mn (Rm rf rc rs rl)) {i : Int} {v : Int32} (d : Dc code pc (.iconst i) 1 pc') (hv : Int32.ofInt i = v) (G : Go w K Z EL n0 ss0 Q pc' L (.int v :: st) h ss k n) : Go w K Z EL n0 ss0 Q pc L st h ss k n := by
  obtain ⟨d1, rfl⟩ := d
  subst hv
  exact Go.plain (fun X t r => XS.iconst X C.1 rfl (hb C.2.1 d1) r) G
theorem bipush (C : Cx w K Z a0 EL own code ml rt mn (Rm rf rc rs rl)) {i : Int} {v : Int32} (d : Dc code pc (.bipush i) 2 pc') (hv : (Int8.ofInt i).toInt32 = v) (G : Go w K Z EL n0 ss0 Q pc' L (.int v :: st) h ss k n) : Go w K Z EL n0 ss0 Q pc L st h ss k n := by
  obtain ⟨d1, rfl⟩ := d
  subst hv
  exact Go.plain (fun X t r => XS.bipush X C.1 rfl (hb C.2.1 d1) r) G
theorem sipush (C : Cx w K Z a0 EL own code ml rt mn (Rm rf rc rs rl)) {i : Int} {v : Int32} (d : Dc code pc (.sipush i) 3 pc') (hv : (Int16.ofInt i).toInt32 = v) (G : Go w K Z EL n0 ss0 Q pc' L (.int v :: st) h ss k n) : Go w K Z EL n0 ss0 Q pc L st h ss k n := by
  obtain ⟨d1, rfl⟩ := d
  subst hv
  exact Go.plain (fun X t r => XS.sipush X C.1 rfl (hb C.2.1 d1) r) G
theorem lconst (C : Cx w K Z a0 EL own code ml rt mn (Rm rf rc rs rl)) {i : Fin 2} {v : Int64} (d : Dc code pc (.lconst i) 1 pc') (hv : Int64.ofNat i = v) (G : Go w K Z EL n0 ss0 Q pc' L (.long v :: st) h ss k n) : Go w K Z EL n0 ss0 Q pc L st h ss k n := by
  obtain ⟨d1, rfl⟩ := d
  subst hv
  exact Go.plain (fun X t r => XS.lconst X C.1 rfl (hb C.2.1 d1) r) G
theorem iloadN (C : Cx w K Z a0 EL own code ml rt mn (Rm rf rc rs rl)) {j : Fin 4} {v : Int32} (d : Dc code pc (.iload_n j) 1 pc') (hl : L[j.val]? = some (.val (.int v))) (G : Go w K Z EL n0 ss0 Q pc' L (.int v :: st) h ss k n) : Go w K Z EL n0 ss0 Q pc L st h ss k n := by
  obtain ⟨d1, rfl⟩ := d
  exact Go.plain (fun X t r => XS.iloadN X C.1 rfl (hb C.2.1 d1) hl r) G
theorem iload (C : Cx w K Z a0 EL own code ml rt mn (Rm rf rc rs rl)) {j : Nat} {v : Int32} (d : Dc code pc (.iload j) 2 pc') (hl : L[j]? = some (.val (.int v))) (G : Go w K Z EL n0 ss0 Q pc' L (.int v :: st) h ss k n) : Go w K Z EL n0 ss0 Q pc L st h ss k n := by
  obtain ⟨d1, rfl⟩ := d
  exact Go.plain (fun X t r => XS.iload X C.1 rfl (hb C.2.1 d1) hl r) G
theorem lloadN (C : Cx w K Z a0 EL own code ml rt mn (Rm rf rc rs rl)) {j : Fin 4} {v : Int64} (d : Dc code pc (.lload_n j) 1 pc') (hl : L[j.val]? = some (.val (.long v))) (G : Go w K Z EL n0 ss0 Q pc' L (.long v :: st) h ss k n) : Go w K Z EL n0 ss0 Q pc L st h ss k n := by
  obtain ⟨d1, rfl⟩ := d
  exact Go.plain (fun X t r => XS.lloadN X C.1 rfl (hb C.2.1 d1) hl r) G
theorem lload (C : Cx w K Z a0 EL own code ml rt mn (Rm rf rc rs rl)) {j : Nat} {v : Int64} (d : Dc code pc (.lload j) 2 pc') (hl : L[j]? = some (.val (.long v))) (G : Go w K Z EL n0 ss0 Q pc' L (.long v :: st) h ss k n) : Go w K Z EL n0 ss0 Q pc L st h ss k n := by
  obtain ⟨d1, rfl⟩ := d
  exact Go.plain (fun X t r => XS.lload X C.1 rfl (hb C.2.1 d1) hl r) G
theorem aloadN (C : Cx w K Z a0 EL own code ml rt mn (Rm rf rc rs rl)) {j : Fin 4} {v : Value} (d : Dc code pc (.aload_n j) 1 pc') (hl : L[j.val]? = some (.val v)) (hv : v.isRef = true) (G : Go w K Z EL n0 ss0 Q pc' L (v :: st) h ss k n) : Go w K Z EL n0 ss0 Q pc L st h ss k n := by
  obtain ⟨d1, rfl⟩ := d
  exact Go.plain (fun X t r => XS.aloadN X C.1 rfl (hb C.2.1 d1) hl hv r) G
theorem aload (C : Cx w K Z a0 EL own code ml rt mn (Rm rf rc rs rl)) {j : Nat} {v : Value} (d : Dc code pc (.aload j) 2 pc') (hl : L[j]? = some (.val v)) (hv : v.isRef = true) (G : Go w K Z EL n0 ss0 Q pc' L (v :: st) h ss k n) : Go w K Z EL n0 ss0 Q pc L st h ss k n := by
  obtain ⟨d1, rfl⟩ := d
  exact Go.plain (fun X t r => XS.aload X C.1 rfl (hb C.2.1 d1) hl hv r) G
theorem istoreN (C : Cx w K Z a0 EL own code ml rt mn (Rm rf rc rs rl)) {j : Fin 4} {v : Int32} (d : Dc code pc (.istore_n j) 1 pc') (hl : storeLocals L j (.int v) = some L') (G : Go w K Z EL n0 ss0 Q pc' L' st h ss k n) : Go w K Z EL n0 ss0 Q pc L (.int v :: st) h ss k n := by
  obtain ⟨d1, rfl⟩ := d
  exact Go.plain (fun X t r => XS.istoreN X C.1 rfl (hb C.2.1 d1) rfl hl r) G
theorem istore (C : Cx w K Z a0 EL own code ml rt mn (Rm rf rc rs rl)) {j : Nat} {v : Int32} (d : Dc code pc (.istore j) 2 pc') (hl : storeLocals L j (.int v) = some L') (G : Go w K Z EL n0 ss0 Q pc' L' st h ss k n) : Go w K Z EL n0 ss0 Q pc L (.int v :: st) h ss k n := by
  obtain ⟨d1, rfl⟩ := d
  exact Go.plain (fun X t r => XS.istore X C.1 rfl (hb C.2.1 d1) rfl hl r) G
theorem lstoreN (C : Cx w K Z a0 EL own code ml rt mn (Rm rf rc rs rl)) {j : Fin 4} {v : Int64} (d : Dc code pc (.lstore_n j) 1 pc') (hl : storeLocals L j (.long v) = some L') (G : Go w K Z EL n0 ss0 Q pc' L' st h ss k n) : Go w K Z EL n0 ss0 Q pc L (.long v :: st) h ss k n := by
  obtain ⟨d1, rfl⟩ := d
  exact Go.plain (fun X t r => XS.lstoreN X C.1 rfl (hb C.2.1 d1) rfl hl r) G
theorem lstore (C : Cx w K Z a0 EL own code ml rt mn (Rm rf rc rs rl)) {j : Nat} {v : Int64} (d : Dc code pc (.lstore j) 2 pc') (hl : storeLocals L j (.long v) = some L') (G : Go w K Z EL n0 ss0 Q pc' L' st h ss k n) : Go w K Z EL n0 ss0 Q pc L (.long v :: st) h ss k n := by
  obtain ⟨d1, rfl⟩ := d
  exact Go.plain (fun X t r => XS.lstore X C.1 rfl (hb C.2.1 d1) rfl hl r) G
theorem astoreN (C : Cx w K Z a0 EL own code ml rt mn (Rm rf rc rs rl)) {j : Fin 4} {v : Value} (d : Dc code pc (.astore_n j) 1 pc') (hv : v.isRef = true) (hl : storeLocals L j v = some L') (G : Go w K Z EL n0 ss0 Q pc' L' st h ss k n) : Go w K Z EL n0 ss0 Q pc L (v :: st) h ss k n := by
  obtain ⟨d1, rfl⟩ := d
  exact Go.plain (fun X t r => XS.astoreN X C.1 rfl (hb C.2.1 d1) rfl hv hl r) G
theorem astore (C : Cx w K Z a0 EL own code ml rt mn (Rm rf rc rs rl)) {j : Nat} {v : Value} (d : Dc code pc (.astore j) 2 pc') (hv : v.isRef = true) (hl : storeLocals L j v = some L') (G : Go w K Z EL n0 ss0 Q pc' L' st h ss k n) : Go w K Z EL n0 ss0 Q pc L (v :: st) h ss k n := by
  obtain ⟨d1, rfl⟩ := d
  exact Go.plain (fun X t r => XS.astore X C.1 rfl (hb C.2.1 d1) rfl hv hl r) G
theorem iinc (C : Cx w K Z a0 EL own code ml rt mn (Rm rf rc rs rl)) {j : Nat} {cst : Int} {x y : Int32} (d : Dc code pc (.iinc j cst) 3 pc') (hl : L[j]? = some (.val (.int x))) (hy : x + Int32.ofInt cst = y) (hl' : storeLocals L j (.int y) = some L') (G : Go w K Z EL n0 ss0 Q pc' L' st h ss k n) : Go w K Z EL n0 ss0 Q pc L st h ss k n := by
  obtain ⟨d1, rfl⟩ := d
  subst hy
  exact Go.plain (fun X t r => XS.iinc X C.1 rfl (hb C.2.1 d1) hl hl' r) G
theorem goto_ (C : Cx w K Z a0 EL own code ml rt mn (Rm rf rc rs rl)) {o : Int} (d : Db code pc (.goto o) 3 pc' o pcT) (G : Go w K Z EL n0 ss0 Q pcT L st h ss k n) : Go w K Z EL n0 ss0 Q pc L st h ss k n := by
  obtain ⟨d1, rfl, d3, d4⟩ := d
  exact Go.plain (fun X t r => XS.goto X C.1 rfl rfl (hb C.2.1 d1) d3 d4 r) G
theorem cmp_eq {x y : Int32} (q : x = y) : if_icmp.holds .eq x y = true := by simp [if_icmp.holds, q]
theorem cmp_neq {x y : Int32} (q : ¬ x = y) : if_icmp.holds .eq x y = false := by simp [if_icmp.holds, q]
theorem cmp_ne {x y : Int32} (q : ¬ x = y) : if_icmp.holds .ne x y = true := by simp [if_icmp.holds, q]
theorem cmp_nne {x y : Int32} (q : ¬ ¬ x = y) : if_icmp.holds .ne x y = false := by simp [if_icmp.holds, Classical.not_not.mp q]
theorem cmp_lt {x y : Int32} (q : x < y) : if_icmp.holds .lt x y = true := by simp [if_icmp.holds, q]
theorem cmp_nlt {x y : Int32} (q : ¬ x < y) : if_icmp.holds .lt x y = false := by simp [if_icmp.holds, q]
theorem cmp_ge {x y : Int32} (q : ¬ x < y) : if_icmp.holds .ge x y = true := by simp [if_icmp.holds, Int32.not_lt.mp q]
theorem cmp_nge {x y : Int32} (q : ¬ ¬ x < y) : if_icmp.holds .ge x y = false := by simp [if_icmp.holds, Classical.not_not.mp q]
theorem cmp_gt {x y : Int32} (q : y < x) : if_icmp.holds .gt x y = true := by simp [if_icmp.holds, q]
theorem cmp_ngt {x y : Int32} (q : ¬ y < x) : if_icmp.holds .gt x y = false := by simp [if_icmp.holds, q]
theorem cmp_le {x y : Int32} (q : ¬ y < x) : if_icmp.holds .le x y = true := by simp [if_icmp.holds, Int32.not_lt.mp q]
theorem cmp_nle {x y : Int32} (q : ¬ ¬ y < x) : if_icmp.holds .le x y = false := by simp [if_icmp.holds, Classical.not_not.mp q]
theorem icmp_eq (C : Cx w K Z a0 EL own code ml rt mn (Rm rf rc rs rl)) {x y : Int32} {o : Int} (d : Db code pc (.if_icmp .eq o) 3 pc' o pcT) (G1 : x = y → Go w K Z EL n0 ss0 Q pcT L st h ss k n) (G2 : ¬ x = y → Go w K Z EL n0 ss0 Q pc' L st h ss k n) : Go w K Z EL n0 ss0 Q pc L (.int y :: .int x :: st) h ss k n := by
  obtain ⟨d1, rfl, d3, d4⟩ := d
  by_cases q : x = y
  · exact Go.plain (fun X t r => XS.icmpYes X C.1 rfl rfl (hb C.2.1 d1) rfl (cmp_eq q) d3 d4 r) (G1 q)
  · exact Go.plain (fun X t r => XS.icmpNo X C.1 rfl (hb C.2.1 d1) rfl (cmp_neq q) r) (G2 q)
theorem if_eq (C : Cx w K Z a0 EL own code ml rt mn (Rm rf rc rs rl)) {x : Int32} {o : Int} (d : Db code pc (.ifCond .eq o) 3 pc' o pcT) (G1 : x = (0 : Int32) → Go w K Z EL n0 ss0 Q pcT L st h ss k n) (G2 : ¬ x = (0 : Int32) → Go w K Z EL n0 ss0 Q pc' L st h ss k n) : Go w K Z EL n0 ss0 Q pc L (.int x :: st) h ss k n := by
  obtain ⟨d1, rfl, d3, d4⟩ := d
  by_cases q : x = (0 : Int32)
  · exact Go.plain (fun X t r => XS.ifYes X C.1 rfl rfl (hb C.2.1 d1) rfl ((if0 _ _).trans (cmp_eq q)) d3 d4 r) (G1 q)
  · exact Go.plain (fun X t r => XS.ifNo X C.1 rfl (hb C.2.1 d1) rfl ((if0 _ _).trans (cmp_neq q)) r) (G2 q)
theorem icmp_ne (C : Cx w K Z a0 EL own code ml rt mn (Rm rf rc rs rl)) {x y : Int32} {o : Int} (d : Db code pc (.if_icmp .ne o) 3 pc' o pcT) (G1 : ¬ x = y → Go w K Z EL n0 ss0 Q pcT L st h ss k n) (G2 : x = y → Go w K Z EL n0 ss0 Q pc' L st h ss k n) : Go w K Z EL n0 ss0 Q pc L (.int y :: .int x :: st) h ss k n := by
  obtain ⟨d1, rfl, d3, d4⟩ := d
  by_cases q : ¬ x = y
  · exact Go.plain (fun X t r => XS.icmpYes X C.1 rfl rfl (hb C.2.1 d1) rfl (cmp_ne q) d3 d4 r) (G1 q)
  · exact Go.plain (fun X t r => XS.icmpNo X C.1 rfl (hb C.2.1 d1) rfl (cmp_nne q) r) (G2 (Classical.not_not.mp q))
theorem if_ne (C : Cx w K Z a0 EL own code ml rt mn (Rm rf rc rs rl)) {x : Int32} {o : Int} (d : Db code pc (.ifCond .ne o) 3 pc' o pcT) (G1 : ¬ x = (0 : Int32) → Go w K Z EL n0 ss0 Q pcT L st h ss k n) (G2 : x = (0 : Int32) → Go w K Z EL n0 ss0 Q pc' L st h ss k n) : Go w K Z EL n0 ss0 Q pc L (.int x :: st) h ss k n := by
  obtain ⟨d1, rfl, d3, d4⟩ := d
  by_cases q : ¬ x = (0 : Int32)
  · exact Go.plain (fun X t r => XS.ifYes X C.1 rfl rfl (hb C.2.1 d1) rfl ((if0 _ _).trans (cmp_ne q)) d3 d4 r) (G1 q)
  · exact Go.plain (fun X t r => XS.ifNo X C.1 rfl (hb C.2.1 d1) rfl ((if0 _ _).trans (cmp_nne q)) r) (G2 (Classical.not_not.mp q))
theorem icmp_lt (C : Cx w K Z a0 EL own code ml rt mn (Rm rf rc rs rl)) {x y : Int32} {o : Int} (d : Db code pc (.if_icmp .lt o) 3 pc' o pcT) (G1 : x < y → Go w K Z EL n0 ss0 Q pcT L st h ss k n) (G2 : ¬ x < y → Go w K Z EL n0 ss0 Q pc' L st h ss k n) : Go w K Z EL n0 ss0 Q pc L (.int y :: .int x :: st) h ss k n := by
  obtain ⟨d1, rfl, d3, d4⟩ := d
  by_cases q : x < y
  · exact Go.plain (fun X t r => XS.icmpYes X C.1 rfl rfl (hb C.2.1 d1) rfl (cmp_lt q) d3 d4 r) (G1 q)
  · exact Go.plain (fun X t r => XS.icmpNo X C.1 rfl (hb C.2.1 d1) rfl (cmp_nlt q) r) (G2 q)
theorem if_lt (C : Cx w K Z a0 EL own code ml rt mn (Rm rf rc rs rl)) {x : Int32} {o : Int} (d : Db code pc (.ifCond .lt o) 3 pc' o pcT) (G1 : x < (0 : Int32) → Go w K Z EL n0 ss0 Q pcT L st h ss k n) (G2 : ¬ x < (0 : Int32) → Go w K Z EL n0 ss0 Q pc' L st h ss k n) : Go w K Z EL n0 ss0 Q pc L (.int x :: st) h ss k n := by
  obtain ⟨d1, rfl, d3, d4⟩ := d
  by_cases q : x < (0 : Int32)
  · exact Go.plain (fun X t r => XS.ifYes X C.1 rfl rfl (hb C.2.1 d1) rfl ((if0 _ _).trans (cmp_lt q)) d3 d4 r) (G1 q)
  · exact Go.plain (fun X t r => XS.ifNo X C.1 rfl (hb C.2.1 d1) rfl ((if0 _ _).trans (cmp_nlt q)) r) (G2 q)
theorem icmp_ge (C : Cx w K Z a0 EL own code ml rt mn (Rm rf rc rs rl)) {x y : Int32} {o : Int} (d : Db code pc (.if_icmp .ge o) 3 pc' o pcT) (G1 : ¬ x < y → Go w K Z EL n0 ss0 Q pcT L st h ss k n) (G2 : x < y → Go w K Z EL n0 ss0 Q pc' L st h ss k n) : Go w K Z EL n0 ss0 Q pc L (.int y :: .int x :: st) h ss k n := by
  obtain ⟨d1, rfl, d3, d4⟩ := d
  by_cases q : ¬ x < y
  · exact Go.plain (fun X t r => XS.icmpYes X C.1 rfl rfl (hb C.2.1 d1) rfl (cmp_ge q) d3 d4 r) (G1 q)
  · exact Go.plain (fun X t r => XS.icmpNo X C.1 rfl (hb C.2.1 d1) rfl (cmp_nge q) r) (G2 (Classical.not_not.mp q))
theorem if_ge (C : Cx w K Z a0 EL own code ml rt mn (Rm rf rc rs rl)) {x : Int32} {o : Int} (d : Db code pc (.ifCond .ge o) 3 pc' o pcT) (G1 : ¬ x < (0 : Int32) → Go w K Z EL n0 ss0 Q pcT L st h ss k n) (G2 : x < (0 : Int32) → Go w K Z EL n0 ss0 Q pc' L st h ss k n) : Go w K Z EL n0 ss0 Q pc L (.int x :: st) h ss k n := by
  obtain ⟨d1, rfl, d3, d4⟩ := d
  by_cases q : ¬ x < (0 : Int32)
  · exact Go.plain (fun X t r => XS.ifYes X C.1 rfl rfl (hb C.2.1 d1) rfl ((if0 _ _).trans (cmp_ge q)) d3 d4 r) (G1 q)
  · exact Go.plain (fun X t r => XS.ifNo X C.1 rfl (hb C.2.1 d1) rfl ((if0 _ _).trans (cmp_nge q)) r) (G2 (Classical.not_not.mp q))
theorem icmp_gt (C : Cx w K Z a0 EL own code ml rt mn (Rm rf rc rs rl)) {x y : Int32} {o : Int} (d : Db code pc (.if_icmp .gt o) 3 pc' o pcT) (G1 : y < x → Go w K Z EL n0 ss0 Q pcT L st h ss k n) (G2 : ¬ y < x → Go w K Z EL n0 ss0 Q pc' L st h ss k n) : Go w K Z EL n0 ss0 Q pc L (.int y :: .int x :: st) h ss k n := by
  obtain ⟨d1, rfl, d3, d4⟩ := d
  by_cases q : y < x
  · exact Go.plain (fun X t r => XS.icmpYes X C.1 rfl rfl (hb C.2.1 d1) rfl (cmp_gt q) d3 d4 r) (G1 q)
  · exact Go.plain (fun X t r => XS.icmpNo X C.1 rfl (hb C.2.1 d1) rfl (cmp_ngt q) r) (G2 q)
theorem if_gt (C : Cx w K Z a0 EL own code ml rt mn (Rm rf rc rs rl)) {x : Int32} {o : Int} (d : Db code pc (.ifCond .gt o) 3 pc' o pcT) (G1 : (0 : Int32) < x → Go w K Z EL n0 ss0 Q pcT L st h ss k n) (G2 : ¬ (0 : Int32) < x → Go w K Z EL n0 ss0 Q pc' L st h ss k n) : Go w K Z EL n0 ss0 Q pc L (.int x :: st) h ss k n := by
  obtain ⟨d1, rfl, d3, d4⟩ := d
  by_cases q : (0 : Int32) < x
  · exact Go.plain (fun X t r => XS.ifYes X C.1 rfl rfl (hb C.2.1 d1) rfl ((if0 _ _).trans (cmp_gt q)) d3 d4 r) (G1 q)
  · exact Go.plain (fun X t r => XS.ifNo X C.1 rfl (hb C.2.1 d1) rfl ((if0 _ _).trans (cmp_ngt q)) r) (G2 q)
theorem icmp_le (C : Cx w K Z a0 EL own code ml rt mn (Rm rf rc rs rl)) {x y : Int32} {o : Int} (d : Db code pc (.if_icmp .le o) 3 pc' o pcT) (G1 : ¬ y < x → Go w K Z EL n0 ss0 Q pcT L st h ss k n) (G2 : y < x → Go w K Z EL n0 ss0 Q pc' L st h ss k n) : Go w K Z EL n0 ss0 Q pc L (.int y :: .int x :: st) h ss k n := by
  obtain ⟨d1, rfl, d3, d4⟩ := d
  by_cases q : ¬ y < x
  · exact Go.plain (fun X t r => XS.icmpYes X C.1 rfl rfl (hb C.2.1 d1) rfl (cmp_le q) d3 d4 r) (G1 q)
  · exact Go.plain (fun X t r => XS.icmpNo X C.1 rfl (hb C.2.1 d1) rfl (cmp_nle q) r) (G2 (Classical.not_not.mp q))
theorem if_le (C : Cx w K Z a0 EL own code ml rt mn (Rm rf rc rs rl)) {x : Int32} {o : Int} (d : Db code pc (.ifCond .le o) 3 pc' o pcT) (G1 : ¬ (0 : Int32) < x → Go w K Z EL n0 ss0 Q pcT L st h ss k n) (G2 : (0 : Int32) < x → Go w K Z EL n0 ss0 Q pc' L st h ss k n) : Go w K Z EL n0 ss0 Q pc L (.int x :: st) h ss k n := by
  obtain ⟨d1, rfl, d3, d4⟩ := d
  by_cases q : ¬ (0 : Int32) < x
  · exact Go.plain (fun X t r => XS.ifYes X C.1 rfl rfl (hb C.2.1 d1) rfl ((if0 _ _).trans (cmp_le q)) d3 d4 r) (G1 q)
  · exact Go.plain (fun X t r => XS.ifNo X C.1 rfl (hb C.2.1 d1) rfl ((if0 _ _).trans (cmp_nle q)) r) (G2 (Classical.not_not.mp q))
theorem ifnullY (C : Cx w K Z a0 EL own code ml rt mn (Rm rf rc rs rl)) {b : Addr} {o : Int} (d : Db code pc (.ifnull o) 3 pc' o pcT) (G : Go w K Z EL n0 ss0 Q pcT L st h ss k n) : Go w K Z EL n0 ss0 Q pc L (.null :: st) h ss k n := by
  obtain ⟨d1, rfl, d3, d4⟩ := d
  exact Go.plain (fun X t r => XS.ifnullYes X C.1 rfl rfl (hb C.2.1 d1) rfl d3 d4 r) G
theorem ifnullN (C : Cx w K Z a0 EL own code ml rt mn (Rm rf rc rs rl)) {b : Addr} {o : Int} (d : Db code pc (.ifnull o) 3 pc' o pcT) (G : Go w K Z EL n0 ss0 Q pc' L st h ss k n) : Go w K Z EL n0 ss0 Q pc L (.ref b :: st) h ss k n := by
  obtain ⟨d1, rfl, d3, d4⟩ := d
  exact Go.plain (fun X t r => XS.ifnullNo X C.1 rfl (hb C.2.1 d1) rfl r) G
theorem ifnonnullY (C : Cx w K Z a0 EL own code ml rt mn (Rm rf rc rs rl)) {b : Addr} {o : Int} (d : Db code pc (.ifnonnull o) 3 pc' o pcT) (G : Go w K Z EL n0 ss0 Q pcT L st h ss k n) : Go w K Z EL n0 ss0 Q pc L (.ref b :: st) h ss k n := by
  obtain ⟨d1, rfl, d3, d4⟩ := d
  exact Go.plain (fun X t r => XS.ifnonnullYes X C.1 rfl rfl (hb C.2.1 d1) rfl d3 d4 r) G
theorem ifnonnullN (C : Cx w K Z a0 EL own code ml rt mn (Rm rf rc rs rl)) {b : Addr} {o : Int} (d : Db code pc (.ifnonnull o) 3 pc' o pcT) (G : Go w K Z EL n0 ss0 Q pc' L st h ss k n) : Go w K Z EL n0 ss0 Q pc L (.null :: st) h ss k n := by
  obtain ⟨d1, rfl, d3, d4⟩ := d
  exact Go.plain (fun X t r => XS.ifnonnullNo X C.1 rfl (hb C.2.1 d1) rfl r) G
theorem acmp_eq (C : Cx w K Z a0 EL own code ml rt mn (Rm rf rc rs rl)) {x y : Value} (hx : x.isRef = true) (hy : y.isRef = true) {o : Int} (d : Db code pc (.if_acmp .eq o) 3 pc' o pcT) (G1 : x = y → Go w K Z EL n0 ss0 Q pcT L st h ss k n) (G2 : ¬ x = y → Go w K Z EL n0 ss0 Q pc' L st h ss k n) : Go w K Z EL n0 ss0 Q pc L (y :: x :: st) h ss k n := by
  obtain ⟨d1, rfl, d3, d4⟩ := d
  by_cases q : x = y
  · refine Go.same C (fun X _ _ _ _ => ⟨_, X, ‹_›, fun t r => RoadKit.acmp (g := mkF K.m pc L (y :: x :: st)) X C.1 rfl hx hy (same := true) rfl (hb C.2.1 d1) rfl (decide_eq_true q) d3 (pc' := pcT) (by rw [← d4]; rfl) r⟩) (G1 q)
  · refine Go.same C (fun X _ _ _ _ => ⟨_, X, ‹_›, fun t r => RoadKit.acmp (g := mkF K.m pc L (y :: x :: st)) X C.1 rfl hx hy (same := false) rfl (hb C.2.1 d1) rfl (decide_eq_false q) d3 (pc' := pc + 3) rfl r⟩) (G2 q)
theorem acmp_ne (C : Cx w K Z a0 EL own code ml rt mn (Rm rf rc rs rl)) {x y : Value} (hx : x.isRef = true) (hy : y.isRef = true) {o : Int} (d : Db code pc (.if_acmp .ne o) 3 pc' o pcT) (G1 : ¬ x = y → Go w K Z EL n0 ss0 Q pcT L st h ss k n) (G2 : x = y → Go w K Z EL n0 ss0 Q pc' L st h ss k n) : Go w K Z EL n0 ss0 Q pc L (y :: x :: st) h ss k n := by
  obtain ⟨d1, rfl, d3, d4⟩ := d
  by_cases q : x = y
  · refine Go.same C (fun X _ _ _ _ => ⟨_, X, ‹_›, fun t r => RoadKit.acmp (g := mkF K.m pc L (y :: x :: st)) X C.1 rfl hx hy (same := true) rfl (hb C.2.1 d1) rfl (decide_eq_true q) d3 (pc' := pc + 3) rfl r⟩) (G2 q)
  · refine Go.same C (fun X _ _ _ _ => ⟨_, X, ‹_›, fun t r => RoadKit.acmp (g := mkF K.m pc L (y :: x :: st)) X C.1 rfl hx hy (same := false) rfl (hb C.2.1 d1) rfl (decide_eq_false q) d3 (pc' := pcT) (by rw [← d4]; rfl) r⟩) (G1 q)
theorem ldcI (C : Cx w K Z a0 EL own code ml rt mn (Rm rf rc rs rl)) {i : Nat} {v : Int32} (wc : (Cond.constant own i v).before a0 Z = true) (d : Dc code pc (.ldc i) 2 pc') (G : Go w K Z EL n0 ss0 Q pc' L (.int v :: st) h ss k n) : Go w K Z EL n0 ss0 Q pc L st h ss k n := by
  obtain ⟨d1, rfl⟩ := d
  exact Go.same C (fun X e hZ hown _ => ⟨_, X, e, X.ldcInt C.1 hown (mvT hZ wc) (g := mkF K.m pc L st) rfl (hb C.2.1 d1)⟩) G
theorem ldcwI (C : Cx w K Z a0 EL own code ml rt mn (Rm rf rc rs rl)) {i : Nat} {v : Int32} (wc : (Cond.constant own i v).before a0 Z = true) (d : Dc code pc (.ldc_w i) 3 pc') (G : Go w K Z EL n0 ss0 Q pc' L (.int v :: st) h ss k n) : Go w K Z EL n0 ss0 Q pc L st h ss k n := by
  obtain ⟨d1, rfl⟩ := d
  exact Go.same C (fun X e hZ hown _ => ⟨_, X, e, X.ldcwInt C.1 hown (mvT hZ wc) (g := mkF K.m pc L st) rfl (hb C.2.1 d1)⟩) G
theorem ldc2J (C : Cx w K Z a0 EL own code ml rt mn (Rm rf rc rs rl)) {i : Nat} {v : Int64} (wc : (Cond.constantLong own i v).before a0 Z = true) (d : Dc code pc (.ldc2_w i) 3 pc') (G : Go w K Z EL n0 ss0 Q pc' L (.long v :: st) h ss k n) : Go w K Z EL n0 ss0 Q pc L st h ss k n := by
  obtain ⟨d1, rfl⟩ := d
  exact Go.same C (fun X e hZ hown _ => ⟨_, X, e, X.ldc2Long C.1 hown (mvT hZ wc) (g := mkF K.m pc L st) rfl (hb C.2.1 d1)⟩) G
theorem getF_ (C : Cx w K Z a0 EL own code ml rt mn (Rm rf rc rs rl)) {i : Nat} {O f D : String} {a : Addr} {v : Value} (wl : (Cond.fieldLink own i O f D).before a0 Z = true) (F : Fld Z h a O f D v) (d : Dc code pc (.getfield i) 3 pc') (G : Go w K Z EL n0 ss0 Q pc' L (v :: st) h ss k n) : Go w K Z EL n0 ss0 Q pc L (.ref a :: st) h ss k n := by
  obtain ⟨d1, rfl⟩ := d
  exact Go.same C (fun X e hZ hown _ => getF X C.1 hZ hown (host := "") (Or.inl wl) Via.refl e F (g := mkF K.m pc L (.ref a :: st)) rfl rfl (hb C.2.1 d1)) G
theorem getS_ (C : Cx w K Z a0 EL own code ml rt mn (Rm rf rc rs rl)) {i : Nat} {O f D : String} {v : Value} (wl : (Cond.fieldLink own i O f D).before a0 Z = true) (F : Sta Z Z.heap O f D v) (d : Dc code pc (.getstatic i) 3 pc') (G : Go w K Z EL n0 ss0 Q pc' L (v :: st) h ss k n) : Go w K Z EL n0 ss0 Q pc L st h ss k n := by
  obtain ⟨d1, rfl⟩ := d
  exact Go.same C (fun X e hZ hown E => getS X C.1 hZ hown (host := "") wl Via.refl e (F.ext E) (g := mkF K.m pc L st) rfl (hb C.2.1 d1)) G
theorem cast_ (C : Cx w K Z a0 EL own code ml rt mn (Rm rf rc rs rl)) {i : Nat} {O : String} {a : Addr} (wl : (Cond.classLink own i O).before a0 Z = true) (F : Ins Z h a O true) (d : Dc code pc (.checkcast i) 3 pc') (G : Go w K Z EL n0 ss0 Q pc' L (.ref a :: st) h ss k n) : Go w K Z EL n0 ss0 Q pc L (.ref a :: st) h ss k n := by
  obtain ⟨d1, rfl⟩ := d
  exact Go.same C (fun X e hZ hown _ => castY X C.1 hZ hown wl e F (g := mkF K.m pc L (.ref a :: st)) rfl rfl (hb C.2.1 d1)) G
theorem instY_ (C : Cx w K Z a0 EL own code ml rt mn (Rm rf rc rs rl)) {i : Nat} {O : String} {a : Addr} (wl : (Cond.classLink own i O).before a0 Z = true) (F : Ins Z h a O true) (d : Dc code pc (.instanceof i) 3 pc') (G : Go w K Z EL n0 ss0 Q pc' L (.int 1 :: st) h ss k n) : Go w K Z EL n0 ss0 Q pc L (.ref a :: st) h ss k n := by
  obtain ⟨d1, rfl⟩ := d
  exact Go.same C (fun X e hZ hown _ => instY X C.1 hZ hown wl e F (g := mkF K.m pc L (.ref a :: st)) rfl rfl (hb C.2.1 d1)) G
theorem instN_ (C : Cx w K Z a0 EL own code ml rt mn (Rm rf rc rs rl)) {i : Nat} {O O' : String} {a : Addr} (wl : (Cond.classLink own i O).before a0 Z = true) (E : Exa Z h a O') (F : ∃ c t, Z.vm.findClass O' = some c ∧ Z.vm.findClass O = some t ∧ Z.vm.assignable c t = false) (d : Dc code pc (.instanceof i) 3 pc') (G : Go w K Z EL n0 ss0 Q pc' L (.int 0 :: st) h ss k n) : Go w K Z EL n0 ss0 Q pc L (.ref a :: st) h ss k n := by
  obtain ⟨d1, rfl⟩ := d
  exact Go.same C (fun X e hZ hown _ => instNo X C.1 hZ hown wl e E F (g := mkF K.m pc L (.ref a :: st)) rfl rfl (hb C.2.1 d1)) G
theorem inst0_ (C : Cx w K Z a0 EL own code ml rt mn (Rm rf rc rs rl)) {i : Nat} {O : String} (wl : (Cond.classLink own i O).before a0 Z = true) (d : Dc code pc (.instanceof i) 3 pc') (G : Go w K Z EL n0 ss0 Q pc' L (.int 0 :: st) h ss k n) : Go w K Z EL n0 ss0 Q pc L (.null :: st) h ss k n := by
  obtain ⟨d1, rfl⟩ := d
  exact Go.same C (fun X e hZ hown _ => ⟨_, X, e, X.instanceofNull C.1 (g := mkF K.m pc L (.null :: st)) rfl rfl (hb C.2.1 d1)⟩) G
/-- the array at a holds just vs -/
def Ary (Z : State) (h : Heap) (a : Addr) (ty : FieldType) (vs : List Value) : Prop := ∃ c : Cell, Arr Z h a c ty ∧ c.slots = vs.toArray ∧ vs.length < 2 ^ 31
theorem Ary.keep {a : Addr} {ty : FieldType} {vs : List Value} {ws : List Addr} (F : Ary Z h a ty vs) (K : Keep h h' ws) (q : a ∉ ws) : Ary Z h' a ty vs := by
  obtain ⟨c, A, r⟩ := F; exact ⟨c, ⟨K.2.1 a c A.1 q, A.2⟩, r⟩
theorem Ary.lt {a : Addr} {ty : FieldType} {vs : List Value} (F : Ary Z h a ty vs) : a < h.size := by obtain ⟨c, A, -⟩ := F; exact A.lt
theorem Ary.set {a : Addr} {ty : FieldType} {vs : List Value} {i : Nat} {v : Value} (F : Ary Z h a ty vs) (W : Wr h h' a i v) : Ary Z h' a ty (vs.set i v) := by
  obtain ⟨c, A, e, l⟩ := F
  exact ⟨_, A.same W, by simp [Cell.setSlot, e], by simpa using l⟩
theorem Ary.new {a : Addr} {ty : FieldType} {cA : ClassId} {x : Int32} (A : Arr Z h a (newA cA ty x) ty) : Ary Z h a ty (List.replicate x.toNatClampNeg (defaultValue ty)) := ⟨_, A, by simp [newA], by
  have := rng32 x
  simp only [List.length_replicate, Int32.toNatClampNeg]; omega⟩
theorem newarr (C : Cx w K Z a0 EL own code ml rt mn (Rm rf rc rs rl)) {aty : ArrayType} {x : Int32} (wa : (Cond.arrayClass (newarray.typeOf aty)).before a0 Z = true) (hx : ¬ x < 0) (cap : Nat) (hcap : x.toNatClampNeg ≤ cap) (hb8 : cap * 8 ≤ 536870912) (hc : k + 1 ≤ rc) (hl : n + cap ≤ rs) (d : Dc code pc (.newarray aty) 2 pc') (G : ∀ h', Keep h h' [] → h.size < h'.size → n0 ≤ h.size → Ary Z h' h.size (newarray.typeOf aty) (List.replicate x.toNatClampNeg (defaultValue (newarray.typeOf aty))) → Go w K Z EL n0 ss0 Q pc' L (.ref h.size :: st) h' (h.size :: ss) (k + 1) (n + cap)) : Go w K Z EL n0 ss0 Q pc L (.int x :: st) h ss k n := by
  obtain ⟨d1, rfl⟩ := d
  have hR : K.R = Rm rf rc rs rl := C.2.2.2.2.2.2.2.1
  refine Go.grow C (dk := 1) (dn := cap) (P := fun h' => Ary Z h' h.size (newarray.typeOf aty) (List.replicate x.toNatClampNeg (defaultValue (newarray.typeOf aty)))) (fun _ q => q.lt) (fun X e hZ hown => ?_) G
  obtain ⟨T', h', cA, X', e', E, A, r⟩ := newP X C.1 hZ wa e (g := mkF K.m pc L (.int x :: st)) rfl (hb C.2.1 d1) rfl hx hcap hb8 (by rw [hR]; exact hc) (by rw [hR]; exact hl)
  exact ⟨T', h', X', e', E, Ary.new A, r⟩
theorem castore_ (C : Cx w K Z a0 EL own code ml rt mn (Rm rf rc rs rl)) {a : Addr} {j x : Int32} {vs : List Value} (A : Ary Z h a .char vs) (i : Nat) (hj : j.toInt = i) (hi : i < vs.length) (ha : a ∈ ss) (d : Dc code pc .castore 1 pc') (G : ∀ h', Wr h h' a i (.int (nar .char x)) → Ary Z h' a .char (vs.set i (.int (nar .char x))) → Go w K Z EL n0 ss0 Q pc' L st h' ss k n) : Go w K Z EL n0 ss0 Q pc L (.int x :: .int j :: .ref a :: st) h ss k n := by
  obtain ⟨d1, rfl⟩ := d
  have A' := A
  obtain ⟨c, A, e, l⟩ := A
  have ej : j.toNatClampNeg = i := by simp [Int32.toNatClampNeg, hj]
  subst ej
  refine Go.write C ha (fun X eT hZ hown => stC X C.1 hZ eT A (j := j) ?_ (g := mkF K.m pc L (.int x :: .int j :: .ref a :: st)) rfl rfl (hb C.2.1 d1)) (fun h' W => G h' W (A'.set W))
  rintro (q | q)
  · rw [Int32.lt_iff_toInt_lt, hj] at q; have : (0 : Int32).toInt = 0 := rfl; omega
  · rw [e] at q; simp at q; omega
theorem bastore_ (C : Cx w K Z a0 EL own code ml rt mn (Rm rf rc rs rl)) {a : Addr} {j x : Int32} {vs : List Value} (A : Ary Z h a .byte vs) (i : Nat) (hj : j.toInt = i) (hi : i < vs.length) (ha : a ∈ ss) (d : Dc code pc .bastore 1 pc') (G : ∀ h', Wr h h' a i (.int (nar .byte x)) → Ary Z h' a .byte (vs.set i (.int (nar .byte x))) → Go w K Z EL n0 ss0 Q pc' L st h' ss k n) : Go w K Z EL n0 ss0 Q pc L (.int x :: .int j :: .ref a :: st) h ss k n := by
  obtain ⟨d1, rfl⟩ := d
  have A' := A
  obtain ⟨c, A, e, l⟩ := A
  have ej : j.toNatClampNeg = i := by simp [Int32.toNatClampNeg, hj]
  subst ej
  refine Go.write C ha (fun X eT hZ hown => stB X C.1 hZ eT A (j := j) ?_ (g := mkF K.m pc L (.int x :: .int j :: .ref a :: st)) rfl rfl (hb C.2.1 d1)) (fun h' W => G h' W (A'.set W))
  rintro (q | q)
  · rw [Int32.lt_iff_toInt_lt, hj] at q; have : (0 : Int32).toInt = 0 := rfl; omega
  · rw [e] at q; simp at q; omega
theorem caload_ (C : Cx w K Z a0 EL own code ml rt mn (Rm rf rc rs rl)) {a : Addr} {j : Int32} {v : Value} {vs : List Value} (A : Ary Z h a .char vs) (i : Nat) (hj : j.toInt = i) (hv : vs[i]? = some v) (d : Dc code pc .caload 1 pc') (G : Go w K Z EL n0 ss0 Q pc' L (v :: st) h ss k n) : Go w K Z EL n0 ss0 Q pc L (.int j :: .ref a :: st) h ss k n := by
  obtain ⟨d1, rfl⟩ := d
  obtain ⟨c, A, e, l⟩ := A
  have ej : j.toNatClampNeg = i := by simp [Int32.toNatClampNeg, hj]
  have hi : i < vs.length := (List.getElem?_eq_some_iff.mp hv).1
  subst ej
  refine Go.same C (fun X eT hZ hown _ => ⟨_, X, eT, X.caload C.1 (j := j) (v := v) (by rw [eT]; exact A.1) (State.isArrayOf_alike hZ.alike A.2.1) A.2.2 ?_ (by rw [e]; simpa using hv) (g := mkF K.m pc L (.int j :: .ref a :: st)) rfl rfl (hb C.2.1 d1)⟩) G
  rintro (q | q)
  · rw [Int32.lt_iff_toInt_lt, hj] at q; have : (0 : Int32).toInt = 0 := rfl; omega
  · rw [e] at q; simp at q; omega
theorem baload_ (C : Cx w K Z a0 EL own code ml rt mn (Rm rf rc rs rl)) {a : Addr} {j : Int32} {v : Value} {vs : List Value} (A : Ary Z h a .byte vs) (i : Nat) (hj : j.toInt = i) (hv : vs[i]? = some v) (d : Dc code pc .baload 1 pc') (G : Go w K Z EL n0 ss0 Q pc' L (v :: st) h ss k n) : Go w K Z EL n0 ss0 Q pc L (.int j :: .ref a :: st) h ss k n := by
  obtain ⟨d1, rfl⟩ := d
  obtain ⟨c, A, e, l⟩ := A
  have ej : j.toNatClampNeg = i := by simp [Int32.toNatClampNeg, hj]
  have hi : i < vs.length := (List.getElem?_eq_some_iff.mp hv).1
  subst ej
  refine Go.same C (fun X eT hZ hown _ => ⟨_, X, eT, X.baloadBytes C.1 (j := j) (v := v) (by rw [eT]; exact A.1) (State.isArrayOf_alike hZ.alike A.2.1) A.2.2 ?_ (by rw [e]; simpa using hv) (g := mkF K.m pc L (.int j :: .ref a :: st)) rfl rfl (hb C.2.1 d1)⟩) G
  rintro (q | q)
  · rw [Int32.lt_iff_toInt_lt, hj] at q; have : (0 : Int32).toInt = 0 := rfl; omega
  · rw [e] at q; simp at q; omega
theorem iaload_ (C : Cx w K Z a0 EL own code ml rt mn (Rm rf rc rs rl)) {a : Addr} {j : Int32} {v : Value} {vs : List Value} (A : Ary Z h a .int vs) (i : Nat) (hj : j.toInt = i) (hv : vs[i]? = some v) (d : Dc code pc .iaload 1 pc') (G : Go w K Z EL n0 ss0 Q pc' L (v :: st) h ss k n) : Go w K Z EL n0 ss0 Q pc L (.int j :: .ref a :: st) h ss k n := by
  obtain ⟨d1, rfl⟩ := d
  obtain ⟨c, A, e, l⟩ := A
  have ej : j.toNatClampNeg = i := by simp [Int32.toNatClampNeg, hj]
  have hi : i < vs.length := (List.getElem?_eq_some_iff.mp hv).1
  subst ej
  refine Go.same C (fun X eT hZ hown _ => ⟨_, X, eT, X.iaload C.1 (j := j) (v := v) (by rw [eT]; exact A.1) (State.isArrayOf_alike hZ.alike A.2.1) A.2.2 ?_ (by rw [e]; simpa using hv) (g := mkF K.m pc L (.int j :: .ref a :: st)) rfl rfl (hb C.2.1 d1)⟩) G
  rintro (q | q)
  · rw [Int32.lt_iff_toInt_lt, hj] at q; have : (0 : Int32).toInt = 0 := rfl; omega
  · rw [e] at q; simp at q; omega
theorem arrlen (C : Cx w K Z a0 EL own code ml rt mn (Rm rf rc rs rl)) {a : Addr} {ty : FieldType} {vs : List Value} (A : Ary Z h a ty vs) {z : Int32} (hz : z.toInt = vs.length) (d : Dc code pc .arraylength 1 pc') (G : Go w K Z EL n0 ss0 Q pc' L (.int z :: st) h ss k n) : Go w K Z EL n0 ss0 Q pc L (.ref a :: st) h ss k n := by
  obtain ⟨d1, rfl⟩ := d
  obtain ⟨c, A, e, l⟩ := A
  have ez : c.slots.size.toInt32 = z := by
    rw [← Int32.toInt_inj, hz, len_toInt (by rw [e]; simpa using l), e]; simp
  refine Go.same C (fun X eT hZ hown _ => ⟨_, X, eT, fun t r => X.arraylength C.1 (by rw [eT]; exact A.1) (State.isArrayOf_alike hZ.alike A.2.1) (g := mkF K.m pc L (.ref a :: st)) rfl rfl (hb C.2.1 d1) t (by rw [ez]; exact r)⟩) G
theorem new_ (C : Cx w K Z a0 EL own code ml rt mn (Rm rf rc rs rl)) {i : Nat} {O : String} {nn : Nat} (wl : (Cond.classLink own i O).before a0 Z = true) (wi : (Cond.instantiable O nn).before a0 Z = true) (wz : (Cond.initialized O).before a0 Z = true) (hc : k + 1 ≤ rc) (hl : n + nn ≤ rs) (d : Dc code pc (.new i) 3 pc')
    (G : ∀ h', Keep h h' [] → h.size < h'.size → n0 ≤ h.size → (Exa Z h' h.size O ∧ ∀ {O' nm d : String} {ty : FieldType}, Laid Z a0 O O' nm d → parseFieldDescriptor d = some ty → Fld Z h' h.size O' nm d (defaultValue ty)) → Go w K Z EL n0 ss0 Q pc' L (.ref h.size :: st) h' (h.size :: ss) (k + 1) (n + nn)) : Go w K Z EL n0 ss0 Q pc L st h ss k n := by
  obtain ⟨d1, rfl⟩ := d
  have hR : K.R = Rm rf rc rs rl := C.2.2.2.2.2.2.2.1
  refine Go.grow C (dk := 1) (dn := nn) (P := fun h' => Exa Z h' h.size O ∧ ∀ {O' nm d : String} {ty : FieldType}, Laid Z a0 O O' nm d → parseFieldDescriptor d = some ty → Fld Z h' h.size O' nm d (defaultValue ty)) (fun _ q => q.1.lt) (fun X e hZ hown => ?_) G
  obtain ⟨T', h', X', e', E, A, D, -, r⟩ := newO X C.1 hZ hown wl wi wz e (g := mkF K.m pc L st) rfl (hb C.2.1 d1) (by rw [hR]; exact hc) (by rw [hR]; exact hl)
  exact ⟨T', h', X', e', E, ⟨A, D⟩, r⟩
theorem putF_ (C : Cx w K Z a0 EL own code ml rt mn (Rm rf rc rs rl)) {i kk : Nat} {O f D O' : String} {a : Addr} {v v' old : Value} {ty : FieldType} (wl : (Cond.fieldLink own i O f D).before a0 Z = true) (F : Fld Z h a O f D old) (E : Exa Z h a O') (Ly : (Cond.lays O' O f D).before a0 Z = true ∨ ((Cond.laysFinal O' O f D).before a0 Z = true ∧ own = O ∧ mn = "<init>")) (wi : (Cond.instantiable O' kk).before a0 Z = true)
    (hty : parseFieldDescriptor D = some ty) (hn : narrow ty v = v') (hf : fits ty v' = true) (ha : a ∈ ss) (d : Dc code pc (.putfield i) 3 pc')
    (G : ∀ h', Wr h h' a (RoadKit.slotOf Z O f D) v' → Go w K Z EL n0 ss0 Q pc' L st h' ss k n) : Go w K Z EL n0 ss0 Q pc L (v :: .ref a :: st) h ss k n := by
  obtain ⟨d1, rfl⟩ := d
  have hm : K.meth.name = mn := C.2.2.2.2.2.2.1
  exact Go.write C ha (fun X eT hZ hown => putFN X C.1 hZ hown wl Via.refl eT F E (Ly.imp id fun q => ⟨q.1, q.2.1, hm.trans q.2.2⟩) wi hty hn hf (g := mkF K.m pc L (v :: .ref a :: st)) rfl rfl (hb C.2.1 d1)) G
theorem initO_ (C : Cx w K Z a0 EL own code ml rt mn (Rm rf rc rs rl)) {i : Nat} {a : Addr} (w1 : (Cond.methodLink own i Lib.objectInit).before a0 Z = true) (w2 : (Cond.instanceMethod Lib.objectInit).before a0 Z = true) (w3 : (Cond.code Lib.objectInit ⟨#[0xb1]⟩ 1 none).before a0 Z = true) (hL : L.size = ml) (hf : 1 ≤ rf) (hlo : (st.map fun v => v.category).sum + 12 ≤ rl) (d : Dc code pc (.invokespecial i) 3 pc') (G : Go w K Z EL n0 ss0 Q pc' L st h ss k n) : Go w K Z EL n0 ss0 Q pc L (.ref a :: st) h ss k n := by
  obtain ⟨d1, rfl⟩ := d
  have hR : K.R = Rm rf rc rs rl := C.2.2.2.2.2.2.2.1
  exact Go.same C (fun X e hZ hown _ => initO X C.1 hZ hown w1 w2 w3 e (g := mkF K.m pc L (.ref a :: st)) rfl (hL.trans C.2.2.1.symm) rfl (hb C.2.1 d1) (by rw [hR]; exact hf) (W := (st.map fun v => v.category).sum) (by show 2 * 0 + _ ≤ _; omega) (by rw [hR]; exact hlo)) G
theorem retZ (C : Cx w K Z a0 EL own code ml (some .boolean) mn (Rm rf rc rs rl)) {z : Int32} {gs : List Addr} (d : Dc code pc .ireturn 1 pc') (hc : k ≤ rc) (hn : n ≤ rs) (hg : ∀ x ∈ gs, x ∈ ss) (hQ : Q (some (.int (nar .boolean z))) h gs) : Go w K Z EL n0 ss0 Q pc L (.int z :: st) h ss k n := by
  obtain ⟨d1, rfl⟩ := d
  exact Go.leave C nofun (fun X _ r => retN X C.1 (t := .boolean) C.2.2.2.2.1 (by simp) (hb C.2.1 d1) r) hQ hg hc hn
theorem retB (C : Cx w K Z a0 EL own code ml (some .byte) mn (Rm rf rc rs rl)) {z : Int32} {gs : List Addr} (d : Dc code pc .ireturn 1 pc') (hc : k ≤ rc) (hn : n ≤ rs) (hg : ∀ x ∈ gs, x ∈ ss) (hQ : Q (some (.int (nar .byte z))) h gs) : Go w K Z EL n0 ss0 Q pc L (.int z :: st) h ss k n := by
  obtain ⟨d1, rfl⟩ := d
  exact Go.leave C nofun (fun X _ r => retN X C.1 (t := .byte) C.2.2.2.2.1 (by simp) (hb C.2.1 d1) r) hQ hg hc hn
theorem retC (C : Cx w K Z a0 EL own code ml (some .char) mn (Rm rf rc rs rl)) {z : Int32} {gs : List Addr} (d : Dc code pc .ireturn 1 pc') (hc : k ≤ rc) (hn : n ≤ rs) (hg : ∀ x ∈ gs, x ∈ ss) (hQ : Q (some (.int (nar .char z))) h gs) : Go w K Z EL n0 ss0 Q pc L (.int z :: st) h ss k n := by
  obtain ⟨d1, rfl⟩ := d
  exact Go.leave C nofun (fun X _ r => retN X C.1 (t := .char) C.2.2.2.2.1 (by simp) (hb C.2.1 d1) r) hQ hg hc hn
theorem retS (C : Cx w K Z a0 EL own code ml (some .short) mn (Rm rf rc rs rl)) {z : Int32} {gs : List Addr} (d : Dc code pc .ireturn 1 pc') (hc : k ≤ rc) (hn : n ≤ rs) (hg : ∀ x ∈ gs, x ∈ ss) (hQ : Q (some (.int (nar .short z))) h gs) : Go w K Z EL n0 ss0 Q pc L (.int z :: st) h ss k n := by
  obtain ⟨d1, rfl⟩ := d
  exact Go.leave C nofun (fun X _ r => retN X C.1 (t := .short) C.2.2.2.2.1 (by simp) (hb C.2.1 d1) r) hQ hg hc hn
theorem retI_ (C : Cx w K Z a0 EL own code ml (some .int) mn (Rm rf rc rs rl)) {z : Int32} {gs : List Addr} (d : Dc code pc .ireturn 1 pc') (hc : k ≤ rc) (hn : n ≤ rs) (hg : ∀ x ∈ gs, x ∈ ss) (hQ : Q (some (.int z)) h gs) : Go w K Z EL n0 ss0 Q pc L (.int z :: st) h ss k n := by
  obtain ⟨d1, rfl⟩ := d
  refine Go.leave C nofun (fun {T vm0 locs} X {fs} hr => ?_) hQ hg hc hn
  have hret : K.meth.sig.returnType = some .int := C.2.2.2.2.1
  have hx := C.1
  have hm' := X.method'
  have hnn : narrow .int (.int z) = .int z := rfl
  have hd := hb C.2.1 d1
  show Steps K.p.tables K.e K.below (T.setTop { method := K.m, pc := pc, locals := L, stack := _ :: st, locked := none }) _
  jvm_step X.here [X.here.top, hx, hd, hm', hret, hnn]
  first | (intro acts; rw [hr _ acts rfl rfl rfl]) | rw [hr _ _ rfl rfl rfl]
  exact Steps.refl _
theorem retA {ty : FieldType} (C : Cx w K Z a0 EL own code ml (some ty) mn (Rm rf rc rs rl)) {v : Value} {gs : List Addr} (hty : ty.isReference = true) (hv : v.isRef = true) (d : Dc code pc .areturn 1 pc') (hc : k ≤ rc) (hn : n ≤ rs) (hg : ∀ x ∈ gs, x ∈ ss) (hQ : Q (some v) h gs) : Go w K Z EL n0 ss0 Q pc L (v :: st) h ss k n := by
  obtain ⟨d1, rfl⟩ := d
  refine Go.leave C nofun (fun {T vm0 locs} X {fs} hr => ?_) hQ hg hc hn
  have hret : K.meth.sig.returnType = some ty := C.2.2.2.2.1
  have hx := C.1
  have hm' := X.method'
  have hd := hb C.2.1 d1
  show Steps K.p.tables K.e K.below (T.setTop { method := K.m, pc := pc, locals := L, stack := _ :: st, locked := none }) _
  jvm_step X.here [X.here.top, hx, hd, hm', hret, hv, hty]
  first | (intro acts; rw [hr _ acts rfl rfl rfl]) | rw [hr _ _ rfl rfl rfl]
  exact Steps.refl _
theorem retV (C : Cx w K Z a0 EL own code ml none mn (Rm rf rc rs rl)) {gs : List Addr} (d : Dc code pc .return_ 1 pc') (hc : k ≤ rc) (hn : n ≤ rs) (hg : ∀ x ∈ gs, x ∈ ss) (hQ : Q none h gs) : Go w K Z EL n0 ss0 Q pc L [] h ss k n := by
  obtain ⟨d1, rfl⟩ := d
  exact Go.leave C (fun _ => rfl) (fun X _ r => X.returnOut C.1 C.2.2.2.2.1 (hb C.2.1 d1) r) hQ hg hc hn
end Ops
end Jvm.Own
namespace Jvm.Own
open Jvm Jvm.ClassFile Sem Op Lib Jvm.Free Jvm.Stand Jvm.LawKit Jvm.RoadKit
section Calls
variable {w : Bool} {K : IV} {Z : State} {a0 : Array Value} {EL : List (String × Nat)} {n0 : Nat} {ss0 ss : List Addr} {Q : Option Value → Heap → List Addr → Prop} {pc pc' pcT : Nat} {L L' : Array Slot} {st st' stk : List Value} {h h' : Heap} {k n : Nat} {own : String} {code : ByteArray} {ml : Nat} {rt : Option FieldType} {mn : String} {R : Room}
variable {y : MethodName} {bytes : ByteArray} {maxL : Nat} {ret : Option FieldType} {rm : Room} {as : List Value} {ssc : List Addr} {Qc : Option Value → Heap → List Addr → Prop}
def PreC (Z : State) (EL : List (String × Nat)) (n0 : Nat) (R rm : Room) (as : List Value) (h : Heap) (ssc : List Addr) (A : Pt) (a : Array Value) : Prop := a = as.toArray ∧ A.U.heap = h ∧ A.cells + rm.cells ≤ R.cells ∧ A.slots + rm.slots ≤ R.slots ∧ CHv Z EL A.U.vm h ∧ ∀ x ∈ ssc, n0 ≤ x ∧ x < h.size ∧ Safe Z EL A.U.vm h x
def PostC (Z : State) (EL : List (String × Nat)) (n0 : Nat) (rm : Room) (h : Heap) (ssc : List Addr) (Qc : Option Value → Heap → List Addr → Prop) (A : Pt) (_ : Array Value) (v : Option Value) (B : Pt) : Prop := ∃ (L : List Loc) (gs : List Addr), Qc v B.U.heap gs ∧ Fr n0 L ∧ CHr Z EL A.U.vm h B.U.vm B.U.heap ∧ Keep h B.U.heap ssc ∧ Sf Z EL n0 B.U.vm B.U.heap ssc h gs ∧ Old Z n0 B.U.heap ∧ B.locs = A.locs ++ L ∧ B.cells = A.cells + rm.cells ∧ B.slots = A.slots + rm.slots
theorem conBack {p : Program} {l : Launch} {e : Env} {below : List Frame} {s : State} {args : Array Value} {len W : Nat} (M : Con false Z EL n0 y bytes maxL ret rm as h ssc Qc) (hZ : Z.Warmed39 s.vm) (wc : (Cond.code y bytes maxL ret).before a0 Z = true) (wz : (Cond.initialized y.cls).before a0 Z = true) (hTK : s.vm.MethodsKnown) (hBelow : s.vm.FramesKnown below) (hst : l.stackTraces = true) (hf : rm.frames + 1 ≤ R.frames) (hl : W + (maxL + 11) + rm.locals ≤ R.locals) :
    Back l R p e below s args y len W (PreC Z EL n0 R rm as h ssc) (PostC Z EL n0 rm h ssc Qc) :=
  Back.of_freeG (bytes := bytes) (maxL := maxL) (ret := ret) (E := fun _ first o t L k n => k = rm.cells ∧ n = rm.slots ∧ ∃ v gs, o = .returned v ∧ Qc v t.heap gs ∧ Fr n0 L ∧ CHr Z EL first.vm h t.vm t.heap ∧ Keep h t.heap ssc ∧ Sf Z EL n0 t.vm t.heap ssc h gs ∧ Old Z n0 t.heap) (M l hst []) hf hl
    (fun m meth c A a Y hp => have hU : Z.Warmed39 A.U.vm := wtrans hZ Y.warmed
      ⟨by show (Cond.and _ .tt).before a A.U = true; rw [Cond.before_and, mv hU wc]; rfl, mv hU wc, mv hU wz, hp.2.2.1, hp.2.2.2.1⟩)
    (fun m meth c A a g mk Y hp => ⟨hp.1, wtrans hZ Y.warmed, hp.2.1, hp.2.2.2.2.1, hp.2.2.2.2.2⟩) (fun _ _ _ A _ _ _ Y _ hg => Jvm.Free.known_frames Y hg hTK hBelow)
    (fun _ _ _ _ ⟨v, L, gs, h1, h2, h3, h4, h5, h6, h7, h8⟩ => ⟨L, _, _, h8, rfl, rfl, v, gs, h1, h2, h3, h4, h5, h6, h7⟩)
    (fun m meth c A a g mk v t L k n Y hp _ _ ⟨e1, e2, v', gs, e3, r⟩ => by cases e3; subst e1 e2; exact ⟨L, gs, r.1, r.2.1, r.2.2.1, r.2.2.2.1, r.2.2.2.2.1, r.2.2.2.2.2, rfl, rfl, rfl⟩)
theorem conBackS {p : Program} {l : Launch} {e : Env} {below : List Frame} {s : State} {args : Array Value} {len W : Nat} (M : Con true Z EL n0 y bytes maxL ret rm as h ssc Qc) (hZ : Z.Warmed39 s.vm) (wc : (Cond.code y bytes maxL ret).before a0 Z = true) (wz : (Cond.initialized y.cls).before a0 Z = true) (hTK : s.vm.MethodsKnown) (hBelow : s.vm.FramesKnown below) (hst : l.stackTraces = true) (hf : rm.frames + 1 ≤ R.frames) (hl : W + (maxL + 11) + rm.locals ≤ R.locals) :
    BackS l R p e below s args y len W (PreC Z EL n0 R rm as h ssc) (PostC Z EL n0 rm h ssc Qc) :=
  BackS.of_freeWG (bytes := bytes) (maxL := maxL) (ret := ret) (E := fun _ first o t L k n => k = rm.cells ∧ n = rm.slots ∧ ∃ v gs, o = .returned v ∧ Qc v t.heap gs ∧ Fr n0 L ∧ CHr Z EL first.vm h t.vm t.heap ∧ Keep h t.heap ssc ∧ Sf Z EL n0 t.vm t.heap ssc h gs ∧ Old Z n0 t.heap) (M l hst []) hf hl
    (fun m meth c A a Y hp => have hU : Z.Warmed39 A.U.vm := wtrans hZ Y.warmed
      ⟨by show (Cond.and _ .tt).before a A.U = true; rw [Cond.before_and, mv hU wc]; rfl, mv hU wc, mv hU wz, hp.2.2.1, hp.2.2.2.1⟩)
    (fun m meth c A a g mk Y hp => ⟨hp.1, wtrans hZ Y.warmed, hp.2.1, hp.2.2.2.2.1, hp.2.2.2.2.2⟩) (fun _ _ _ A _ _ _ Y _ hg => Jvm.Free.known_frames Y hg hTK hBelow)
    (fun _ _ _ _ ⟨v, L, gs, h1, h2, h3, h4, h5, h6, h7, h8⟩ => ⟨L, _, _, h8, rfl, rfl, v, gs, h1, h2, h3, h4, h5, h6, h7⟩)
    (fun m meth c A a g mk v t L k n Y hp _ _ ⟨e1, e2, v', gs, e3, r⟩ => by cases e3; subst e1 e2; exact ⟨L, gs, r.1, r.2.1, r.2.2.1, r.2.2.2.1, r.2.2.2.2.1, r.2.2.2.2.2, rfl, rfl, rfl⟩)
theorem warm1 {vm0 vm₁ : Vm} {s : State} (hZ : Z.Warmed39 vm0) (hE : EW Z a0 EL) (hW : (s.setVm vm0).WarmedH vm₁) (H : CHv Z EL vm0 h) : CHr Z EL vm0 h vm₁ h := by
  have q := CHv.later (h' := h) hZ (hW := (show (Wst Z vm0 h).Warmed39 vm₁ from hW.wide)) hE ⟨Nat.le_refl _, fun _ _ q => q⟩ (Or.inl hW.interned_eq) H
  exact ⟨q.1, Nat.le_refl _, q.2⟩
/-- behind a call -/
theorem after {T : State} {vm0 vm₁ : Vm} {locs : List Loc} {k0 : Nat} (C : Cx w K Z a0 EL own code ml rt mn R) (N : Fr n0 locs) (hS : K.s.Since vm0 k0) (hk : k0 ≤ h.size) (hZ : Z.Warmed39 vm0) (hv : w = false → vm0 = K.s.vm) (hC : CHr Z EL K.s.vm K.s.heap vm0 h) (hF : Sf Z EL n0 vm0 h ss0 K.s.heap ss) (hK : Keep K.s.heap h ss0)
    (hsub : ∀ x ∈ ssc, x ∈ ss) (hW : (K.s.setVm vm0).WarmedH vm₁) {B : Pt} {a : Array Value} {v : Option Value} (hp : PostC Z EL n0 rm h ssc Qc ⟨T.setVm vm₁, locs, k, n⟩ a v B)
    (hX : (w = false ∧ Stand K.p K.l K.e K.R (K.s.setVm vm0) K.m K.args K.below K.meth K.c B.U B.locs B.cells B.slots) ∨ (w = true ∧ Stand K.p K.l K.e K.R (K.s.setVm B.U.vm) K.m K.args K.below K.meth K.c B.U B.locs B.cells B.slots ∧ (K.s.setVm vm0).Since B.U.vm B.U.heap.size)) :
    ∃ gs, Here w K Z EL n0 ss0 B.U B.U.heap (gs ++ ss) (k + rm.cells) (n + rm.slots) ∧ Qc v B.U.heap gs ∧ Keep h B.U.heap ssc := by
  obtain ⟨Lc, gs, hQ, N', hC', hK', hF', hO', l1, l2, l3⟩ := hp
  obtain ⟨U, Ls, kk, nn⟩ := B
  dsimp only [Pt.U, Pt.locs, Pt.cells, Pt.slots] at *
  subst l1 l2 l3
  have D1 := warm1 hZ C.2.2.2.2.2.2.2.2.1 hW hC.1
  have D := D1.trans hC'
  have hKs : Keep K.s.heap U.heap ss0 := hK.trans hK' fun x hx => (hF x (hsub x hx)).2.2.2
  have hFa : Sf Z EL n0 U.vm U.heap ss0 K.s.heap (gs ++ ss) := fun x hx => by
    rcases List.mem_append.mp hx with hx | hx
    · obtain ⟨g1, g2, g3, g4⟩ := hF' x hx
      exact ⟨g1, g2, g3, g4.elim (fun q => (hF x (hsub x q)).2.2.2) fun q => Or.inr (Nat.le_trans hK.1 q)⟩
    · obtain ⟨g1, g2, g3, g4⟩ := hF x hx
      exact ⟨g1, Nat.lt_of_lt_of_le g2 hK'.1, D.safe g2 g3, g4⟩
  refine ⟨gs, ?_, hQ, hK'⟩
  rcases hX with ⟨hw, X⟩ | ⟨hw, X, hS'⟩
  · have hEL : EL = [] := C.2.2.2.2.2.2.2.2.2.1 hw
    subst hEL
    refine ⟨vm0, _, k0, X, N.app N', rfl, hS, Nat.le_trans hk hK'.1, hZ, hv, chr_nil (Nat.le_trans hK.1 hK'.1), fun x hx => ?_, hO', hKs⟩
    obtain ⟨g1, g2, g3, g4⟩ := hFa x hx
    exact ⟨g1, g2, fun ⟨p, hp, _⟩ => by (cases hp), g4⟩
  · exact ⟨U.vm, _, U.heap.size, X, N.app N', rfl, hS.trans hS' (Nat.le_trans hk hK'.1), Nat.le_refl _, State.Warmed39.trans (t := K.s.setVm vm0) hZ hS'.1, (fun q => by rw [hw] at q; cases q), hC.trans D, hFa, hO', hKs⟩
theorem pre {T : State} {vm0 vm₁ : Vm} {locs : List Loc} (C : Cx w K Z a0 EL own code ml rt mn R) (eT : T.heap = h) (hZ : Z.Warmed39 vm0) (hC : CHr Z EL K.s.vm K.s.heap vm0 h) (hF : Sf Z EL n0 vm0 h ss0 K.s.heap ss) (hsub : ∀ x ∈ ssc, x ∈ ss) (hW : (K.s.setVm vm0).WarmedH vm₁) (hc : k + rm.cells ≤ R.cells) (hn : n + rm.slots ≤ R.slots) :
    PreC Z EL n0 K.R rm as h ssc ⟨T.setVm vm₁, locs, k, n⟩ as.toArray := by
  have hR : K.R = R := C.2.2.2.2.2.2.2.1
  have D1 := warm1 hZ C.2.2.2.2.2.2.2.2.1 hW hC.1
  exact ⟨rfl, eT, by rw [hR]; exact hc, by rw [hR]; exact hn, D1.1, fun x hx => by
    obtain ⟨g1, g2, g3, g4⟩ := hF x (hsub x hx)
    exact ⟨g1, g2, D1.safe g2 g3⟩⟩
theorem callS_ {rf rc rs rl cf cc cs cl : Nat} (C : Cx w K Z a0 EL own code ml rt mn (Rm rf rc rs rl)) {i : Nat} {ps : List FieldType} {r : Option FieldType} (wl : (Cond.methodLink own i y).before a0 Z = true) (ws : (Cond.static y).before a0 Z = true) (wi : (Cond.initialized y.cls).before a0 Z = true) (wc : (Cond.code y bytes maxL ret).before a0 Z = true) (hy : y.cls ≠ "java/lang/invoke/MethodHandle" ∧ y.cls ≠ "java/lang/invoke/VarHandle") (pd : parseMethodDescriptor y.desc = some ⟨ps, r⟩) (hl : as.length = ps.length) (M : Old Z n0 h → Con w Z EL n0 y bytes maxL ret (Rm cf cc cs cl) as h ssc Qc) (hsub : ∀ x ∈ ssc, x ∈ ss) (hL : L.size = ml) (hfr : cf + 1 ≤ rf) (hlo : (st.map fun v => v.category).sum + (maxL + 11) + cl ≤ rl) (hc : k + cc ≤ rc) (hn : n + cs ≤ rs) (d : Dc code pc (.invokestatic i) 3 pc') (hst : stk = as.reverse ++ st) (G : ∀ v h' gs, Keep h h' ssc → Qc v h' gs → Go w K Z EL n0 ss0 Q pc' L (v.toList ++ st) h' (gs ++ ss) (k + cc) (n + cs)) : Go w K Z EL n0 ss0 Q pc L stk h ss k n := by
  obtain ⟨d1, rfl⟩ := d
  subst hst
  intro T H
  obtain ⟨vm0, locs, k0, X, N, eT, hS, hk, hZ, hv, hC, hF, hO, hK⟩ := H
  have hR : K.R = Rm rf rc rs rl := C.2.2.2.2.2.2.2.1
  have hown : (K.s.setVm vm0).vm.findClass own = some K.m.cls := fcl C hS
  have hZ' : Z.Warmed39 (K.s.setVm vm0).vm := hZ
  have hsz : L.size = K.c.maxLocals := hL.trans C.2.2.1.symm
  cases w with
  | false =>
    obtain ⟨v, vm₁, B, hW, X', hp, stp⟩ := Jvm.LawKit.callS X C.1 (y := y) hown (mvT hZ' wl) (mvT hZ' ws) (mvT hZ' wi) (mvT hZ' wc) hy (conBack (W := (st.map fun v => v.category).sum) (M hO) hZ' wc wi (Vm.MethodsKnown.alikeC hS.1.alike C.2.2.2.2.2.2.2.2.2.2.1) (Vm.FramesKnown.alikeC hS.1.alike C.2.2.2.2.2.2.2.2.2.2.2.1) C.2.2.2.2.2.2.2.2.2.2.2.2 (by rw [hR]; exact hfr) (by rw [hR]; exact hlo)) (g := mkF K.m pc L (as.reverse ++ st)) rfl hsz (argsL := as) (rest := st) (lenOf pd hl) rfl (by show 2 * 0 + _ ≤ _; omega) (hb C.2.1 d1) (fun vm₁ hW => pre C eT hZ hC hF hsub hW hc hn)
    obtain ⟨gs, H', hQ, hKe⟩ := after C N hS hk hZ hv hC hF hK hsub hW hp (Or.inl ⟨rfl, X'⟩)
    exact Fns.steps stp (G v _ gs hKe hQ _ H')
  | true =>
    obtain ⟨v, vm₁, B, hW, X', hS', -, hp, stp⟩ := callSS X C.1 (y := y) hown (mvT hZ' wl) (mvT hZ' ws) (mvT hZ' wi) (mvT hZ' wc) hy (conBackS (W := (st.map fun v => v.category).sum) (M hO) hZ' wc wi (Vm.MethodsKnown.alikeC hS.1.alike C.2.2.2.2.2.2.2.2.2.2.1) (Vm.FramesKnown.alikeC hS.1.alike C.2.2.2.2.2.2.2.2.2.2.2.1) C.2.2.2.2.2.2.2.2.2.2.2.2 (by rw [hR]; exact hfr) (by rw [hR]; exact hlo)) (g := mkF K.m pc L (as.reverse ++ st)) rfl hsz (argsL := as) (rest := st) (lenOf pd hl) rfl (by show 2 * 0 + _ ≤ _; omega) (hb C.2.1 d1) (fun vm₁ hW => pre C eT hZ hC hF hsub hW hc hn)
    obtain ⟨gs, H', hQ, hKe⟩ := after C N hS hk hZ hv hC hF hK hsub hW hp (Or.inr ⟨rfl, X', hS'⟩)
    exact Fns.steps (fun t r => stp.trans r) (G v _ gs hKe hQ _ H')
theorem callI_ {rf rc rs rl cf cc cs cl : Nat} (C : Cx w K Z a0 EL own code ml rt mn (Rm rf rc rs rl)) {i : Nat} {ps : List FieldType} {r : Option FieldType} {a : Addr} {as' : List Value} (hy1 : y.name = "<init>") (wl : (Cond.methodLink own i y).before a0 Z = true) (wm : (Cond.instanceMethod y).before a0 Z = true) (wi : (Cond.initialized y.cls).before a0 Z = true) (wc : (Cond.code y bytes maxL none).before a0 Z = true) (hy : y.cls ≠ "java/lang/invoke/MethodHandle" ∧ y.cls ≠ "java/lang/invoke/VarHandle") (pd : parseMethodDescriptor y.desc = some ⟨ps, r⟩) (hl : as'.length = ps.length) (M : Old Z n0 h → Con w Z EL n0 y bytes maxL none (Rm cf cc cs cl) (.ref a :: as') h ssc Qc) (hsub : ∀ x ∈ ssc, x ∈ ss) (hL : L.size = ml) (hfr : cf + 1 ≤ rf) (hlo : (st.map fun v => v.category).sum + (maxL + 11) + cl ≤ rl) (hc : k + cc ≤ rc) (hn : n + cs ≤ rs) (d : Dc code pc (.invokespecial i) 3 pc') (hst : stk = as'.reverse ++ .ref a :: st) (G : ∀ v h' gs, Keep h h' ssc → Qc v h' gs → Go w K Z EL n0 ss0 Q pc' L (v.toList ++ st) h' (gs ++ ss) (k + cc) (n + cs)) : Go w K Z EL n0 ss0 Q pc L stk h ss k n := by
  obtain ⟨d1, rfl⟩ := d
  subst hst
  intro T H
  obtain ⟨vm0, locs, k0, X, N, eT, hS, hk, hZ, hv, hC, hF, hO, hK⟩ := H
  have hR : K.R = Rm rf rc rs rl := C.2.2.2.2.2.2.2.1
  have hown : (K.s.setVm vm0).vm.findClass own = some K.m.cls := fcl C hS
  have hZ' : Z.Warmed39 (K.s.setVm vm0).vm := hZ
  have hsz : L.size = K.c.maxLocals := hL.trans C.2.2.1.symm
  cases w with
  | false =>
    obtain ⟨v, vm₁, B, hW, X', hp, stp⟩ := X.specialBack C.1 (y := y) hy1 hown (mvT hZ' wl) (mvT hZ' wm) (mvT hZ' wc) hy (conBack (W := (st.map fun v => v.category).sum) (M hO) hZ' wc wi (Vm.MethodsKnown.alikeC hS.1.alike C.2.2.2.2.2.2.2.2.2.2.1) (Vm.FramesKnown.alikeC hS.1.alike C.2.2.2.2.2.2.2.2.2.2.2.1) C.2.2.2.2.2.2.2.2.2.2.2.2 (by rw [hR]; exact hfr) (by rw [hR]; exact hlo)) (g := mkF K.m pc L (as'.reverse ++ .ref a :: st)) rfl hsz (Steps.refl _) (a := a) (argsL := as') (rest := st) (lenOf pd hl) rfl (by show 2 * 0 + _ ≤ _; omega) (hb C.2.1 d1) (fun vm₁ hW => pre C eT hZ hC hF hsub hW hc hn)
    obtain ⟨gs, H', hQ, hKe⟩ := after C N hS hk hZ hv hC hF hK hsub hW hp (Or.inl ⟨rfl, X'⟩)
    exact Fns.steps (fun t r => stp.trans r) (G v _ gs hKe hQ _ H')
  | true =>
    obtain ⟨v, vm₁, B, hW, X', hS', -, hp, stp⟩ := X.specialBackS C.1 (y := y) hy1 hown (mvT hZ' wl) (mvT hZ' wm) (mvT hZ' wc) hy (conBackS (W := (st.map fun v => v.category).sum) (M hO) hZ' wc wi (Vm.MethodsKnown.alikeC hS.1.alike C.2.2.2.2.2.2.2.2.2.2.1) (Vm.FramesKnown.alikeC hS.1.alike C.2.2.2.2.2.2.2.2.2.2.2.1) C.2.2.2.2.2.2.2.2.2.2.2.2 (by rw [hR]; exact hfr) (by rw [hR]; exact hlo)) (g := mkF K.m pc L (as'.reverse ++ .ref a :: st)) rfl hsz (Steps.refl _) (a := a) (argsL := as') (rest := st) (lenOf pd hl) rfl (by show 2 * 0 + _ ≤ _; omega) (hb C.2.1 d1) (fun vm₁ hW => pre C eT hZ hC hF hsub hW hc hn)
    obtain ⟨gs, H', hQ, hKe⟩ := after C N hS hk hZ hv hC hF hK hsub hW hp (Or.inr ⟨rfl, X', hS'⟩)
    exact Fns.steps (fun t r => stp.trans r) (G v _ gs hKe hQ _ H')
theorem callV_ {rf rc rs rl cf cc cs cl : Nat} (C : Cx w K Z a0 EL own code ml rt mn (Rm rf rc rs rl)) {i : Nat} {ps : List FieldType} {r : Option FieldType} {a : Addr} {as' : List Value} {O : String} {x : MethodName} (wl : (Cond.methodLink own i x).before a0 Z = true) (wd : (Cond.declares x).before a0 Z = true) (hnf : ∀ s : State, Z.Warmed39 s.vm → NotFace s x) (wse : (Cond.selects O x y).before a0 Z = true) (wm : (Cond.instanceMethod y).before a0 Z = true) (wi : (Cond.initialized y.cls).before a0 Z = true) (wc : (Cond.code y bytes maxL ret).before a0 Z = true) (hy : x.cls ≠ "java/lang/invoke/MethodHandle" ∧ x.cls ≠ "java/lang/invoke/VarHandle") (E : Exa Z h a O) (pd : parseMethodDescriptor x.desc = some ⟨ps, r⟩) (hl : as'.length = ps.length) (M : Old Z n0 h → Con w Z EL n0 y bytes maxL ret (Rm cf cc cs cl) (.ref a :: as') h ssc Qc) (hsub : ∀ x ∈ ssc, x ∈ ss) (hL : L.size = ml) (hfr : cf + 1 ≤ rf) (hlo : (st.map fun v => v.category).sum + (maxL + 11) + cl ≤ rl) (hc : k + cc ≤ rc) (hn : n + cs ≤ rs) (d : Dc code pc (.invokevirtual i) 3 pc') (hst : stk = as'.reverse ++ .ref a :: st) (G : ∀ v h' gs, Keep h h' ssc → Qc v h' gs → Go w K Z EL n0 ss0 Q pc' L (v.toList ++ st) h' (gs ++ ss) (k + cc) (n + cs)) : Go w K Z EL n0 ss0 Q pc L stk h ss k n := by
  obtain ⟨d1, rfl⟩ := d
  subst hst
  intro T H
  obtain ⟨vm0, locs, k0, X, N, eT, hS, hk, hZ, hv, hC, hF, hO, hK⟩ := H
  have hR : K.R = Rm rf rc rs rl := C.2.2.2.2.2.2.2.1
  have hown : (K.s.setVm vm0).vm.findClass own = some K.m.cls := fcl C hS
  have hZ' : Z.Warmed39 (K.s.setVm vm0).vm := hZ
  have hsz : L.size = K.c.maxLocals := hL.trans C.2.2.1.symm
  obtain ⟨cq, kq, qa, qb, qc⟩ := isOf (T := T) hZ' eT E
  cases w with
  | false =>
    obtain ⟨v, vm₁, B, hW, X', hp, stp⟩ := X.virtualBack C.1 (y := x) (z := y) hown (mvT hZ' wl) (mvT hZ' wd) (hnf _ hZ') (mvT hZ' wse) (mvT hZ' wm) hy (conBack (W := (st.map fun v => v.category).sum) (M hO) hZ' wc wi (Vm.MethodsKnown.alikeC hS.1.alike C.2.2.2.2.2.2.2.2.2.2.1) (Vm.FramesKnown.alikeC hS.1.alike C.2.2.2.2.2.2.2.2.2.2.2.1) C.2.2.2.2.2.2.2.2.2.2.2.2 (by rw [hR]; exact hfr) (by rw [hR]; exact hlo)) qa qc (g := mkF K.m pc L (as'.reverse ++ .ref a :: st)) rfl hsz (Steps.refl _) (argsL := as') (rest := st) (lenOf pd hl) rfl (by show 2 * 0 + _ ≤ _; omega) (hb C.2.1 d1) (fun vm₁ hW => pre C eT hZ hC hF hsub hW hc hn)
    obtain ⟨gs, H', hQ, hKe⟩ := after C N hS hk hZ hv hC hF hK hsub hW hp (Or.inl ⟨rfl, X'⟩)
    exact Fns.steps (fun t r => stp.trans r) (G v _ gs hKe hQ _ H')
  | true =>
    obtain ⟨v, vm₁, B, hW, X', hS', -, hp, stp⟩ := X.virtualBackS C.1 (y := x) (z := y) hown (mvT hZ' wl) (mvT hZ' wd) (hnf _ hZ') (mvT hZ' wse) (mvT hZ' wm) hy (conBackS (W := (st.map fun v => v.category).sum) (M hO) hZ' wc wi (Vm.MethodsKnown.alikeC hS.1.alike C.2.2.2.2.2.2.2.2.2.2.1) (Vm.FramesKnown.alikeC hS.1.alike C.2.2.2.2.2.2.2.2.2.2.2.1) C.2.2.2.2.2.2.2.2.2.2.2.2 (by rw [hR]; exact hfr) (by rw [hR]; exact hlo)) qa qc (g := mkF K.m pc L (as'.reverse ++ .ref a :: st)) rfl hsz (Steps.refl _) (argsL := as') (rest := st) (lenOf pd hl) rfl (by show 2 * 0 + _ ≤ _; omega) (hb C.2.1 d1) (fun vm₁ hW => pre C eT hZ hC hF hsub hW hc hn)
    obtain ⟨gs, H', hQ, hKe⟩ := after C N hS hk hZ hv hC hF hK hsub hW hp (Or.inr ⟨rfl, X', hS'⟩)
    exact Fns.steps (fun t r => stp.trans r) (G v _ gs hKe hQ _ H')
theorem callP_ {rf rc rs rl cf cc cs cl : Nat} (C : Cx w K Z a0 EL own code ml rt mn (Rm rf rc rs rl)) {i : Nat} {ps : List FieldType} {r : Option FieldType} {a : Addr} {as' : List Value} {O O' : String} (wl : (Cond.methodLink own i y).before a0 Z = true) (wm : (Cond.instanceMethod y).before a0 Z = true) (wse : (Cond.selects O' y y).before a0 Z = true) (wp : (Cond.privateMethod y).before a0 Z = true) (wi : (Cond.initialized y.cls).before a0 Z = true) (wc : (Cond.code y bytes maxL ret).before a0 Z = true) (hy : y.cls ≠ "java/lang/invoke/MethodHandle" ∧ y.cls ≠ "java/lang/invoke/VarHandle") (E : Exa Z h a O) (pd : parseMethodDescriptor y.desc = some ⟨ps, r⟩) (hl : as'.length = ps.length) (M : Old Z n0 h → Con w Z EL n0 y bytes maxL ret (Rm cf cc cs cl) (.ref a :: as') h ssc Qc) (hsub : ∀ x ∈ ssc, x ∈ ss) (hL : L.size = ml) (hfr : cf + 1 ≤ rf) (hlo : (st.map fun v => v.category).sum + (maxL + 11) + cl ≤ rl) (hc : k + cc ≤ rc) (hn : n + cs ≤ rs) (d : Dc code pc (.invokevirtual i) 3 pc') (hst : stk = as'.reverse ++ .ref a :: st) (G : ∀ v h' gs, Keep h h' ssc → Qc v h' gs → Go w K Z EL n0 ss0 Q pc' L (v.toList ++ st) h' (gs ++ ss) (k + cc) (n + cs)) : Go w K Z EL n0 ss0 Q pc L stk h ss k n := by
  obtain ⟨d1, rfl⟩ := d
  subst hst
  intro T H
  obtain ⟨vm0, locs, k0, X, N, eT, hS, hk, hZ, hv, hC, hF, hO, hK⟩ := H
  have hR : K.R = Rm rf rc rs rl := C.2.2.2.2.2.2.2.1
  have hown : (K.s.setVm vm0).vm.findClass own = some K.m.cls := fcl C hS
  have hZ' : Z.Warmed39 (K.s.setVm vm0).vm := hZ
  have hsz : L.size = K.c.maxLocals := hL.trans C.2.2.1.symm
  obtain ⟨cq, q1, q2⟩ := E.cell
  have hpriv : (K.s.setVm vm0).PrivateAt y := Cond.privateMethod_at (mvP hZ' wp (args := #[]))
  obtain ⟨c2, r2, m2, -, -, q3, -, kP, hkP, hkPi⟩ := Cond.selects_spec (mvT hZ' wse (args := K.args))
  have hself : (Cond.selects y.cls y y).before K.args (K.s.setVm vm0) = true := selects_self_of_private (findClass_of_methodNamed q3) hkP hkPi hpriv (mvT hZ' wm) hy
  cases w with
  | false =>
    obtain ⟨v, vm₁, B, hW, X', hp, stp⟩ := X.privateBack C.1 (y := y) hown (mvT hZ' wl) (mvT hZ' wm) hself hpriv (mvT hZ' wc) hy (conBack (W := (st.map fun v => v.category).sum) (M hO) hZ' wc wi (Vm.MethodsKnown.alikeC hS.1.alike C.2.2.2.2.2.2.2.2.2.2.1) (Vm.FramesKnown.alikeC hS.1.alike C.2.2.2.2.2.2.2.2.2.2.2.1) C.2.2.2.2.2.2.2.2.2.2.2.2 (by rw [hR]; exact hfr) (by rw [hR]; exact hlo)) (g := mkF K.m pc L (as'.reverse ++ .ref a :: st)) rfl hsz (Steps.refl _) (a := a) (by rw [eT]; exact q1) q2 (argsL := as') (rest := st) (lenOf pd hl) rfl (by show 2 * 0 + _ ≤ _; omega) (hb C.2.1 d1) (fun vm₁ hW => pre C eT hZ hC hF hsub hW hc hn)
    obtain ⟨gs, H', hQ, hKe⟩ := after C N hS hk hZ hv hC hF hK hsub hW hp (Or.inl ⟨rfl, X'⟩)
    exact Fns.steps (fun t r => stp.trans r) (G v _ gs hKe hQ _ H')
  | true =>
    obtain ⟨v, vm₁, B, hW, X', hS', -, hp, stp⟩ := X.privateBackS C.1 (y := y) hown (mvT hZ' wl) (mvT hZ' wm) hself hpriv (mvT hZ' wc) hy (conBackS (W := (st.map fun v => v.category).sum) (M hO) hZ' wc wi (Vm.MethodsKnown.alikeC hS.1.alike C.2.2.2.2.2.2.2.2.2.2.1) (Vm.FramesKnown.alikeC hS.1.alike C.2.2.2.2.2.2.2.2.2.2.2.1) C.2.2.2.2.2.2.2.2.2.2.2.2 (by rw [hR]; exact hfr) (by rw [hR]; exact hlo)) (g := mkF K.m pc L (as'.reverse ++ .ref a :: st)) rfl hsz (Steps.refl _) (a := a) (by rw [eT]; exact q1) q2 (argsL := as') (rest := st) (lenOf pd hl) rfl (by show 2 * 0 + _ ≤ _; omega) (hb C.2.1 d1) (fun vm₁ hW => pre C eT hZ hC hF hsub hW hc hn)
    obtain ⟨gs, H', hQ, hKe⟩ := after C N hS hk hZ hv hC hF hK hsub hW hp (Or.inr ⟨rfl, X', hS'⟩)
    exact Fns.steps (fun t r => stp.trans r) (G v _ gs hKe hQ _ H')
theorem callU_ {rf rc rs rl cf cc cs cl : Nat} (C : Cx w K Z a0 EL own code ml rt mn (Rm rf rc rs rl)) {i : Nat} {ps : List FieldType} {r : Option FieldType} {a : Addr} {as' : List Value} {O : String} (wl : (Cond.methodLink own i y).before a0 Z = true) (wsm : (Cond.sameMethod y.cls y.cls y.name y.desc).before a0 Z = true) (wm : (Cond.instanceMethod y).before a0 Z = true) (wsu : (Cond.superclass own y.cls).before a0 Z = true) (hnm : y.name ≠ "<init>") (wi : (Cond.initialized y.cls).before a0 Z = true) (wc : (Cond.code y bytes maxL ret).before a0 Z = true) (E : Exa Z h a O) (pd : parseMethodDescriptor y.desc = some ⟨ps, r⟩) (hl : as'.length = ps.length) (M : Old Z n0 h → Con w Z EL n0 y bytes maxL ret (Rm cf cc cs cl) (.ref a :: as') h ssc Qc) (hsub : ∀ x ∈ ssc, x ∈ ss) (hL : L.size = ml) (hfr : cf + 1 ≤ rf) (hlo : (st.map fun v => v.category).sum + (maxL + 11) + cl ≤ rl) (hc : k + cc ≤ rc) (hn : n + cs ≤ rs) (d : Dc code pc (.invokespecial i) 3 pc') (hst : stk = as'.reverse ++ .ref a :: st) (G : ∀ v h' gs, Keep h h' ssc → Qc v h' gs → Go w K Z EL n0 ss0 Q pc' L (v.toList ++ st) h' (gs ++ ss) (k + cc) (n + cs)) : Go w K Z EL n0 ss0 Q pc L stk h ss k n := by
  obtain ⟨d1, rfl⟩ := d
  subst hst
  intro T H
  obtain ⟨vm0, locs, k0, X, N, eT, hS, hk, hZ, hv, hC, hF, hO, hK⟩ := H
  have hR : K.R = Rm rf rc rs rl := C.2.2.2.2.2.2.2.1
  have hown : (K.s.setVm vm0).vm.findClass own = some K.m.cls := fcl C hS
  have hZ' : Z.Warmed39 (K.s.setVm vm0).vm := hZ
  have hsz : L.size = K.c.maxLocals := hL.trans C.2.2.1.symm
  cases w with
  | false =>
    obtain ⟨v, vm₁, B, hW, X', hp, stp⟩ := superBack X C.1 hZ' (y := y) hown wl wsm wm wsu hnm (conBack (W := (st.map fun v => v.category).sum) (M hO) hZ' wc wi (Vm.MethodsKnown.alikeC hS.1.alike C.2.2.2.2.2.2.2.2.2.2.1) (Vm.FramesKnown.alikeC hS.1.alike C.2.2.2.2.2.2.2.2.2.2.2.1) C.2.2.2.2.2.2.2.2.2.2.2.2 (by rw [hR]; exact hfr) (by rw [hR]; exact hlo)) eT (Ins.self E) (g := mkF K.m pc L (as'.reverse ++ .ref a :: st)) rfl hsz wc (argsL := as') (rest := st) (lenOf pd hl) rfl (by show 2 * 0 + _ ≤ _; omega) (hb C.2.1 d1) (fun vm₁ hW => pre C eT hZ hC hF hsub hW hc hn)
    obtain ⟨gs, H', hQ, hKe⟩ := after C N hS hk hZ hv hC hF hK hsub hW hp (Or.inl ⟨rfl, X'⟩)
    exact Fns.steps (fun t r => stp.trans r) (G v _ gs hKe hQ _ H')
  | true =>
    obtain ⟨v, vm₁, B, hW, X', hS', -, hp, stp⟩ := superBackS X C.1 hZ' (y := y) hown wl wsm wm wsu hnm (conBackS (W := (st.map fun v => v.category).sum) (M hO) hZ' wc wi (Vm.MethodsKnown.alikeC hS.1.alike C.2.2.2.2.2.2.2.2.2.2.1) (Vm.FramesKnown.alikeC hS.1.alike C.2.2.2.2.2.2.2.2.2.2.2.1) C.2.2.2.2.2.2.2.2.2.2.2.2 (by rw [hR]; exact hfr) (by rw [hR]; exact hlo)) eT (Ins.self E) (g := mkF K.m pc L (as'.reverse ++ .ref a :: st)) rfl hsz wc (argsL := as') (rest := st) (lenOf pd hl) rfl (by show 2 * 0 + _ ≤ _; omega) (hb C.2.1 d1) (fun vm₁ hW => pre C eT hZ hC hF hsub hW hc hn)
    obtain ⟨gs, H', hQ, hKe⟩ := after C N hS hk hZ hv hC hF hK hsub hW hp (Or.inr ⟨rfl, X', hS'⟩)
    exact Fns.steps (fun t r => stp.trans r) (G v _ gs hKe hQ _ H')
theorem Ary.ofArv {b : Addr} {kc : ClassId} {ty : FieldType} {z : Int32} {vs : List Value} {dv : Value} (F : Arv Z h b kc ty z vs dv) (hl : z.toNatClampNeg = vs.length) : Ary Z h b ty vs := by
  obtain ⟨c, A, -, e2, -, H, -⟩ := F
  have hlt := rng32 z
  refine ⟨c, A, ?_, by rw [← hl]; simp only [Int32.toNatClampNeg]; omega⟩
  apply Array.ext_getElem?
  intro j
  by_cases q : j < c.slots.size
  · rw [H j q]
    have q' : j < vs.length := by omega
    simp [q']
  · have q' : ¬ j < vs.length := by omega
    rw [Array.getElem?_eq_none (by omega)]
    simp; omega
theorem ldcS_ {w : Bool} {rf rc rs rl : Nat} (hw : w = true) (C : Cx w K Z a0 EL own code ml rt mn (Rm rf rc rs rl)) {i : Nat} {text : String} (wl : (Cond.stringLink own i text).before a0 Z = true) (wS : ∀ a ∈ Bundle.stringAtoms, a.before a0 Z = true) (hmem : (own, i) ∈ EL)
    {vs : List Value} {z : Int32} (ht : (∀ c ∈ text.toList, c.toNat < 256) ∧ text.toList.map (fun c => Value.int (Jvm.Lit.byteI c.toNat.toUInt16)) = vs) (hz : ¬ z < 0) (hl : z.toNatClampNeg = vs.length) {nn : Nat} (hnn : 4 * text.toList.length ≤ nn) (hbig : nn ≤ 536870912) (hc : k + 2 ≤ rc) (hn : n + (nn + 4) ≤ rs)
    (d : Dc code pc (.ldc i) 2 pc') (G : ∀ h' a b, Keep h h' [] → Exa Z h' a "java/lang/String" → Fld Z h' a "java/lang/String" "coder" "B" (.int 0) → Fld Z h' a "java/lang/String" "value" "[B" (.ref b) → Ary Z h' b .byte vs → (∀ x ∈ ss, x ≠ a ∧ x ≠ b) → Go w K Z EL n0 ss0 Q pc' L (.ref a :: st) h' ss (k + 2) (n + (nn + 4))) : Go w K Z EL n0 ss0 Q pc L st h ss k n := by
  obtain ⟨d1, rfl⟩ := d
  intro T H
  obtain ⟨vm0, locs, k0, X, N, eT, hS, hk, hZ, hv, hC, hF, hO, hK⟩ := H
  have hR : K.R = Rm rf rc rs rl := C.2.2.2.2.2.2.2.1
  have hown : vm0.findClass own = some K.m.cls := fcl C hS
  obtain ⟨a, T', h', k1, b, kb, X', e', E, hS', hk', hZ', -, g1, g2, g3, g4, -, -, hCr, -, hSf, stp⟩ := ldcCH X C.1 hZ hown wl wS eT hS hk C.2.2.2.2.2.2.2.2.1 hmem hC.1 ht hz hl (g := mkF K.m pc L st) rfl (hb C.2.1 d1) hnn hbig (by rw [hR]; exact hc) (by rw [hR]; exact hn)
  have hF' : Sf Z EL n0 T'.vm h' ss0 K.s.heap ss := fun x hx => by
    obtain ⟨f1, f2, f3, f4⟩ := hF x hx
    exact ⟨f1, Nat.lt_of_lt_of_le f2 E.1, hCr.safe f2 f3, f4⟩
  exact Fns.steps stp (G h' a b ((Keep.refl h []).ext E) g1 g2 g3 (Ary.ofArv g4 hl) (fun x hx => hSf x (hF' x hx).2.2.1) T' ⟨T'.vm, locs, k1, X', N, e', hS', hk', hZ', (fun q => by rw [hw] at q; cases q), hC.trans hCr, hF', hO.ext E, hK.ext E⟩)
end Calls
end Jvm.Own
namespace Jvm.Own
open Jvm Jvm.ClassFile Sem Op Lib Jvm.Free Jvm.Stand Jvm.LawKit Jvm.RoadKit
/-- two roads that meet again with an int on the stack -/
theorem Go.join {w : Bool} {K : IV} {Z : State} {EL : List (String × Nat)} {n0 : Nat} {ss0 ss : List Addr} {Q : Option Value → Heap → List Addr → Prop} {pc pcJ : Nat} {L LJ : Array Slot} {st stJ : List Value} {h : Heap} {k n : Nat} {c : Prop} [Decidable c] {x y : Int32}
    (B : (c → Go w K Z EL n0 ss0 Q pcJ LJ (.int x :: stJ) h ss k n) → (¬ c → Go w K Z EL n0 ss0 Q pcJ LJ (.int y :: stJ) h ss k n) → Go w K Z EL n0 ss0 Q pc L st h ss k n) (G : Go w K Z EL n0 ss0 Q pcJ LJ (.int (if c then x else y) :: stJ) h ss k n) : Go w K Z EL n0 ss0 Q pc L st h ss k n :=
  B (fun q => by rw [if_pos q] at G; exact G) (fun q => by rw [if_neg q] at G; exact G)
end Jvm.Own
namespace Jvm.Own
open Jvm Jvm.ClassFile Sem Op Lib Jvm.Free Jvm.Stand Jvm.LawKit Jvm.RoadKit
/-! OWN KIT 4: Strings, plain facts on chars and indices -/
theorem catR {v : Value} (h : v.isRef = true) : v.category = 1 := by cases v <;> simp_all [Value.isRef, Value.category]
theorem st1 {L L' : Array Slot} {j : Nat} {v : Value} {o : Slot} (hold : L[j]? = some o) (ho : o = .unset ∨ ∃ w, o = .val w ∧ w.category = 1) (hv : v.category = 1) (e : L.setIfInBounds j (.val v) = L') : storeLocals L j v = some L' := e ▸ XS.store1 hold ho hv
def isCh (c : Int32) : Prop := 0 ≤ c.toInt ∧ c.toInt < 65536
def chs (cs : List Int32) : List Value := cs.map Value.int
def lat (cs : List Int32) : List Value := cs.map fun c => Value.int (nar .byte c)
def utf (cs : List Int32) : List Value := cs.flatMap fun c => [Value.int (nar .byte c), Value.int (nar .byte (c >>> 8))]
theorem chs_len (cs : List Int32) : (chs cs).length = cs.length := by simp [chs]
theorem lat_len (cs : List Int32) : (lat cs).length = cs.length := by simp [lat]
theorem utf_len (cs : List Int32) : (utf cs).length = 2 * cs.length := by
  induction cs with
  | nil => rfl
  | cons c r ih => simp [utf] at ih ⊢; omega
theorem i32e {x y : Int32} (h : x.toInt = y.toInt) : x = y := Int32.toInt_inj.mp h
theorem lt32 (x y : Int32) : x < y ↔ x.toInt < y.toInt := Int32.lt_iff_toInt_lt
theorem narc (x : Int32) : ((nar .char x).toInt - x.toInt) % 65536 = 0 ∧ 0 ≤ (nar .char x).toInt ∧ (nar .char x).toInt < 65536 := c_i2c x
theorem narb (x : Int32) : ((nar .byte x).toInt - x.toInt) % 256 = 0 ∧ -128 ≤ (nar .byte x).toInt ∧ (nar .byte x).toInt < 128 := c_i2b x
theorem narc_id {x : Int32} (h : isCh x) : nar .char x = x := i32e (by have := narc x; have := h.1; have := h.2; omega)
theorem narc_ch (x : Int32) : isCh (nar .char x) := (narc x).2
theorem narb_id {x : Int32} (h : -128 ≤ x.toInt ∧ x.toInt < 128) : nar .byte x = x := i32e (by have := narb x; omega)
theorem narb_idem (x : Int32) : nar .byte (nar .byte x) = nar .byte x := narb_id (narb x).2
theorem narc_idem (x : Int32) : nar .char (nar .char x) = nar .char x := narc_id (narc_ch x)
theorem mask8 (x : Int32) : (x &&& 255).toInt = x.toInt % 256 := c_mask x 255 8 (by decide) (by decide)
theorem lat_char {c : Int32} (h : 0 ≤ c.toInt ∧ c.toInt < 256) : nar .char (nar .byte c &&& 255) = c := by
  have e := mask8 (nar .byte c)
  have := narb c
  rw [narc_id (by unfold isCh; omega)]
  exact i32e (by omega)
theorem narb_inj {x y : Int32} (hx : 0 ≤ x.toInt ∧ x.toInt < 256) (hy : 0 ≤ y.toInt ∧ y.toInt < 256) (h : nar .byte x = nar .byte y) : x = y := i32e (by
  have a := narb x; have b := narb y; rw [h] at a; omega)
def natI (i : Nat) : Int32 := Nat.toInt32 i
theorem natI_toInt {i : Nat} (h : i < 2 ^ 31) : (natI i).toInt = i := len_toInt h
theorem natI_clamp {i : Nat} (h : i < 2 ^ 31) : (natI i).toNatClampNeg = i := by
  show (natI i).toInt.toNat = i
  rw [natI_toInt h]; rfl
theorem natI_succ {i : Nat} (h : i + 1 < 2 ^ 31) : natI i + 1 = natI (i + 1) := i32e (by
  have a := c_iadd (natI i) 1
  have b := natI_toInt (i := i) (by omega)
  have c := natI_toInt h
  have d : (1 : Int32).toInt = 1 := rfl
  have := rng32 (natI i + 1)
  omega)
/-- the bytes of a String that spells cs -/
def Byt (cs : List Int32) (z : Int32) (vs : List Value) : Prop := ((∀ c ∈ cs, c.toInt < 256) ∧ z = 0 ∧ vs = lat cs) ∨ ((∃ c ∈ cs, 256 ≤ c.toInt) ∧ z = 1 ∧ vs = utf cs)
abbrev sS : String := "java/lang/String"
/-- at a lies a String that spells cs -/
def Str (Z : State) (h : Heap) (a : Addr) (cs : List Int32) : Prop := Exa Z h a "java/lang/String" ∧ (∀ c ∈ cs, isCh c) ∧ cs.length ≤ 4096 ∧ ∃ (b : Addr) (z : Int32) (vs : List Value), Fld Z h a "java/lang/String" "value" "[B" (.ref b) ∧ Fld Z h a "java/lang/String" "coder" "B" (.int z) ∧ Ary Z h b .byte vs ∧ Byt cs z vs
section Facts
variable {Z : State} {h h' : Heap} {a b x : Addr} {cs cs' : List Int32} {a0 : Array Value}
theorem Str.keep (F : Str Z h a cs) (K : Keep h h' []) : Str Z h' a cs := by
  obtain ⟨E, h1, h2, b, z, vs, F1, F2, A, B⟩ := F
  exact ⟨E.keep K, h1, h2, b, z, vs, F1.keep K nin0, F2.keep K nin0, A.keep K nin0, B⟩
theorem Str.keepX {C : String} {kk : Nat} (F : Str Z h a cs) (K : Keep h h' [x]) (E : Exa Z h x C) (hC : "java/lang/String" ≠ C) (wi : (Cond.instantiable C kk).before a0 Z = true) : Str Z h' a cs := by
  obtain ⟨E0, h1, h2, b, z, vs, F1, F2, A, B⟩ := F
  have n1 : a ∉ [x] := ninS (ne_exa E0 E hC) nin0
  have n2 : b ∉ [x] := ninS (by obtain ⟨c, A', -⟩ := A; exact (ne_arr E wi A').symm) nin0
  exact ⟨E0.keep K, h1, h2, b, z, vs, F1.keep K n1, F2.keep K n1, A.keep K n2, B⟩
theorem Str.lt (F : Str Z h a cs) : a < h.size := F.1.lt
theorem Fld.fn {C n d : String} {v w : Value} (F : Fld Z h a C n d v) (G : Fld Z h a C n d w) : v = w := by
  by_cases q : v = w
  · exact q
  · exact absurd rfl (F.ne G q)
theorem Ary.fn {ty : FieldType} {vs ws : List Value} (F : Ary Z h a ty vs) (G : Ary Z h a ty ws) : vs = ws := by
  obtain ⟨c, A, e, -⟩ := F
  obtain ⟨c', A', e', -⟩ := G
  cases A.1.symm.trans A'.1
  rw [e] at e'
  simpa using e'
theorem lat_inj {cs cs' : List Int32} (h : ∀ c ∈ cs, 0 ≤ c.toInt ∧ c.toInt < 256) (h' : ∀ c ∈ cs', 0 ≤ c.toInt ∧ c.toInt < 256) (e : lat cs = lat cs') : cs = cs' := by
  induction cs generalizing cs' with
  | nil => cases cs' with
    | nil => rfl
    | cons _ _ => simp [lat] at e
  | cons c r ih => cases cs' with
    | nil => simp [lat] at e
    | cons c' r' =>
      simp only [lat, List.map_cons, List.cons.injEq, Value.int.injEq] at e
      rw [narb_inj (h c (by simp)) (h' c' (by simp)) e.1, ih (fun x hx => h x (by simp [hx])) (fun x hx => h' x (by simp [hx])) e.2]
theorem utf1_inj {x y : Int32} (hx : isCh x) (hy : isCh y) (h : nar .byte x = nar .byte y) (h' : nar .byte (x >>> 8) = nar .byte (y >>> 8)) : x = y := i32e (by
  have a := narb x; have b := narb y; rw [h] at a
  have a' := narb (x >>> 8); have b' := narb (y >>> 8); rw [h'] at a'
  have e1 : (x >>> 8).toInt = x.toInt / 256 := c_ishr x 8 8 (by decide)
  have e2 : (y >>> 8).toInt = y.toInt / 256 := c_ishr y 8 8 (by decide)
  have := hx.1; have := hx.2; have := hy.1; have := hy.2
  omega)
theorem utf_inj {cs cs' : List Int32} (h : ∀ c ∈ cs, isCh c) (h' : ∀ c ∈ cs', isCh c) (e : utf cs = utf cs') : cs = cs' := by
  induction cs generalizing cs' with
  | nil => cases cs' with
    | nil => rfl
    | cons _ _ => simp [utf] at e
  | cons c r ih => cases cs' with
    | nil => simp [utf] at e
    | cons c' r' =>
      simp only [utf, List.flatMap_cons, List.cons_append, List.nil_append, List.cons.injEq, Value.int.injEq] at e
      rw [utf1_inj (h c (by simp)) (h' c' (by simp)) e.1 e.2.1, ih (fun x hx => h x (by simp [hx])) (fun x hx => h' x (by simp [hx])) e.2.2]
theorem Byt.iff {z z' : Int32} {vs vs' : List Value} (h : ∀ c ∈ cs, isCh c) (h' : ∀ c ∈ cs', isCh c) (B : Byt cs z vs) (B' : Byt cs' z' vs') : (z = z' ∧ vs = vs') ↔ cs = cs' := by
  constructor
  · rintro ⟨rfl, rfl⟩
    rcases B with ⟨q, rfl, rfl⟩ | ⟨q, rfl, rfl⟩ <;> rcases B' with ⟨q', e1, e2⟩ | ⟨q', e1, e2⟩
    · exact lat_inj (fun c hc => ⟨(h c hc).1, q c hc⟩) (fun c hc => ⟨(h' c hc).1, q' c hc⟩) e2
    · exact absurd e1 (by decide)
    · exact absurd e1 (by decide)
    · exact utf_inj h h' e2
  · rintro rfl
    rcases B with ⟨q, rfl, rfl⟩ | ⟨⟨c, hc, q⟩, rfl, rfl⟩ <;> rcases B' with ⟨q', e1, e2⟩ | ⟨⟨c', hc', q'⟩, e1, e2⟩
    · exact ⟨e1.symm, e2.symm⟩
    · have := q c' hc'; omega
    · have := q' c hc; omega
    · exact ⟨e1.symm, e2.symm⟩
theorem Str.fn (F : Str Z h a cs) (G : Str Z h a cs') : cs = cs' := by
  obtain ⟨-, h1, -, b, z, vs, F1, F2, A, B⟩ := F
  obtain ⟨-, h1', -, b', z', vs', F1', F2', A', B'⟩ := G
  have e1 := Fld.fn F1 F1'
  have e2 := Fld.fn F2 F2'
  simp only [Value.ref.injEq, Value.int.injEq] at e1 e2
  subst e1
  exact (Byt.iff h1 h1' B B').mp ⟨e2, A.fn A'⟩
end Facts
end Jvm.Own
namespace Jvm.Own
open Jvm Jvm.ClassFile Sem Op Lib Jvm.Free Jvm.Stand Jvm.LawKit Jvm.RoadKit
section Facts2
variable {Z : State} {h h' : Heap} {a b x : Addr} {cs cs' : List Int32} {a0 : Array Value}
theorem Ary.ne {ty ty' : FieldType} {vs ws : List Value} (F : Ary Z h a ty vs) (G : Ary Z h b ty' ws) (q : ty ≠ ty') : a ≠ b := fun e => by
  subst e
  obtain ⟨c, A, -⟩ := F
  obtain ⟨c', A', -⟩ := G
  cases A.1.symm.trans A'.1
  obtain ⟨-, k, hk, comp, hkind⟩ := A.2.1
  obtain ⟨-, k', hk', comp', hkind'⟩ := A'.2.1
  cases hk.symm.trans hk'
  have := hkind.symm.trans hkind'
  injection this with _ e
  exact q e
theorem Ary.neX {ty : FieldType} {vs : List Value} {C : String} {kk : Nat} (F : Ary Z h a ty vs) (E : Exa Z h x C) (wi : (Cond.instantiable C kk).before a0 Z = true) : a ≠ x := by
  obtain ⟨c, A, -⟩ := F
  exact (ne_arr E wi A).symm
theorem Ary.other {ty : FieldType} {vs : List Value} {sl : Nat} {v : Value} (F : Ary Z h a ty vs) (W : Wr h h' b sl v) (q : a ≠ b) : Ary Z h' a ty vs := F.keep (Keep.of_wr W) (ninS q nin0)
/-- how many chars ahead of the first above 255 -/
def pfx (cs : List Int32) : Nat := (cs.takeWhile fun c => decide (c.toInt < 256)).length
theorem pfx_all (h : ∀ c ∈ cs, c.toInt < 256) : pfx cs = cs.length := by
  induction cs with
  | nil => rfl
  | cons x r ih =>
    have e := ih (fun c hc => h c (by simp [hc]))
    have hx := h x (by simp)
    simp only [pfx] at e
    simp [pfx, List.takeWhile_cons, hx, e]
theorem pfx_at {i : Nat} {c : Int32} (h : ∀ c ∈ cs.take i, c.toInt < 256) (hc : cs[i]? = some c) (q : 256 ≤ c.toInt) : pfx cs = i := by
  induction cs generalizing i with
  | nil => simp at hc
  | cons x r ih =>
    cases i with
    | zero =>
      simp at hc; subst hc
      simp [pfx, List.takeWhile_cons, show ¬ x.toInt < 256 by omega]
    | succ i =>
      have hx : x.toInt < 256 := h x (by simp)
      have := ih (i := i) (fun c hc => h c (by simp [hc])) (by simpa using hc)
      simp only [pfx] at this
      simp [pfx, List.takeWhile_cons, hx, this]
theorem lat_set {i m : Nat} {c : Int32} (hm : i + (m + 1) = cs.length) (hc : cs[i]? = some c) : (lat (cs.take i) ++ List.replicate (m + 1) (Value.int 0)).set i (.int (nar .byte (nar .byte c))) = lat (cs.take (i + 1)) ++ List.replicate m (Value.int 0) := by
  have hi : i < cs.length := by omega
  have hl : (lat (cs.take i)).length = i := by rw [lat_len, List.length_take]; omega
  rw [List.set_append_right _ _ (by omega), hl, Nat.sub_self, List.replicate_succ, List.set_cons_zero, narb_idem]
  have e : cs.take (i + 1) = cs.take i ++ [c] := by
    rw [List.take_add_one, hc]; rfl
  rw [e]
  simp [lat]
theorem take_lt {i : Nat} {c : Int32} (h : ∀ c ∈ cs.take i, c.toInt < 256) (hc : cs[i]? = some c) (q : c.toInt < 256) : ∀ c ∈ cs.take (i + 1), c.toInt < 256 := by
  have e : cs.take (i + 1) = cs.take i ++ [c] := by
    rw [List.take_add_one, hc]; rfl
  rw [e]
  intro x hx
  rcases List.mem_append.mp hx with hx | hx
  · exact h x hx
  · simp at hx; subst hx; exact q
theorem chs_at {i : Nat} {c : Int32} (hc : cs[i]? = some c) : (chs cs)[i]? = some (.int c) := by simp [chs, hc]
theorem lat_at {i : Nat} {c : Int32} (hc : cs[i]? = some c) : (lat cs)[i]? = some (.int (nar .byte c)) := by simp [lat, hc]
theorem utf_at {i : Nat} {c : Int32} (hc : cs[i]? = some c) : (utf cs)[2 * i]? = some (.int (nar .byte c)) ∧ (utf cs)[2 * i + 1]? = some (.int (nar .byte (c >>> 8))) := by
  induction cs generalizing i with
  | nil => simp at hc
  | cons x r ih =>
    cases i with
    | zero => simp at hc; subst hc; simp [utf]
    | succ i =>
      have := ih (i := i) (by simpa using hc)
      simp only [utf] at this ⊢
      simp only [List.flatMap_cons, List.cons_append, List.nil_append]
      have e1 : 2 * (i + 1) = (2 * i) + 1 + 1 := by omega
      have e2 : 2 * (i + 1) + 1 = (2 * i + 1) + 1 + 1 := by omega
      rw [e2, e1]
      simpa using this
end Facts2
end Jvm.Own
namespace Jvm.Own
open Jvm Jvm.ClassFile Sem Op Lib Jvm.Free Jvm.Stand Jvm.LawKit Jvm.RoadKit
section Facts3
variable {cs cs' : List Int32}
theorem pfx_le (cs : List Int32) : pfx cs ≤ cs.length := (List.takeWhile_sublist _).length_le
theorem pfx_take (cs : List Int32) : ∀ c ∈ cs.take (pfx cs), c.toInt < 256 := by
  induction cs with
  | nil => simp
  | cons x r ih =>
    by_cases hx : x.toInt < 256
    · intro c hc
      have e : pfx (x :: r) = pfx r + 1 := by simp [pfx, List.takeWhile_cons, hx]
      rw [e, List.take_succ_cons] at hc
      rcases List.mem_cons.mp hc with rfl | hc
      · exact hx
      · exact ih c hc
    · intro c hc
      have e : pfx (x :: r) = 0 := by simp [pfx, List.takeWhile_cons, hx]
      rw [e] at hc; simp at hc
theorem pfx_full (h : pfx cs = cs.length) : ∀ c ∈ cs, c.toInt < 256 := by
  have := pfx_take cs; rw [h, List.take_length] at this; exact this
theorem pfx_next (h : pfx cs < cs.length) : ∃ c, cs[pfx cs]? = some c ∧ 256 ≤ c.toInt := by
  induction cs with
  | nil => simp at h
  | cons x r ih =>
    by_cases hx : x.toInt < 256
    · have e : pfx (x :: r) = pfx r + 1 := by simp [pfx, List.takeWhile_cons, hx]
      obtain ⟨c, h1, h2⟩ := ih (by rw [e] at h; simpa using h)
      exact ⟨c, by rw [e]; simpa using h1, h2⟩
    · have e : pfx (x :: r) = 0 := by simp [pfx, List.takeWhile_cons, hx]
      exact ⟨x, by rw [e]; simp, by omega⟩
theorem Byt.length {z : Int32} {vs : List Value} (B : Byt cs z vs) : (z = 0 ∧ vs.length = cs.length) ∨ (z = 1 ∧ vs.length = 2 * cs.length) := by
  rcases B with ⟨-, rfl, rfl⟩ | ⟨-, rfl, rfl⟩
  · exact Or.inl ⟨rfl, lat_len _⟩
  · exact Or.inr ⟨rfl, utf_len _⟩
theorem Byt.len_lt {z : Int32} {vs : List Value} (B : Byt cs z vs) (hl : cs.length ≤ 4096) : vs.length < 2 ^ 31 := by rcases B.length with ⟨-, e⟩ | ⟨-, e⟩ <;> omega
theorem Byt.coder {z y : Int32} {vs : List Value} (B : Byt cs z vs) (h1 : 1 ≤ cs.length) (hl : cs.length ≤ 4096) (hy : y.toInt = vs.length) : nar .byte (nar .byte (ushr (natI cs.length - y) 31)) = z := by
  have e1 := natI_toInt (i := cs.length) (by omega)
  have e2 := c_isub (natI cs.length) y
  have e3 := rng32 (natI cs.length - y)
  have e4 : (ushr (natI cs.length - y) 31).toInt = ((natI cs.length - y).toInt % 4294967296) / (2 ^ 31 : Nat) := c_iushr _ 31 31 (by decide) (by decide)
  have e6 : ((2 ^ 31 : Nat) : Int) = 2147483648 := by decide
  rw [e6] at e4
  have e5 : (ushr (natI cs.length - y) 31) = z := i32e (by
    rcases B.length with ⟨rfl, e⟩ | ⟨rfl, e⟩
    · have : (0 : Int32).toInt = 0 := rfl; omega
    · have : (1 : Int32).toInt = 1 := rfl; omega)
  rw [e5]
  rcases B.length with ⟨rfl, e⟩ | ⟨rfl, e⟩ <;> rfl
theorem Byt.ints {z : Int32} {vs : List Value} (B : Byt cs z vs) (hl : cs.length ≤ 4096) : ∃ xs : List Int32, vs = xs.map Value.int ∧ xs.length ≤ 8192 := by
  rcases B with ⟨-, -, rfl⟩ | ⟨-, -, rfl⟩
  · exact ⟨cs.map (nar .byte), by simp [lat], by simp; omega⟩
  · refine ⟨cs.flatMap fun c => [nar .byte c, nar .byte (c >>> 8)], by simp [utf, List.map_flatMap], ?_⟩
    have := utf_len cs
    have e : (utf cs).length = (cs.flatMap fun c => [nar .byte c, nar .byte (c >>> 8)]).length := by
      rw [← List.length_map Value.int]; simp [utf, List.map_flatMap]
    omega
end Facts3
end Jvm.Own
namespace Jvm.Own
open Jvm Jvm.ClassFile Sem Op Lib Jvm.Free Jvm.Stand Jvm.LawKit Jvm.RoadKit
section Facts4
variable {cs : List Int32}
theorem shl1 {x : Int32} {i : Nat} (h : x.toInt = i) (hi : i < 2 ^ 30) : (x <<< (1 &&& 31)).toInt = (2 * i : Nat) := by
  have a := c_ishl x 1 1 (by decide)
  have b := rng32 (x <<< (1 &&& 31))
  have e : ((2 ^ 1 : Nat) : Int) = 2 := by decide
  rw [e] at a
  have c : (x <<< (1 &&& 31)).toInt = 2 * i := by omega
  rw [c]; rfl
theorem shr1 {x : Int32} {m : Nat} (h : x.toInt = (2 * m : Nat)) : (x >>> (1 &&& 31)).toInt = m := by
  have a := c_ishr x 1 1 (by decide)
  have e : ((2 ^ 1 : Nat) : Int) = 2 := by decide
  rw [e] at a
  omega
theorem shr0 (x : Int32) : x >>> (0 &&& 31) = x := i32e (by
  have a := c_ishr x 0 0 (by decide)
  have e : ((2 ^ 0 : Nat) : Int) = 1 := by decide
  rw [e] at a; omega)
theorem utf_char {c : Int32} (h : isCh c) : nar .char (((nar .byte c &&& 255) <<< (0 &&& 31)) ||| ((nar .byte (c >>> 8) &&& 255) <<< (8 &&& 31))) = c := by
  obtain ⟨h1, h2⟩ := h
  have e8 : (c >>> 8).toInt = c.toInt / 256 := c_ishr c 8 8 (by decide)
  have m1 := mask8 (nar .byte c)
  have m2 := mask8 (nar .byte (c >>> 8))
  have n1 := narb c
  have n2 := narb (c >>> 8)
  have s1 := c_ishl (nar .byte c &&& 255) 0 0 (by decide)
  have s2 := c_ishl (nar .byte (c >>> 8) &&& 255) 8 8 (by decide)
  have r1 := rng32 ((nar .byte c &&& 255) <<< (0 &&& 31))
  have r2 := rng32 ((nar .byte (c >>> 8) &&& 255) <<< (8 &&& 31))
  have z0 : ((2 ^ 0 : Nat) : Int) = 1 := by decide
  have z8 : ((2 ^ 8 : Nat) : Int) = 256 := by decide
  rw [z0] at s1
  rw [z8] at s2
  have f1 : ((nar .byte c &&& 255) <<< (0 &&& 31)).toInt = c.toInt % 256 := by omega
  have f2 : ((nar .byte (c >>> 8) &&& 255) <<< (8 &&& 31)).toInt = c.toInt / 256 * 256 := by omega
  have o := c_or' ((nar .byte c &&& 255) <<< (0 &&& 31)) ((nar .byte (c >>> 8) &&& 255) <<< (8 &&& 31)) 8 (by decide) 256 z8.symm (by rw [f2]; omega) (by rw [f1]; omega) (by rw [f1]; omega)
  have r3 := rng32 (((nar .byte c &&& 255) <<< (0 &&& 31)) ||| ((nar .byte (c >>> 8) &&& 255) <<< (8 &&& 31)))
  have f3 : (((nar .byte c &&& 255) <<< (0 &&& 31)) ||| ((nar .byte (c >>> 8) &&& 255) <<< (8 &&& 31))) = c := i32e (by omega)
  rw [f3, narc_id ⟨h1, h2⟩]
theorem utf_set {i m : Nat} {c : Int32} (hm : i + (m + 1) = cs.length) (hc : cs[i]? = some c) : ((utf (cs.take i) ++ List.replicate (2 * (m + 1)) (Value.int 0)).set (2 * i) (.int (nar .byte c))).set (2 * i + 1) (.int (nar .byte (c >>> 8))) = utf (cs.take (i + 1)) ++ List.replicate (2 * m) (Value.int 0) := by
  have hi : i < cs.length := by omega
  have hl : (utf (cs.take i)).length = 2 * i := by rw [utf_len, List.length_take]; omega
  rw [List.set_append_right _ _ (by omega), hl, Nat.sub_self, List.set_append_right _ _ (by omega), hl, show 2 * (m + 1) = 2 * m + 1 + 1 by omega, List.replicate_succ, List.replicate_succ, List.set_cons_zero, show 2 * i + 1 - 2 * i = 1 by omega, List.set_cons_succ, List.set_cons_zero]
  have e : cs.take (i + 1) = cs.take i ++ [c] := by
    rw [List.take_add_one, hc]; rfl
  rw [e]
  simp [utf]
theorem Byt.isr {z y : Int32} {vs : List Value} (B : Byt cs z vs) (hl : cs.length ≤ 4096) (hy : y.toInt = vs.length) : y >>> (z &&& 31) = natI cs.length := i32e (by
  rw [natI_toInt (by omega)]
  rcases B.length with ⟨rfl, e⟩ | ⟨rfl, e⟩
  · rw [shr0, hy, e]
  · exact shr1 (by rw [hy, e]))
theorem Byt.z01 {z : Int32} {vs : List Value} (B : Byt cs z vs) : z = 0 ∨ z = 1 := B.length.imp (·.1) (·.1)
theorem Byt.nb {z : Int32} {vs : List Value} (B : Byt cs z vs) : nar .byte z = z := by rcases B.z01 with rfl | rfl <;> rfl
theorem Byt.zero {vs : List Value} (B : Byt cs 0 vs) : (∀ c ∈ cs, c.toInt < 256) ∧ vs = lat cs := by
  rcases B with ⟨q, -, e⟩ | ⟨-, q, -⟩
  · exact ⟨q, e⟩
  · exact absurd q (by decide)
theorem Byt.one {vs : List Value} (B : Byt cs 1 vs) : vs = utf cs := by
  rcases B with ⟨-, q, -⟩ | ⟨-, -, e⟩
  · exact absurd q (by decide)
  · exact e
end Facts4
end Jvm.Own
namespace Jvm.Own
open Jvm Jvm.ClassFile Sem Op Lib Jvm.Free Jvm.Stand Jvm.LawKit Jvm.RoadKit
theorem eq_val {args : Array Value} {first s : State} {o : Option Outcome} {idx : List Nat} {t : Term} {q : Int32} (h : (Jvm.Cond.eq t (.int q)).value args first o s idx = some true) : t.eval args first o idx s = some (.int q) := by
  obtain ⟨x, y, h1, h2, k1, k2⟩ := cmp_v (Or.inl h)
  cases (Term.int_eval q).symm.trans h2
  obtain ⟨z, rfl⟩ := k2
  have := gotT (Cond.eq_ints h1 h2) h
  rw [h1, this]
end Jvm.Own
namespace Jvm.Own
open Jvm Jvm.ClassFile Sem Op Lib Jvm.Free Jvm.Stand Jvm.LawKit Jvm.RoadKit
theorem Ary.fill {Z : State} {h : Heap} {b : Addr} {ty : FieldType} {v w : Value} {i j m n : Nat} (F : Ary Z h b ty ((List.replicate i v ++ List.replicate m w).set i v)) (hm : m = n + 1) (hj : j = i + 1) : Ary Z h b ty (List.replicate j v ++ List.replicate n w) := by
  subst hm hj
  have e : (List.replicate i v ++ List.replicate (n + 1) w).set i v = List.replicate (i + 1) v ++ List.replicate n w := by
    rw [List.set_append_right _ _ (by simp), List.length_replicate, Nat.sub_self, List.replicate_succ, List.set_cons_zero, List.replicate_succ', List.append_assoc]; rfl
  rw [e] at F; exact F
end Jvm.Own
namespace Jvm.Own
open Jvm Jvm.ClassFile Sem Op Lib Jvm.Free Jvm.Stand Jvm.LawKit Jvm.RoadKit
/-! OWN KIT 5: System.arraycopy between byte arrays, clone of a byte array -/
section Copy
variable {w : Bool} {K : IV} {Z : State} {a0 : Array Value} {EL : List (String × Nat)} {n0 : Nat} {ss0 ss : List Addr} {Q : Option Value → Heap → List Addr → Prop} {pc pc' pcT : Nat} {L L' : Array Slot} {st st' : List Value} {h h' : Heap} {k n : Nat} {own : String} {code : ByteArray} {ml : Nat} {rt : Option FieldType} {mn : String} {rf rc rs rl : Nat} {R : Room}
theorem Go.writeK (C : Cx w K Z a0 EL own code ml rt mn R) {a : Addr} {P : Heap → Prop} (ha : a ∈ ss) (hs : ∀ {T : State} {vm0 : Vm} {locs : List Loc}, Stand K.p K.l K.e K.R (K.s.setVm vm0) K.m K.args K.below K.meth K.c T locs k n → T.heap = h → Z.Warmed39 (K.s.setVm vm0).vm → (K.s.setVm vm0).vm.findClass own = some K.m.cls →
      ∃ T' h' J, Stand K.p K.l K.e K.R (K.s.setVm vm0) K.m K.args K.below K.meth K.c T' (locs ++ J) k n ∧ (∀ y ∈ J, y.base = a) ∧ T'.heap = h' ∧ Keep h h' [a] ∧ h'.size = h.size ∧ P h' ∧ ∀ t, Steps K.p.tables K.e K.below (T'.setTop (mkF K.m pc' L' st')) t → Steps K.p.tables K.e K.below (T.setTop (mkF K.m pc L st)) t)
    (G : ∀ h', Keep h h' [a] → P h' → Go w K Z EL n0 ss0 Q pc' L' st' h' ss k n) : Go w K Z EL n0 ss0 Q pc L st h ss k n := by
  intro T H
  obtain ⟨vm0, locs, k0, X, N, eT, hS, hk, hZ, hv, hC, hF, hO, hK⟩ := H
  obtain ⟨T', h', J, X', hJ, eT', Kp, sz, hP, st'⟩ := hs X eT hZ (fcl C hS)
  obtain ⟨f1, f2, f3, f4⟩ := hF a ha
  have hall : ∀ x ∈ [a], Safe Z EL vm0 h x := allS f3 all0
  refine Fns.steps st' (G h' Kp hP T' ⟨vm0, _, k0, X', N.app (fun y hy => by rw [hJ y hy]; exact f1), eT', hS, by rw [sz]; exact hk, hZ, hv, hC.trans (CHr.keep Kp hall hC.1), ?_, hO.keep Kp (allS f1 all0), hK.trans Kp (allS f4 all0)⟩)
  intro x hx
  obtain ⟨g1, g2, g3, g4⟩ := hF x hx
  exact ⟨g1, by rw [sz]; exact g2, Safe.keep Kp hall hC.1 g3, g4⟩
/-- ws with n of vs (from sp on) laid over it from dp on -/
def over (ws vs : List Value) (sp dp n : Nat) : List Value := ws.take dp ++ (vs.drop sp).take n ++ ws.drop (dp + n)
theorem over_len {ws vs : List Value} {sp dp n : Nat} (h1 : sp + n ≤ vs.length) (h2 : dp + n ≤ ws.length) : (over ws vs sp dp n).length = ws.length := by
  simp [over]; omega
theorem over_get {ws vs : List Value} {sp dp n : Nat} (h1 : sp + n ≤ vs.length) (h2 : dp + n ≤ ws.length) (j : Nat) : (over ws vs sp dp n)[j]? = if dp ≤ j ∧ j < dp + n then vs[sp + (j - dp)]? else ws[j]? := by
  unfold over
  have l1 : (ws.take dp).length = dp := by simp; omega
  have l2 : ((vs.drop sp).take n).length = n := by simp; omega
  by_cases q : j < dp
  · rw [if_neg (by omega), List.append_assoc, List.getElem?_append_left (by omega), List.getElem?_take_of_lt q]
  · by_cases q2 : j < dp + n
    · rw [if_pos ⟨by omega, q2⟩, List.append_assoc, List.getElem?_append_right (by omega), List.getElem?_append_left (by omega), l1, List.getElem?_take_of_lt (by omega), List.getElem?_drop]
    · rw [if_neg (by omega), List.getElem?_append_right (by rw [List.length_append]; omega), List.length_append, l1, l2, List.getElem?_drop]
      congr 1; omega
theorem acopy_ (C : Cx w K Z a0 EL own code ml rt mn (Rm rf rc rs rl)) {i : Nat} {src dst : Addr} {sp dp m : Int32} {vs ws : List Value} (wl : (Cond.methodLink own i acN).before a0 Z = true) (wn : (Cond.native acN).before a0 Z = true) (wst : (Cond.static acN).before a0 Z = true) (wi : (Cond.initialized "java/lang/System").before a0 Z = true)
    (A : Ary Z h src .byte vs) (B : Ary Z h dst .byte ws) (spn dpn mn' : Nat) (e1 : sp.toInt = spn) (e2 : dp.toInt = dpn) (e3 : m.toInt = mn') (h1 : spn + mn' ≤ vs.length) (h2 : dpn + mn' ≤ ws.length) (hf : ∀ v ∈ (vs.drop spn).take mn', fits .byte v = true) (hd : dst ∈ ss)
    (hL : L.size = ml) (hfr : 1 ≤ rf) (hlo : (st.map fun v => v.category).sum + (nativeFrameWords "java/lang/System" "arraycopy" 5 + 11) ≤ rl) (d : Dc code pc (.invokestatic i) 3 pc')
    (G : ∀ h', Keep h h' [dst] → Ary Z h' dst .byte (over ws vs spn dpn mn') → Go w K Z EL n0 ss0 Q pc' L st h' ss k n) : Go w K Z EL n0 ss0 Q pc L (.int m :: .int dp :: .ref dst :: .int sp :: .ref src :: st) h ss k n := by
  obtain ⟨d1, rfl⟩ := d
  have hR : K.R = Rm rf rc rs rl := C.2.2.2.2.2.2.2.1
  have z0 : (0 : Int32).toInt = 0 := rfl
  obtain ⟨cs, As, es, ls⟩ := A
  obtain ⟨cd, Ad, ed, ld⟩ := B
  obtain ⟨⟨ss1, ks, hks, sComp, hsk⟩, ss2⟩ := As.2
  obtain ⟨⟨dd1, kd, hkd, dComp, hdk⟩, dd2⟩ := Ad.2
  have ns : sp.toNatClampNeg = spn := by simp only [Int32.toNatClampNeg, e1]; rfl
  have nd : dp.toNatClampNeg = dpn := by simp only [Int32.toNatClampNeg, e2]; rfl
  have nm : m.toNatClampNeg = mn' := by simp only [Int32.toNatClampNeg, e3]; rfl
  have hget : ∀ j, j < mn' → ∃ v, vs[spn + j]? = some v ∧ cs.slots.getD (spn + j) .null = v := fun j hj => by
    have hlt : spn + j < vs.length := by omega
    refine ⟨vs[spn + j], List.getElem?_eq_getElem hlt, ?_⟩
    rw [es]; simp [Array.getD, hlt]
  have hvals : ∀ j, j < mn' → fits .byte (cs.slots.getD (spn + j) .null) = true := fun j hj => by
    obtain ⟨v, q1, q2⟩ := hget j hj
    rw [q2]
    refine hf v (List.mem_of_getElem? (i := j) ?_)
    rw [List.getElem?_take_of_lt hj, List.getElem?_drop]; exact q1
  refine Go.writeK C (a := dst) (P := fun h' => Ary Z h' dst .byte (over ws vs spn dpn mn')) hd (fun {T vm0 locs} X eT hZ hown => ?_) G
  obtain ⟨ks', hks', hes⟩ := hZ.alike.2.2 _ _ hks
  obtain ⟨kd', hkd', hed⟩ := hZ.alike.2.2 _ _ hkd
  have hTs : T.heap[src]? = some cs := by rw [eT]; exact As.1
  have hTd : T.heap[dst]? = some cd := by rw [eT]; exact Ad.1
  obtain ⟨vm₁, hW, X', stp⟩ := X.arraycopyK C.1 hown (mvT hZ wl) (mvT hZ wn) (mvT hZ wst) (mvT hZ wi) (src := src) (dst := dst) (srcPos := sp) (destPos := dp) (n := m) hTs hTd
    ss1 dd1 ss2 dd2 hks' hkd' (by rw [hes]; exact hsk) (by rw [hed]; exact hdk) rfl
    (by rw [Int32.lt_iff_toInt_lt, e1, z0]; omega) (by rw [Int32.lt_iff_toInt_lt, e2, z0]; omega) (by rw [Int32.lt_iff_toInt_lt, e3, z0]; omega) (by rw [e1, e3, es]; simp; omega) (by rw [e2, e3, ed]; simp; omega)
    (fun vm₁ hW j hj => by
      rw [nm] at hj; rw [ns]
      refine ⟨hvals j hj, ?_⟩
      have q := hvals j hj
      cases hv : cs.slots.getD (spn + j) .null with
      | ref x => rw [hv] at q; cases q
      | _ => trivial)
    (g := mkF K.m pc L (.int m :: .int dp :: .ref dst :: .int sp :: .ref src :: st)) rfl (hL.trans C.2.2.1.symm) rfl (hb C.2.1 d1) (by rw [hR]; exact hfr) (by show 2 * 0 + _ + _ ≤ _; rw [hR]; show _ ≤ rl; omega)
  have f0 := Cell.storeRun_facts cd dp.toNatClampNeg (cs.stretch sp.toNatClampNeg m.toNatClampNeg)
  have hlen : (cs.stretch sp.toNatClampNeg m.toNatClampNeg).length = mn' := by simp [Cell.stretch, nm]
  have hother : ∀ x, dst ≠ x → ((T.setVm vm₁).setCell dst (copied cs cd sp dp m)).heap[x]? = h[x]? := fun x hx => by rw [State.heap_setCell_other hx]; show T.heap[x]? = _; rw [eT]
  have hself : ((T.setVm vm₁).setCell dst (copied cs cd sp dp m)).heap[dst]? = some (copied cs cd sp dp m) := State.heap_setCell_self (s := T.setVm vm₁) hTd
  have hsz : ((T.setVm vm₁).setCell dst (copied cs cd sp dp m)).heap.size = h.size := by rw [← eT]; simp [State.setCell]
  refine ⟨_, _, _, X', ?_, rfl, ⟨Nat.le_of_eq hsz.symm, ?_, ?_⟩, hsz, ?_, stp⟩
  · intro y hy
    simp only [copyLocs, List.mem_map] at hy
    obtain ⟨q, -, rfl⟩ := hy; rfl
  · intro x c hx hn
    rw [hother x (fun e => hn (by simp [e]))]; exact hx
  · intro x c hx
    by_cases q : dst = x
    · subst q
      cases hx.symm.trans Ad.1
      exact ⟨_, hself, f0.1, f0.2.1, f0.2.2.1⟩
    · exact ⟨c, by rw [hother x q]; exact hx, rfl, rfl, rfl⟩
  · refine ⟨copied cs cd sp dp m, ⟨hself, ⟨fun q => by rw [f0.2.1]; exact dd1 q, kd, by rw [f0.1]; exact hkd, dComp, hdk⟩, by rw [f0.2.1]; exact dd2⟩, ?_, by rw [over_len h1 h2]; exact ld⟩
    apply Array.ext_getElem?
    intro j
    rw [Cell.storeRun_get _ _ _ _ (by rw [hlen, nd, ed]; simpa using h2), hlen, nd, show (over ws vs spn dpn mn').toArray[j]? = (over ws vs spn dpn mn')[j]? from List.getElem?_toArray, over_get h1 h2]
    by_cases q : dpn ≤ j ∧ j < dpn + mn'
    · rw [if_pos q, if_pos q]
      obtain ⟨v, q1, q2⟩ := hget (j - dpn) (by omega)
      rw [q1]
      simp only [Cell.stretch, ns, nm]
      rw [List.getElem?_map, List.getElem?_range (by omega)]
      simp only [Option.map_some, q2]
    · rw [if_neg q, if_neg q, ed]; simp
end Copy
end Jvm.Own
namespace Jvm.Own
open Jvm Jvm.ClassFile Sem Op Lib Jvm.Free Jvm.Stand Jvm.LawKit Jvm.RoadKit
/-! OWN KIT 6: byte arrays whose class is known, their clone; StringBuilders that hold Latin-1 -/
section Clone
variable {w : Bool} {K : IV} {Z : State} {a0 : Array Value} {EL : List (String × Nat)} {n0 : Nat} {ss0 ss : List Addr} {Q : Option Value → Heap → List Addr → Prop} {pc pc' pcT : Nat} {L L' : Array Slot} {st st' : List Value} {h h' : Heap} {k n : Nat} {own : String} {code : ByteArray} {ml : Nat} {rt : Option FieldType} {mn : String} {rf rc rs rl : Nat}
def ByA (Z : State) (h : Heap) (b : Addr) (vs : List Value) : Prop := Ary Z h b .byte vs ∧ Exa Z h b "[B" ∧ ∀ v ∈ vs, fits .byte v = true
theorem ByA.keep {b : Addr} {vs : List Value} {ws : List Addr} (F : ByA Z h b vs) (Kp : Keep h h' ws) (q : b ∉ ws) : ByA Z h' b vs := ⟨F.1.keep Kp q, F.2.1.keep Kp, F.2.2⟩
theorem fits0 : fits .byte (.int 0) = true := by decide
theorem fits_lat {cs : List Int32} : ∀ v ∈ lat cs, fits .byte v = true := by
  intro v hv
  simp only [lat, List.mem_map] at hv
  obtain ⟨c, -, rfl⟩ := hv
  exact fits_nar_byte c
theorem newarrB (C : Cx w K Z a0 EL own code ml rt mn (Rm rf rc rs rl)) {x : Int32} (wa : (Cond.arrayClass .byte).before a0 Z = true) (hx : ¬ x < 0) (cap : Nat) (hcap : x.toNatClampNeg ≤ cap) (hb8 : cap * 8 ≤ 536870912) (hc : k + 1 ≤ rc) (hl : n + cap ≤ rs) (d : Dc code pc (.newarray .byte) 2 pc')
    (G : ∀ h', Keep h h' [] → h.size < h'.size → n0 ≤ h.size → ByA Z h' h.size (List.replicate x.toNatClampNeg (.int 0)) → Go w K Z EL n0 ss0 Q pc' L (.ref h.size :: st) h' (h.size :: ss) (k + 1) (n + cap)) : Go w K Z EL n0 ss0 Q pc L (.int x :: st) h ss k n := by
  obtain ⟨d1, rfl⟩ := d
  have hR : K.R = Rm rf rc rs rl := C.2.2.2.2.2.2.2.1
  refine Go.grow C (dk := 1) (dn := cap) (P := fun h' => ByA Z h' h.size (List.replicate x.toNatClampNeg (.int 0))) (fun _ q => q.1.lt) (fun {T vm0 locs} X e hZ hown => ?_) G
  obtain ⟨cA, kA, comp, h1, h2, h3, X', stp⟩ := X.newarrayPrim C.1 (mvA hZ (show (Cond.arrayClass (newarray.typeOf .byte)).before a0 Z = true from wa)) (g := mkF K.m pc L (.int x :: st)) rfl (hb C.2.1 d1) rfl hx (Nat.le_trans (Nat.mul_le_mul hcap (by decide)) hb8) (by rw [hR]; exact hc) (by rw [hR]; show _ ≤ rs; omega)
  subst e
  rw [hZ.alike.findClass] at h1
  obtain ⟨kZ, z1, -⟩ := Vm.findClass_spec h1
  obtain ⟨k', z2, z3⟩ := hZ.alike.2.2 _ _ z1
  cases h2.symm.trans z2
  have hkind : kZ.kind = .array comp .byte := by rw [← show kA.kind = .array comp .byte from h3, z3]
  have hget : (T.heap.push (newA cA .byte x))[T.heap.size]? = some (newA cA .byte x) := by simp
  refine ⟨_, _, X'.more (Nat.le_refl _) (by omega), rfl, ⟨by show T.heap.size ≤ (T.heap.push _).size; simp, fun a c q => ?_⟩, ⟨Ary.new ⟨hget, ⟨by simp [newA], kZ, z1, comp, hkind⟩, by simp [newA]⟩, ⟨newA cA .byte x, kZ, hget, h1, z1, rfl, fun q => by rw [hkind] at q; cases q⟩, fun v hv => by rw [List.mem_replicate] at hv; rw [hv.2]; exact fits0⟩, stp⟩
  show (T.heap.push _)[a]? = _
  rw [Array.getElem?_push_lt (Array.getElem?_eq_some_iff.mp q).1]; exact (Array.getElem?_eq_getElem _).symm.trans q
theorem cloneB_ (C : Cx w K Z a0 EL own code ml rt mn (Rm rf rc rs rl)) {i : Nat} {b : Addr} {vs : List Value} (w1 : (Cond.methodLink own i ⟨"[B", "clone", "()Ljava/lang/Object;"⟩).before a0 Z = true) (w2 : (Cond.sameMethod "[B" "java/lang/Object" "clone" "()Ljava/lang/Object;").before a0 Z = true) (w3 : (Cond.native ⟨"java/lang/Object", "clone", "()Ljava/lang/Object;"⟩).before a0 Z = true)
    (w4 : (Cond.instanceMethod ⟨"java/lang/Object", "clone", "()Ljava/lang/Object;"⟩).before a0 Z = true) (w5 : (Cond.selects "[B" ⟨"[B", "clone", "()Ljava/lang/Object;"⟩ ⟨"java/lang/Object", "clone", "()Ljava/lang/Object;"⟩).before a0 Z = true) (w6 : (Cond.castable "[B" "java/lang/Cloneable").before a0 Z = true)
    (B : ByA Z h b vs) (hL : L.size = ml) (hf : 1 ≤ rf) (hlo : (st.map fun v => v.category).sum + 14 ≤ rl) (cap : Nat) (hcap : vs.length ≤ cap) (hc : k + 1 ≤ rc) (hs : n + cap ≤ rs) (d : Dc code pc (.invokevirtual i) 3 pc')
    (G : ∀ h', Keep h h' [] → h.size < h'.size → n0 ≤ h.size → ByA Z h' h.size vs → Go w K Z EL n0 ss0 Q pc' L (.ref h.size :: st) h' (h.size :: ss) (k + 1) (n + cap)) : Go w K Z EL n0 ss0 Q pc L (.ref b :: st) h ss k n := by
  obtain ⟨d1, rfl⟩ := d
  have hR : K.R = Rm rf rc rs rl := C.2.2.2.2.2.2.2.1
  obtain ⟨⟨cl, A, ea, la⟩, E, F⟩ := B
  have hFC : FitC Z cl := fitC_of A fun j _ v hv => F v (by rw [ea] at hv; exact List.mem_of_getElem? (by simpa using hv))
  refine Go.grow C (dk := 1) (dn := cap) (P := fun h' => ByA Z h' h.size vs) (fun _ q => q.1.lt) (fun {T vm0 locs} X e hZ hown => ?_) G
  obtain ⟨T', h', X', e', Ex, A', E', stp⟩ := cloneA X C.1 hZ hown w1 w2 w3 w4 w5 w6 e A E hFC (g := mkF K.m pc L (.ref b :: st)) rfl (hL.trans C.2.2.1.symm) rfl (hb C.2.1 d1) (by rw [hR]; exact hf) (W := (st.map fun v => v.category).sum) (cap := cap) (by show 2 * 0 + _ ≤ _; omega) (by rw [hR]; exact hlo) (by rw [ea]; simpa using hcap) (by rw [hR]; exact hc) (by rw [hR]; exact hs)
  exact ⟨T', h', X', e', Ex, ⟨⟨_, A', ea, la⟩, E', F⟩, stp⟩
end Clone
end Jvm.Own
namespace Jvm.Own
open Jvm Jvm.ClassFile Sem Op Lib Jvm.Free Jvm.Stand Jvm.LawKit Jvm.RoadKit
section Builder
variable {Z : State} {a0 : Array Value} {h h' : Heap} {a b x : Addr} {cs ds : List Int32} {cap : Nat}
/-- at a lies a StringBuilder (coder 0) that holds cs, its array at b, of cap bytes -/
def Sb (Z : State) (h : Heap) (a b : Addr) (cs : List Int32) (cap : Nat) : Prop := Exa Z h a "java/lang/StringBuilder" ∧ Fld Z h a "java/lang/AbstractStringBuilder" "value" "[B" (.ref b) ∧ Fld Z h a "java/lang/AbstractStringBuilder" "count" "I" (.int (natI cs.length)) ∧ Fld Z h a "java/lang/AbstractStringBuilder" "coder" "B" (.int 0) ∧ (∃ rest : List Value, ByA Z h b (lat cs ++ rest) ∧ cs.length + rest.length = cap) ∧ (∀ c ∈ cs, 0 ≤ c.toInt ∧ c.toInt < 256) ∧ cap ≤ 4096
theorem Sb.keep {ws : List Addr} (F : Sb Z h a b cs cap) (Kp : Keep h h' ws) (q1 : a ∉ ws) (q2 : b ∉ ws) : Sb Z h' a b cs cap := by
  obtain ⟨E, V, N, C, ⟨r, B, hl⟩, hc⟩ := F
  exact ⟨E.keep Kp, V.keep Kp q1, N.keep Kp q1, C.keep Kp q1, ⟨r, B.keep Kp q2, hl⟩, hc⟩
theorem Sb.le (F : Sb Z h a b cs cap) : cs.length ≤ cap ∧ cap ≤ 4096 := by
  obtain ⟨-, -, -, -, ⟨r, -, hl⟩, -, h2⟩ := F; omega
theorem shl0 (x : Int32) : x <<< (0 &&& 31) = x := i32e (by
  have s := c_ishl x 0 0 (by decide)
  have z0 : ((2 ^ 0 : Nat) : Int) = 1 := by decide
  have := rng32 (x <<< (0 &&& 31)); have := rng32 x
  rw [z0] at s; omega)
theorem natI_sub {i j : Nat} (h : j ≤ i) (hi : i < 2 ^ 31) : natI i - natI j = natI (i - j) := i32e (by
  have a1 := natI_toInt (i := i) hi; have a2 := natI_toInt (i := j) (by omega); have a3 := c_isub (natI i) (natI j); have a4 := rng32 (natI i - natI j); have a5 := natI_toInt (i := i - j) (by omega); omega)
theorem natI_plus {i n : Nat} (h : i + n < 2 ^ 31) : natI i + natI n = natI (i + n) := i32e (by
  have a1 := natI_toInt (i := i) (by omega); have a2 := natI_toInt (i := n) (by omega); have a3 := c_iadd (natI i) (natI n); have a4 := rng32 (natI i + natI n); have a5 := natI_toInt h; omega)
theorem natI_lt {i j : Nat} (hi : i < 2 ^ 31) (hj : j < 2 ^ 31) : natI i < natI j ↔ i < j := by
  rw [lt32, natI_toInt hi, natI_toInt hj]; omega
theorem natI_inj {i j : Nat} (hi : i < 2 ^ 31) (hj : j < 2 ^ 31) : natI i = natI j ↔ i = j := by
  constructor
  · intro e; have := congrArg Int32.toInt e; rw [natI_toInt hi, natI_toInt hj] at this; omega
  · intro e; rw [e]
theorem lat_app : lat (cs ++ ds) = lat cs ++ lat ds := by simp [lat]
theorem over_end {rest : List Value} (h1 : ds.length ≤ rest.length) : over (lat cs ++ rest) (lat ds) 0 cs.length ds.length = lat (cs ++ ds) ++ rest.drop ds.length := by
  have l1 : (lat cs).length = cs.length := lat_len cs
  have l2 : (lat ds).length = ds.length := lat_len ds
  unfold over
  rw [lat_app, List.drop_zero, List.take_of_length_le (Nat.le_of_eq l2), show (lat cs ++ rest).take cs.length = lat cs by rw [← l1, List.take_left'] ; rfl, show (lat cs ++ rest).drop (cs.length + ds.length) = rest.drop ds.length by rw [List.drop_append, l1]; simp; omega]
theorem over_zero {vs : List Value} {m : Nat} (h1 : vs.length ≤ m) (w : Value) : over (List.replicate m w) vs 0 0 vs.length = vs ++ List.replicate (m - vs.length) w := by
  unfold over
  simp
theorem over_sub {vs : List Value} {s m : Nat} (w : Value) (h : s + m ≤ vs.length) : over (List.replicate m w) vs s 0 m = (vs.drop s).take m := by
  unfold over
  simp
end Builder
end Jvm.Own
namespace Jvm.Own
open Jvm Jvm.ClassFile Sem Op Lib Jvm.Free Jvm.Stand Jvm.LawKit Jvm.RoadKit
theorem same_of {Z : State} {a0 : Array Value} {y x : MethodName} {O : String} (hxy : x.cls = y.cls) (wd : (Jvm.Cond.declares y).before a0 Z = true) (wse : (Jvm.Cond.selects O x x).before a0 Z = true) (hy : y.cls ≠ "java/lang/invoke/MethodHandle" ∧ y.cls ≠ "java/lang/invoke/VarHandle") : (Jvm.Cond.sameMethod y.cls y.cls y.name y.desc).before a0 Z = true := by
  obtain ⟨m, meth, h1, -⟩ := Cond.declares_spec wd
  obtain ⟨c, r, m', q1, q2, q3, q4, k, hk, hki⟩ := Cond.selects_spec wse
  have hf := State.methodFound?_of_named h1 hy
  have hc := findClass_of_methodNamed h1
  have hc' := findClass_of_methodNamed q3
  rw [hxy, hc] at hc'
  have he : m.cls = m'.cls := Option.some.inj hc'
  rw [← he] at hk
  have h1' : Z.methodNamed? ⟨y.cls, y.name, y.desc⟩ = some m := h1
  simp [Cond.before, Cond.holds, Cond.value, hc, hf, h1', hk, hki]
end Jvm.Own
namespace Jvm.Own
open Jvm Jvm.ClassFile Sem Op Lib Jvm.Free Jvm.Stand Jvm.LawKit Jvm.RoadKit
/-- neither the String at s nor its array lies at x -/
def NotIn (Z : State) (h : Heap) (s x : Addr) : Prop := s ≠ x ∧ ∀ b, Fld Z h s "java/lang/String" "value" "[B" (.ref b) → b ≠ x
theorem Fld.keepBack {Z : State} {h h' : Heap} {a : Addr} {C n d : String} {v w : Value} {ws : List Addr} (F : Fld Z h a C n d v) (Kp : Keep h h' ws) (q : a ∉ ws) (G : Fld Z h' a C n d w) : Fld Z h a C n d w := by
  have := Fld.fn (F.keep Kp q) G; subst this; exact F
theorem Str.keep2 {Z : State} {h h' : Heap} {s a b : Addr} {cs : List Int32} (F : Str Z h s cs) (Kp : Keep h h' [a, b]) (h1 : NotIn Z h s a) (h2 : NotIn Z h s b) : Str Z h' s cs := by
  obtain ⟨E, hc, hl, c, z, vs, V, Cd, A, B⟩ := F
  have n1 : s ∉ [a, b] := ninS h1.1 (ninS h2.1 nin0)
  have n2 : c ∉ [a, b] := ninS (h1.2 c V) (ninS (h2.2 c V) nin0)
  exact ⟨E.keep Kp, hc, hl, c, z, vs, V.keep Kp n1, Cd.keep Kp n1, A.keep Kp n2, B⟩
theorem NotIn.keep {Z : State} {h h' : Heap} {s x : Addr} {cs : List Int32} (N : NotIn Z h s x) (F : Str Z h s cs) (Kp : Keep h h' []) : NotIn Z h' s x := by
  obtain ⟨-, -, -, c, z, vs, V, -⟩ := F
  exact ⟨N.1, fun b G => by have := Fld.fn (V.keep Kp nin0) G; cases this; exact N.2 c V⟩
theorem NotIn.of {Z : State} {h : Heap} {s x c : Addr} (h1 : s ≠ x) (V : Fld Z h s "java/lang/String" "value" "[B" (.ref c)) (h2 : c ≠ x) : NotIn Z h s x := ⟨h1, fun b F => by
  have := Fld.fn V F; cases this; exact h2⟩
end Jvm.Own
namespace Jvm.Own
open Jvm Jvm.ClassFile Sem Op Lib Jvm.Free Jvm.Stand Jvm.LawKit Jvm.RoadKit
/-- a class that a 'selects' word shows to be no interface, for another of its methods -/
theorem nf_sel {s : State} {args : Array Value} {O : String} {x y : MethodName} (hxy : x.cls = y.cls) (h : (Jvm.Cond.selects O x x).before args s = true) : NotFace s y := fun r0 h0 => by
  obtain ⟨c, r, m', q1, q2, q3, q4, k, hk, hki⟩ := Cond.selects_spec h
  have hc := findClass_of_methodNamed h0
  have hc' := findClass_of_methodNamed q3
  rw [hxy, hc] at hc'
  have he : r0.cls = m'.cls := Option.some.inj hc'
  exact ⟨k, by rw [he]; exact hk, hki⟩
end Jvm.Own
namespace Jvm.Own
open Jvm Jvm.ClassFile Sem Op Lib Jvm.Free Jvm.Stand Jvm.LawKit Jvm.RoadKit Jvm.Free.Exc
section Exc
variable {w : Bool} {K : IV} {Z : State} {a0 : Array Value} {EL : List (String × Nat)} {n0 : Nat} {ss0 ss : List Addr} {Q : Option Value → Heap → List Addr → Prop} {pc pc' pcT : Nat} {L L' : Array Slot} {st st' : List Value} {h h' : Heap} {k n : Nat} {own : String} {code : ByteArray} {ml : Nat} {rt : Option FieldType} {mn : String} {rf rc rs rl : Nat} {R : Room}
/-- new, its cell known to be untouched -/
theorem newU_ (C : Cx w K Z a0 EL own code ml rt mn (Rm rf rc rs rl)) {i : Nat} {O : String} {nn : Nat} (wl : (Cond.classLink own i O).before a0 Z = true) (wi : (Cond.instantiable O nn).before a0 Z = true) (wz : (Cond.initialized O).before a0 Z = true) (hc : k + 1 ≤ rc) (hl : n + nn ≤ rs) (d : Dc code pc (.new i) 3 pc')
    (G : ∀ h', Keep h h' [] → h.size < h'.size → n0 ≤ h.size → (Exa Z h' h.size O ∧ (∀ {O' nm d : String} {ty : FieldType}, Laid Z a0 O O' nm d → parseFieldDescriptor d = some ty → Fld Z h' h.size O' nm d (defaultValue ty)) ∧ Unt h' h.size) → Go w K Z EL n0 ss0 Q pc' L (.ref h.size :: st) h' (h.size :: ss) (k + 1) (n + nn)) : Go w K Z EL n0 ss0 Q pc L st h ss k n := by
  obtain ⟨d1, rfl⟩ := d
  have hR : K.R = Rm rf rc rs rl := C.2.2.2.2.2.2.2.1
  refine Go.grow C (dk := 1) (dn := nn) (P := fun h' => Exa Z h' h.size O ∧ (∀ {O' nm d : String} {ty : FieldType}, Laid Z a0 O O' nm d → parseFieldDescriptor d = some ty → Fld Z h' h.size O' nm d (defaultValue ty)) ∧ Unt h' h.size) (fun _ q => q.1.lt) (fun X e hZ hown => ?_) G
  obtain ⟨T', h', X', e', E, A, D, U, r⟩ := newO X C.1 hZ hown wl wi wz e (g := mkF K.m pc L st) rfl (hb C.2.1 d1) (by rw [hR]; exact hc) (by rw [hR]; exact hl)
  exact ⟨T', h', X', e', E, ⟨A, D, U⟩, r⟩
/-- invokespecial of an exception class's X(String), down the chain of links to Throwable -/
theorem exc1_ (C : Cx w K Z a0 EL own code ml rt mn (Rm rf rc rs rl)) (h00 : Ext Z.heap K.s.heap) {rcl : String} {links : List Link} {i nn : Nat} (hok : linksOk 1 links = true)
    (w1 : (Cond.methodLink own i (ctor 1 (headName links))).before a0 Z = true) (w2 : (Cond.instanceMethod (ctor 1 (headName links))).before a0 Z = true) (wT : (chainTab 1 rcl links).before a0 Z = true) (wi : (Cond.instantiable rcl nn).before a0 Z = true) (r : ∀ d ∈ twoRefs, d.before a0 Z = true)
    {a : Addr} (E : Exa Z h a rcl) (N : Unt h a) (B : Fld Z h a Bundle.tN "backtrace" obD .null) (B2 : Fld Z h a Bundle.tN "detailMessage" msgD .null) {msg : Value} (hmsg : msg.isRef = true) (ha : a ∈ ss) (hL : L.size = ml)
    (hf : 4 + links.length ≤ rf) (hlo : (st.map fun v => v.category).sum + (56 + 14 * links.length) ≤ rl) (hc : k + 1 ≤ rc) (hsl : n + 2752 ≤ rs) (d : Dc code pc (.invokespecial i) 3 pc')
    (G : ∀ h', Keep h h' [a] → Exa Z h' a rcl → Kp Z h h' a → Go w K Z EL n0 ss0 Q pc' L st h' ss (k + 1) (n + 2752)) : Go w K Z EL n0 ss0 Q pc L (msg :: .ref a :: st) h ss k n := by
  obtain ⟨d1, rfl⟩ := d
  have hR : K.R = Rm rf rc rs rl := C.2.2.2.2.2.2.2.1
  intro T H
  obtain ⟨vm0, locs, k0, X, N0, eT, hS, hk, hZ, hv, hC, hF, hO, hK⟩ := H
  obtain ⟨f1, f2, f3, f4⟩ := hF a ha
  obtain ⟨T', h', X', eT', KP, E', N', -, -, -, st'⟩ := excL1 X C.1 C.2.2.2.2.2.2.2.2.2.2.2.2 (Z := Z) (a0 := a0) hZ (own := own) (rc := rcl) (fcl C hS) (links := links) (ic := i) (n := nn) hok w1 w2 wT wi r (ThS.ext h00 ThS.start) (ThS.ext hO.2 ThS.start)
    (Vm.MethodsKnown.alikeC hS.1.alike C.2.2.2.2.2.2.2.2.2.2.1) (Vm.FramesKnown.alikeC hS.1.alike C.2.2.2.2.2.2.2.2.2.2.2.1) eT E N B B2 hmsg (g := mkF K.m pc L (msg :: .ref a :: st)) rfl (by rw [C.2.2.1]; exact hL) (rest := st) rfl (hb C.2.1 d1) (by rw [hR]; exact hf) (by rw [hR]; show 2 * 0 + _ + _ ≤ _; simpa using hlo) (by rw [hR]; exact hc) (by rw [hR]; exact hsl)
  have Kp := keep_of_kp KP
  have hall : ∀ x ∈ [a], Safe Z EL vm0 h x := allS f3 all0
  refine Fns.steps st' (G h' Kp E' KP T' ⟨vm0, _, k0, X', Fr.six N0 f1, eT', hS, Nat.le_trans hk Kp.1, hZ, hv, hC.trans (CHr.keep Kp hall hC.1), ?_, hO.keep Kp (allS f1 all0), hK.trans Kp (allS f4 all0)⟩)
  intro x hx
  obtain ⟨g1, g2, g3, g4⟩ := hF x hx
  exact ⟨g1, Nat.lt_of_lt_of_le g2 Kp.1, Safe.keep Kp hall hC.1 g3, g4⟩
end Exc
end Jvm.Own
namespace Jvm.Own
open Jvm Jvm.ClassFile Sem Op Lib Jvm.Free Jvm.Stand Jvm.LawKit Jvm.RoadKit Jvm.Free.Exc Jvm.Bundle LibCode.Throwable
/-! OWN KIT 9: invokevirtual of fillInStackTrace() inside a constructor of Throwable, on an object of the class rc; of Throwable's own 'lays' words it asks none (the words of rc serve) -/
def thAtoms (rc : String) : List Cond := [.initialized tN, .superclass tN "java/lang/Object", .instanceMethod tFill, .codeSync tFill Fill.code 1 (some (.object tN)), .instanceMethod tFill0, .native tFill0, .instanceMethod oInit, .code oInit ⟨#[0xb1]⟩ 1 none,
  .methodLink tN 1 oInit, .methodLink tN 27 tFill, .methodLink tN 202 tFill0, .fieldLink tN 7 tN "cause" thD, .fieldLink tN 17 tN "stackTrace" steD, .fieldLink tN 24 tN "suppressedExceptions" listD, .fieldLink tN 13 tN "UNASSIGNED_STACK" steD, .laysStatic tN "UNASSIGNED_STACK" steD,
  .fieldLink tN 20 tN "SUPPRESSED_SENTINEL" listD, .laysStatic tN "SUPPRESSED_SENTINEL" listD, .fieldLink tN 198 tN "backtrace" obD, .soleField tN "backtrace", .soleField tN "depth", .arrayOver (.object "java/lang/Object"), .declares tFill, .selects rc tFill tFill, .selects rc tFill0 tFill0,
  .lays rc tN "cause" thD, .lays rc tN "stackTrace" steD, .lays rc tN "suppressedExceptions" listD, .lays rc tN "detailMessage" msgD, .lays rc tN "backtrace" obD, .lays rc tN "depth" "I"]
theorem th_ok {rc : String} : (thAtoms rc).all xOk = true := rfl
set_option maxHeartbeats 4000000 in
theorem th_links {rc : String} {args : Array Value} {s : State} {pl : Platform} (howns : pl.frameOwnsMonitors = true) (hfin : pl.finalization = false) (hpl : pl.magicAccessors = ({} : Platform).magicAccessors) (W : ∀ x ∈ thAtoms rc, x.before args s = true) :
    ∃ T : ThrowableC, T.Links pl s ∧ s.vm.findClass tN = some T.cT ∧ s.methodNamed? tFill = some T.fill ∧ s.methodNamed? tFill0 = some T.fill0 ∧ s.fieldFound? tN "stackTrace" steD = some (T.cT, T.kT, T.i17, T.fStack) ∧ s.fieldFound? tN "UNASSIGNED_STACK" steD = some (T.cT, T.kT, T.i13, T.fUnassigned) ∧ T.fStack.type = .array (.object "java/lang/StackTraceElement") := by
  have ok : ∀ x, x ∈ thAtoms rc → x.holds args s none s [] = true := fun x hx => W x hx
  obtain ⟨⟨cT, j0⟩, m0, n0, v0, nat0, cd0, lk0, sg0⟩ := Cond.native_spec (ok (.native tFill0) (by simp [thAtoms]))
  have hc : s.vm.findClass tN = some cT := findClass_of_methodNamed n0
  obtain ⟨kT, hk, hname⟩ := Vm.findClass_spec hc
  obtain ⟨_, kT', _, _, hk', _, _, hord, _, hni⟩ := Cond.superclass_spec hc (ok (.superclass tN "java/lang/Object") (by simp [thAtoms]))
  cases hk.symm.trans hk'
  obtain ⟨jF, mF, nF, vF, atF, stF, abF, -, -⟩ := Cond.ownMethod (x := tFill) hc hk (ok (.instanceMethod tFill) (by simp [thAtoms]))
  obtain ⟨mF', cF, vF', cdF, byF, loF, rtF, lkF, -, sgF⟩ := Cond.codeSync_spec nF (ok (.codeSync tFill Fill.code 1 (some (.object tN))) (by simp [thAtoms]))
  cases vF.symm.trans vF'
  obtain ⟨j0', m0', n0', v0', at0, st0, ab0, nm0, ds0⟩ := Cond.ownMethod (x := tFill0) hc hk (ok (.instanceMethod tFill0) (by simp [thAtoms]))
  cases n0.symm.trans n0'
  cases v0.symm.trans v0'
  obtain ⟨iO, mO, nO, vO, stO, abO⟩ := Cond.instanceMethod_spec (ok (.instanceMethod oInit) (by simp [thAtoms]))
  obtain ⟨mO', cO, vO', cdO, byO, loO, -, lkO, -, sgO⟩ := Cond.code_spec nO (ok (.code oInit ⟨#[0xb1]⟩ 1 none) (by simp [thAtoms]))
  cases vO.symm.trans vO'
  obtain ⟨kO, hkO, hnameO⟩ := Vm.findClass_spec (findClass_of_methodNamed nO)
  obtain ⟨hnmO, hdsO⟩ := name_of_methodNamed nO vO
  obtain ⟨ci1, p1, cf, l1, r1, hcf, q1⟩ := Cond.linkedMethod hc hk nO (ok (.methodLink tN 1 oInit) (by simp [thAtoms])) pl hpl
  obtain ⟨ci27, p27, cf2, l27, r27, hcf2, q27⟩ := Cond.linkedMethod hc hk nF (ok (.methodLink tN 27 tFill) (by simp [thAtoms])) pl hpl
  cases hcf.symm.trans hcf2
  obtain ⟨ci202, p202, cf3, l202, r202, hcf3, q202⟩ := Cond.linkedMethod hc hk n0 (ok (.methodLink tN 202 tFill0) (by simp [thAtoms])) pl hpl
  cases hcf.symm.trans hcf3
  obtain ⟨ci7, i7, f7, l7, r7, a7, s7, t7, u7, y7, g7⟩ := Cond.ownField (t := .object tN) hc hk (by decide +kernel) (ok (.fieldLink tN 7 tN "cause" thD) (by simp [thAtoms])) (ok (.lays rc tN "cause" thD) (by simp [thAtoms])) pl hpl
  obtain ⟨ci17, i17, f17, l17, r17, a17, s17, t17, u17, y17, g17⟩ := Cond.ownField (t := .array (.object "java/lang/StackTraceElement")) hc hk (by decide +kernel) (ok (.fieldLink tN 17 tN "stackTrace" steD) (by simp [thAtoms])) (ok (.lays rc tN "stackTrace" steD) (by simp [thAtoms])) pl hpl
  obtain ⟨ci24, i24, f24, l24, r24, a24, s24, t24, u24, y24, g24⟩ := Cond.ownField (t := .object "java/util/List") hc hk (by decide +kernel) (ok (.fieldLink tN 24 tN "suppressedExceptions" listD) (by simp [thAtoms])) (ok (.lays rc tN "suppressedExceptions" listD) (by simp [thAtoms])) pl hpl
  obtain ⟨ci13, i13, f13, aS, cellS, l13, r13, a13, s13, -, -, hsta, -, -, -, -, g13⟩ := Cond.ownStatic (t := .array (.object "java/lang/StackTraceElement")) hc hk (by decide +kernel) (ok (.fieldLink tN 13 tN "UNASSIGNED_STACK" steD) (by simp [thAtoms])) (ok (.laysStatic tN "UNASSIGNED_STACK" steD) (by simp [thAtoms])) pl hpl
  obtain ⟨ci20, i20, f20, _, _, l20, r20, a20, s20, -, -, -, -, -, -, -, g20⟩ := Cond.ownStatic (t := .object "java/util/List") hc hk (by decide +kernel) (ok (.fieldLink tN 20 tN "SUPPRESSED_SENTINEL" listD) (by simp [thAtoms])) (ok (.laysStatic tN "SUPPRESSED_SENTINEL" listD) (by simp [thAtoms])) pl hpl
  obtain ⟨cX, kX, cM, kM, iM, fM, hcX, hkX, gM, sM, tM, _⟩ := Cond.lays_spec (ok (.lays rc tN "detailMessage" msgD) (by simp [thAtoms]))
  obtain ⟨-, d17, hd17, hdn17⟩ := Cond.laysAt hcX hkX g17 (ok (.lays rc tN "stackTrace" steD) (by simp [thAtoms]))
  obtain ⟨-, d24, hd24, hdn24⟩ := Cond.laysAt hcX hkX g24 (ok (.lays rc tN "suppressedExceptions" listD) (by simp [thAtoms]))
  have apart := Cond.laysApart hd17 hd24 hdn17 hdn24 (by rw [u17, u24]; decide)
  have pF : mF.sig.parameters = [] := by
    have e : (parseMethodDescriptor tFill.desc).map (·.parameters) = some [] := by decide +kernel
    rw [sgF] at e; exact Option.some.inj e
  have p0 : m0.sig.parameters = [.int] := by
    have e : (parseMethodDescriptor tFill0.desc).map (·.parameters) = some [.int] := by decide +kernel
    rw [sg0] at e; exact Option.some.inj e
  have pO : mO.sig.parameters = [] := by
    have e : (parseMethodDescriptor oInit.desc).map (·.parameters) = some [] := by decide +kernel
    rw [sgO] at e; exact Option.some.inj e
  let T : ThrowableC := { cT := cT, kT := kT, cO := cT, aS := aS, fillIdx := jF, fill0Idx := j0, initSIdx := jF, obj := iO, kObj := kO, methFill := mF, methFill0 := m0, methInitS := mF, methObj := mO, codeFill := cF, codeInitS := cF, codeObj := cO, fBack := f7, fDepth := f7, fStack := f17, fCause := f7, fSupp := f24, fMsg := fM, fUnassigned := f13, fSentinel := f20, cfT := cf, ci1 := ci1, n1 := p1, ci27 := ci27, n27 := p27, ci202 := ci202, n202 := p202, ci7 := ci7, i7 := i7, ci13 := ci13, i13 := i13, ci17 := ci17, i17 := i17, ci20 := ci20, i20 := i20, ci24 := ci24, i24 := i24 }
  refine ⟨T, ?_, hc, nF, n0, g17, g13, y17⟩
  exact { owns := howns, noFinalization := hfin, cls := hk, name := hname, boot := Vm.findClass_boot hc hk, notInterface := hni, initialized := Cond.initialized_spec hc hk (ok (.initialized tN) (by simp [thAtoms])), statics := hsta, fillAt := atF, fillCode := cdF, fillBytes := byF, fillLocals := loF, fillLocks := lkF, fillStatic := stF, fillAbstract := abF, fillReturns := rtF, fillParams := pF,
          fill0At := at0, fill0Name := nm0, fill0Desc := ds0, fill0Params := p0, fill0Static := st0, fill0Native := nat0, fill0Code := cd0, fill0Locks := lk0, fill0Abstract := ab0, stackInstance := s17, stackNotFinal := t17, unassignedStatic := s13, objClass := hkO, objClassName := hnameO, objMethod := vO, objName := hnmO, objStatic := stO, objAbstract := abO, objFound := by rw [hdsO]; exact lookupSpecial_of_named nO vO stO,
          objParams := by show mO.sig.parameters.length = 0; rw [pO]; rfl, objCode := cdO, objBytes := byO, objLocks := lkO, causeInstance := s7, causeNotFinal := t7, sentinelStatic := s20, suppInstance := s24, suppNotFinal := t24, msgInstance := sM, msgNotFinal := tM, stackApartSupp := apart, file := hcf, mlink1 := l1, mright1 := r1, pool1 := q1, mlink27 := l27, mright27 := r27, pool27 := q27, mlink202 := l202, mright202 := r202, pool202 := q202,
          link7 := l7, right7 := r7, at7 := a7, link13 := l13, right13 := r13, at13 := a13, link17 := l17, right17 := r17, at17 := a17, link20 := l20, right20 := r20, at20 := a20, link24 := l24, right24 := r24, at24 := a24 }
section Fill
variable {w : Bool} {K : IV} {Z : State} {a0 : Array Value} {EL : List (String × Nat)} {n0 : Nat} {ss0 ss : List Addr} {Q : Option Value → Heap → List Addr → Prop} {pc pc' pcT : Nat} {L L' : Array Slot} {st st' : List Value} {h h' : Heap} {k n : Nat} {own : String} {code : ByteArray} {ml : Nat} {rt : Option FieldType} {mn : String} {rf rc rs rl : Nat} {R : Room}
set_option maxHeartbeats 8000000 in
theorem fill_ (C : Cx w K Z a0 EL tN code ml rt mn (Rm rf rc rs rl)) (h00 : Ext Z.heap K.s.heap) {rcl : String} {nn : Nat} (W : ∀ x ∈ thAtoms rcl, x.before a0 Z = true) (wi : (Cond.instantiable rcl nn).before a0 Z = true) {a x0 : Addr} (E : Exa Z h a rcl) (N : Unt h a)
    (S0 : Sta Z Z.heap tN "UNASSIGNED_STACK" steD (.ref x0)) (FS : Fld Z h a tN "stackTrace" steD (.ref x0)) (FB : Fld Z h a tN "backtrace" obD .null) (ha : a ∈ ss) (hL : L.size = ml) (hf : 3 ≤ rf) (hlo : 42 ≤ rl) (hc : k + 1 ≤ rc) (hsl : n + 2752 ≤ rs) (d : Dc code pc (.invokevirtual 27) 3 pc')
    (G : ∀ h', Keep h h' [a] → Go w K Z EL n0 ss0 Q pc' L [.ref a] h' ss (k + 1) (n + 2752)) : Go w K Z EL n0 ss0 Q pc L [.ref a] h ss k n := by
  obtain ⟨d1, rfl⟩ := d
  have hR : K.R = Rm rf rc rs rl := C.2.2.2.2.2.2.2.1
  intro T H
  obtain ⟨vm0, locs, k0, X, N0, eT, hS, hk, hZ, hv, hC, hF, hO, hK⟩ := H
  obtain ⟨f1, f2, f3, f4⟩ := hF a ha
  have htr : K.e.platform.stackTraces = true := by rw [X.admits.platform]; exact C.2.2.2.2.2.2.2.2.2.2.2.2
  have howns : K.e.platform.frameOwnsMonitors = true := by rw [X.admits.platform]
  have hfin : K.e.platform.finalization = false := by rw [X.admits.platform]
  have hpl : K.e.platform.magicAccessors = ({} : Platform).magicAccessors := by rw [X.admits.platform]
  have W' : ∀ x ∈ thAtoms rcl, x.before K.args (K.s.setVm vm0) = true := fun x hx => mvX (s := K.s.setVm vm0) (ThS.ext h00 ThS.start) hZ (List.all_eq_true.mp th_ok x hx) (W x hx)
  have ok : ∀ x, x ∈ thAtoms rcl → x.holds K.args (K.s.setVm vm0) none (K.s.setVm vm0) [] = true := fun x hx => W' x hx
  obtain ⟨TC, LK, hfound, hfillN, hfill0N, hffS, hffU, htyS⟩ := th_links howns hfin hpl W'
  obtain ⟨cell, kc, h1, h2, h3, h4, h5⟩ := E
  obtain ⟨cu, u1, u2, u3⟩ := N
  cases h1.symm.trans u1
  obtain ⟨c4, k2, i1, i2, i3, -⟩ := Cond.instantiable_spec wi
  cases h2.symm.trans i1
  cases h3.symm.trans i2
  obtain ⟨kX, hkX, hek⟩ := hZ.alike.2.2 _ _ h3
  have hfoundC : (K.s.setVm vm0).vm.findClass rcl = some cell.cls := by rw [show (K.s.setVm vm0).vm = vm0 from rfl, hZ.alike.findClass]; exact h2
  have hord : kX.kind = .ordinary := by rw [hek]; exact i3
  have hsz : cell.slots.size = kX.instanceTypes.size := by rw [hek]; exact h5 i3
  have hsel0 : selectMethod K.e.platform (K.s.setVm vm0).vm cell.cls TC.fill0 = .method TC.fill0 := by
    obtain ⟨c2, r2, m2, q1, q2, q3, q4, -⟩ := Cond.selects_spec (ok (.selects rcl tFill0 tFill0) (by simp [thAtoms]))
    cases Option.some.inj (q1.symm.trans hfoundC)
    cases Option.some.inj (q2.symm.trans (State.methodFound?_of_named hfill0N (by decide)))
    cases Option.some.inj (q3.symm.trans hfill0N)
    rw [Launch.admits_selectMethod X.admits]; exact q4
  obtain ⟨cf, iU, kS, fU, stA, cellS, s1, s2, s3, s4, s5z, s6, s7⟩ := S0
  have s5 : h[stA]? = some cellS := hO.2.2 _ _ s5z
  obtain ⟨kS', s8, s9⟩ := State.fieldFound?_setVm hZ.alike s1
  have eU := Option.some.inj ((show (K.s.setVm vm0).fieldFound? tN "UNASSIGNED_STACK" steD = _ from s8).symm.trans hffU)
  simp only [Prod.mk.injEq] at eU
  obtain ⟨-, eU2, -, eU4⟩ := eU
  have haS : stA = TC.aS := by
    have e9 : kS'.statics = kS.statics := by rw [s9]
    rw [eU2, LK.statics, s4] at e9
    exact (Option.some.inj e9).symm
  subst haS
  rw [eU4] at s7
  have hneS : TC.aS ≠ a := fun e => by rw [e] at s5; cases h1.symm.trans s5; rw [u2] at s6; cases s6
  have hcT : T.heap[a]? = some cell := by rw [eT]; exact h1
  have hcS : T.heap[TC.aS]? = some cellS := by rw [eT]; exact s5
  obtain ⟨cF, cf2, kF, iF, fF, b1, b2, -, -, -, -, b7⟩ := FS
  cases h1.symm.trans b1
  obtain ⟨kF', b8, -⟩ := State.fieldFound?_setVm hZ.alike b2
  have eF := Option.some.inj ((show (K.s.setVm vm0).fieldFound? tN "stackTrace" steD = _ from b8).symm.trans hffS)
  simp only [Prod.mk.injEq] at eF
  obtain ⟨-, -, -, eF4⟩ := eF
  rw [eF4] at b7
  obtain ⟨ci198, i198, fB, hk198, hg198, ha198, hsB, -, hnB, htB, hffB⟩ := Cond.ownField (t := .object "java/lang/Object") hfound LK.cls (by decide +kernel) (ok (.fieldLink tN 198 tN "backtrace" obD) (by simp [thAtoms])) (ok (.lays rcl tN "backtrace" obD) (by simp [thAtoms])) K.e.platform hpl
  obtain ⟨cB, cf3, kB, iB, fB2, g1, g2, -, -, -, -, g7⟩ := FB
  cases h1.symm.trans g1
  obtain ⟨kB', g8, -⟩ := State.fieldFound?_setVm hZ.alike g2
  have eB := Option.some.inj ((show (K.s.setVm vm0).fieldFound? tN "backtrace" obD = _ from g8).symm.trans hffB)
  simp only [Prod.mk.injEq] at eB
  obtain ⟨-, -, -, eB4⟩ := eB
  rw [eB4] at g7
  obtain ⟨cD1, kD1, cD, kD, iD, fD, -, -, hffD, hstD, -, -, -, -⟩ := Cond.lays_spec (ok (.lays rcl tN "depth" "I") (by simp [thAtoms]))
  have eD := Option.some.inj ((Cond.lays_declared (ok (.lays rcl tN "depth" "I") (by simp [thAtoms])) hffD).symm.trans hfound)
  subst eD
  obtain ⟨hkD, hatD⟩ := State.fieldFound?_spec hffD
  have eD2 := Option.some.inj (hkD.symm.trans LK.cls)
  subst eD2
  obtain ⟨hnD, htD⟩ := State.fieldFound?_type hffD (t := .int) (by decide +kernel)
  have hfb := Cond.soleField_find hfound LK.cls (ok (.soleField tN "backtrace") (by simp [thAtoms])) ha198 hnB hsB
  have hfd := Cond.soleField_find hfound LK.cls (ok (.soleField tN "depth") (by simp [thAtoms])) hatD hnD hstD
  obtain ⟨comp, cO, kO, -, -, hkO, hkindO, hOb⟩ := Cond.arrayOver_spec (W' (.arrayOver (.object "java/lang/Object")) (by simp [thAtoms]))
  obtain ⟨tyS, -⟩ := Cond.laysAt hfoundC hkX hffS (ok (.lays rcl tN "stackTrace" steD) (by simp [thAtoms]))
  obtain ⟨tyB, -⟩ := Cond.laysAt hfoundC hkX hffB (ok (.lays rcl tN "backtrace" obD) (by simp [thAtoms]))
  obtain ⟨tyD, -⟩ := Cond.laysAt hfoundC hkX hffD (ok (.lays rcl tN "depth" "I") (by simp [thAtoms]))
  have tk : ∀ {f : Field} {v : Value}, kX.instanceTypes[f.slot]? = some f.type → fits f.type v = true → Jvm.Takes (K.s.setVm vm0) cell f v := fun {f v} q1 q2 => by
    obtain ⟨r1, r2⟩ := Takes.of_laid (s := K.s.setVm vm0) (v := v) hkX hord q1 q2
    exact ⟨by rw [hsz]; simpa using r1, by rw [u2]; exact r2⟩
  have hSE := W' (.selects rcl tFill tFill) (by simp [thAtoms])
  obtain ⟨v6, vm6, ⟨T6, L6, c6, n6⟩, hW6, X6, ⟨hv6, vm7, lines, hlines, hW7, hU, hL6, hc6, hn6⟩, come⟩ := X.virtualBack C.1 (own := tN) (C := rcl) (index := 27) (y := tFill) (z := tFill) (fcl C hS) (W' (.methodLink tN 27 tFill) (by simp [thAtoms])) (W' (.declares tFill) (by simp [thAtoms])) (notFace_of_selects hSE) hSE (W' (.instanceMethod tFill) (by simp [thAtoms])) (by decide)
    (Jvm.Free.Str.fillPays (l := K.l) (W := 0) C.1 htr TC LK hfillN (u0 := ⟨.ref x0, rfl⟩) (fun q => by cases q) (self := a) (cell := cell) (cellS := cellS) (fun _ => by rw [u2]; simp) (by rw [u2]; simp) (by rw [u3]) (by rw [u3]) b7 hsel0 hneS (fun e => by rw [e] at s6; cases s6) s7 (tk tyS (by rw [htyS]; exact fits_refV_array _ ⟨.ref x0, rfl⟩))
      ⟨{ ci198 := ci198, i198 := i198, fBack := fB }, ⟨hk198, hg198, ha198, hsB⟩, g7⟩ (Vm.MethodsKnown.alikeC hS.1.alike C.2.2.2.2.2.2.2.2.2.2.1) (Vm.FramesKnown.alikeC hS.1.alike C.2.2.2.2.2.2.2.2.2.2.2.1) hfound hOb hkO hkindO hfb hfd
      (fun x => tk tyB (by rw [htB]; rfl)) (fun x => tk tyD (by rw [htD]; rfl)) (by rw [hR]; exact hf) (by rw [hR]; show 0 + 42 ≤ rl; omega))
    (b := a) (cB := cell.cls) hfoundC ⟨cell, hcT, rfl, by rw [u2]; rfl⟩ (g := mkF K.m pc L [.ref a]) rfl (hL.trans C.2.2.1.symm) (Steps.refl _) (argsL := []) (rest := [])
    (fun sig q => by rw [show parseMethodDescriptor tFill.desc = some ⟨[], some (.object tN)⟩ from by decide +kernel] at q; rw [← Option.some.inj q]; rfl) rfl (by show 2 * 0 + 0 ≤ 0; decide) (hb C.2.1 d1)
    (fun vmx hWx => ⟨rfl, by rw [hR]; exact hc, by rw [hR]; exact hsl, hcT, hcS⟩)
  dsimp only [Pt.U, Pt.locs, Pt.cells, Pt.slots] at X6 hU hL6 hc6 hn6 come
  subst hv6 hL6 hc6 hn6
  have hlt : a < h.size := (Array.getElem?_eq_some_iff.mp h1).1
  have hsz6 : T6.heap.size = h.size + 1 := by rw [hU, ← eT]; simp [State.setCell]
  have hoth : ∀ (x : Addr) (c : Cell), h[x]? = some c → a ≠ x → T6.heap[x]? = some c := fun x c q hx => by
    rw [hU, State.heap_setCell_other hx]
    show (T.heap.push _)[x]? = some c
    rw [eT, Array.getElem?_push_lt (Array.getElem?_eq_some_iff.mp q).1]
    exact (Array.getElem?_eq_getElem _).symm.trans q
  have hself := heapAt_setCell_self (s := ((T.setVm vm6).setVm vm7).pushCell (traceHolder cO lines)) (Jvm.Free.Str.filledOn TC.toThrowableT fB fD cell ⟨.ref x0, rfl⟩ (T.setVm vm6).heap.size lines.length.toInt32) (a := a) (by show a < (T.heap.push _).size; rw [Array.size_push, eT]; exact Nat.lt_succ_of_lt hlt)
  have Kp : Keep h T6.heap [a] := ⟨by rw [hsz6]; exact Nat.le_succ _, fun x c q hx => hoth x c q (fun e => hx (by simp [e])), fun x c q => by
    by_cases e : a = x
    · subst e
      cases h1.symm.trans q
      exact ⟨Jvm.Free.Str.filledOn TC.toThrowableT fB fD cell ⟨.ref x0, rfl⟩ (T.setVm vm6).heap.size lines.length.toInt32, by rw [hU]; exact hself, rfl, rfl, by simp [Jvm.Free.Str.filledOn, Cell.setSlot]⟩
    · exact ⟨c, hoth x c q e, rfl, rfl, rfl⟩⟩
  have hall : ∀ x ∈ [a], Safe Z EL vm0 h x := allS f3 all0
  have hhold : (traceHolder cO lines).slots.size ≤ 2752 := traceHolder_size_le cO hlines
  refine Fns.steps (fun t q => come.trans q) (G T6.heap Kp T6 ⟨vm0, _, k0, X6.more (Nat.le_refl _) (Nat.add_le_add_left hhold _), N0.app (fun y hy => ?_), rfl, hS, Nat.le_trans hk Kp.1, hZ, hv, hC.trans (CHr.keep Kp hall hC.1), ?_, hO.keep Kp (allS f1 all0), hK.trans Kp (allS f4 all0)⟩)
  · simp only [List.mem_cons, List.not_mem_nil, or_false] at hy
    rcases hy with rfl | rfl | rfl <;> exact f1
  · intro x hx
    obtain ⟨g1, g2, g3, g4⟩ := hF x hx
    exact ⟨g1, Nat.lt_of_lt_of_le g2 Kp.1, Safe.keep Kp hall hC.1 g3, g4⟩
end Fill
theorem untKeep {h h' : Heap} {a : Addr} {ws : List Addr} (F : Unt h a) (Kp : Keep h h' ws) (q : a ∉ ws) : Unt h' a := by
  obtain ⟨c, h1, h2, h3⟩ := F
  exact ⟨c, Kp.2.1 _ _ h1 q, h2, h3⟩
/-- a cell lies at a, of a known kind -/
def Knw (h : Heap) (a : Addr) : Prop := ∃ cell : Cell, h[a]? = some cell ∧ cell.vm ≠ .unknown
theorem Knw.keep {h h' : Heap} {a : Addr} {ws : List Addr} (F : Knw h a) (Kp : Keep h h' ws) : Knw h' a := by
  obtain ⟨c, h1, h2⟩ := F
  obtain ⟨c', q1, -, q3, -⟩ := Kp.2.2 _ _ h1
  exact ⟨c', q1, by rw [q3]; exact h2⟩
end Jvm.Own
namespace Jvm.Pilot.@@N@@
open Jvm Jvm.ClassFile Sem Op Lib Jvm.Free Jvm.Stand Jvm.LawKit Jvm.RoadKit Jvm.Own Jvm.Pilot.@@N@@.Jvm.D
abbrev WD : Bool := true
abbrev EL0 : List (String × Nat) := [("com/example/loadbay/loadbay/Refusal", 42), ("com/example/loadbay/loadbay/RefusalBadEncodingPinLaw", 16)]
theorem hWE : WD = false → EL0 = [] := fun h => by cases h
theorem hEL {Z : State} {a0 : Array Value} (hw : ∀ d ∈ tables_1, d.before a0 Z = true) : EW Z a0 EL0 := EW.cons (hw _ (List.mem_of_getElem? (i := 51) rfl)) (by decide +kernel) (EW.cons (hw _ (List.mem_of_getElem? (i := 228) rfl)) (by decide +kernel) (EW.nil))
theorem wS {Z : State} {a0 : Array Value} (hw : ∀ d ∈ tables_1, d.before a0 Z = true) : ∀ a ∈ Bundle.stringAtoms, a.before a0 Z = true := by
  intro d hd
  simp only [Bundle.stringAtoms, List.mem_cons, List.not_mem_nil, or_false] at hd
  rcases hd with rfl | rfl | rfl | rfl | rfl | rfl | rfl
  · exact (hw _ (List.mem_of_getElem? (i := 3) rfl))
  · exact (hw _ (List.mem_of_getElem? (i := 11) rfl))
  · exact (hw _ (List.mem_of_getElem? (i := 15) rfl))
  · exact (hw _ (List.mem_of_getElem? (i := 24) rfl))
  · exact (hw _ (List.mem_of_getElem? (i := 26) rfl))
  · exact (hw _ (List.mem_of_getElem? (i := 52) rfl))
  · exact (hw _ (List.mem_of_getElem? (i := 53) rfl))
def Stt (Z : State) : Prop := (∃ cv : Int32, ¬ cv = 0 ∧ Sta Z Z.heap "java/lang/String" "COMPACT_STRINGS" "Z" (.int cv)) ∧ (∃ v : Value, v.isRef = true ∧ Sta Z Z.heap "jdk/internal/util/Preconditions" "SIOOBE_FORMATTER" "Ljava/util/function/BiFunction;" v) ∧ (∃ r : Addr, Sta Z Z.heap "java/lang/Throwable" "UNASSIGNED_STACK" "[Ljava/lang/StackTraceElement;" (.ref r)) ∧ (∃ r : Addr, Sta Z Z.heap "java/lang/Throwable" "SUPPRESSED_SENTINEL" "Ljava/util/List;" (.ref r)) ∧ True
theorem st_c {Z : State} (hs : Stt Z) : (∃ cv : Int32, ¬ cv = 0 ∧ Sta Z Z.heap "java/lang/String" "COMPACT_STRINGS" "Z" (.int cv)) := hs.1
theorem st_f {Z : State} (hs : Stt Z) : (∃ v : Value, v.isRef = true ∧ Sta Z Z.heap "jdk/internal/util/Preconditions" "SIOOBE_FORMATTER" "Ljava/util/function/BiFunction;" v) := hs.2.1
theorem st_u {Z : State} (hs : Stt Z) : (∃ r : Addr, Sta Z Z.heap "java/lang/Throwable" "UNASSIGNED_STACK" "[Ljava/lang/StackTraceElement;" (.ref r)) := hs.2.2.1
theorem st_s {Z : State} (hs : Stt Z) : (∃ r : Addr, Sta Z Z.heap "java/lang/Throwable" "SUPPRESSED_SENTINEL" "Ljava/util/List;" (.ref r)) := hs.2.2.2.1
theorem d0_0 : Dc jdk_42_method_139_code 0 (.getstatic 38) 3 3 := ⟨by decide +kernel, rfl⟩
theorem d0_3 : Db jdk_42_method_139_code 3 (.ifCond .eq 23) 3 6 (23) 26 := ⟨by decide +kernel, rfl, by decide, by decide⟩
theorem d0_6 : Dc jdk_42_method_139_code 6 (.iload_n 0) 1 7 := ⟨by decide +kernel, rfl⟩
theorem d0_7 : Dc jdk_42_method_139_code 7 (.invokestatic 1015) 3 10 := ⟨by decide +kernel, rfl⟩
theorem d0_10 : Db jdk_42_method_139_code 10 (.ifCond .eq 16) 3 13 (16) 26 := ⟨by decide +kernel, rfl, by decide, by decide⟩
theorem d0_13 : Dc jdk_42_method_139_code 13 (.new 10) 3 16 := ⟨by decide +kernel, rfl⟩
theorem d0_16 : Dc jdk_42_method_139_code 16 (.dup) 1 17 := ⟨by decide +kernel, rfl⟩
theorem d0_17 : Dc jdk_42_method_139_code 17 (.iload_n 0) 1 18 := ⟨by decide +kernel, rfl⟩
theorem d0_18 : Dc jdk_42_method_139_code 18 (.invokestatic 1018) 3 21 := ⟨by decide +kernel, rfl⟩
theorem d0_21 : Dc jdk_42_method_139_code 21 (.iconst 0) 1 22 := ⟨by decide +kernel, rfl⟩
theorem d0_22 : Dc jdk_42_method_139_code 22 (.invokespecial 209) 3 25 := ⟨by decide +kernel, rfl⟩
theorem d0_25 : Dc jdk_42_method_139_code 25 (.areturn) 1 26 := ⟨by decide +kernel, rfl⟩
theorem d1_0 : Dc jdk_43_method_3_code 0 (.iload_n 0) 1 1 := ⟨by decide +kernel, rfl⟩
theorem d1_1 : Dc jdk_43_method_3_code 1 (.sipush 255) 3 4 := ⟨by decide +kernel, rfl⟩
theorem d1_4 : Db jdk_43_method_3_code 4 (.if_icmp .gt 7) 3 7 (7) 11 := ⟨by decide +kernel, rfl, by decide, by decide⟩
theorem d1_7 : Dc jdk_43_method_3_code 7 (.iconst 1) 1 8 := ⟨by decide +kernel, rfl⟩
theorem d1_8 : Db jdk_43_method_3_code 8 (.goto 4) 3 11 (4) 12 := ⟨by decide +kernel, rfl, by decide, by decide⟩
theorem d1_12 : Dc jdk_43_method_3_code 12 (.ireturn) 1 13 := ⟨by decide +kernel, rfl⟩
theorem d2_0 : Dc jdk_43_method_46_code 0 (.iconst 1) 1 1 := ⟨by decide +kernel, rfl⟩
theorem d2_1 : Dc jdk_43_method_46_code 1 (.newarray .byte) 2 3 := ⟨by decide +kernel, rfl⟩
theorem d2_3 : Dc jdk_43_method_46_code 3 (.dup) 1 4 := ⟨by decide +kernel, rfl⟩
theorem d2_4 : Dc jdk_43_method_46_code 4 (.iconst 0) 1 5 := ⟨by decide +kernel, rfl⟩
theorem d2_5 : Dc jdk_43_method_46_code 5 (.iload_n 0) 1 6 := ⟨by decide +kernel, rfl⟩
theorem d2_6 : Dc jdk_43_method_46_code 6 (.i2b) 1 7 := ⟨by decide +kernel, rfl⟩
theorem d2_7 : Dc jdk_43_method_46_code 7 (.bastore) 1 8 := ⟨by decide +kernel, rfl⟩
theorem d2_8 : Dc jdk_43_method_46_code 8 (.areturn) 1 9 := ⟨by decide +kernel, rfl⟩
theorem d3_0 : Dc jdk_42_method_151_code 0 (.aload_n 0) 1 1 := ⟨by decide +kernel, rfl⟩
theorem d3_1 : Dc jdk_42_method_151_code 1 (.invokespecial 1) 3 4 := ⟨by decide +kernel, rfl⟩
theorem d3_4 : Dc jdk_42_method_151_code 4 (.aload_n 0) 1 5 := ⟨by decide +kernel, rfl⟩
theorem d3_5 : Dc jdk_42_method_151_code 5 (.aload_n 1) 1 6 := ⟨by decide +kernel, rfl⟩
theorem d3_6 : Dc jdk_42_method_151_code 6 (.putfield 9) 3 9 := ⟨by decide +kernel, rfl⟩
theorem d3_9 : Dc jdk_42_method_151_code 9 (.aload_n 0) 1 10 := ⟨by decide +kernel, rfl⟩
theorem d3_10 : Dc jdk_42_method_151_code 10 (.iload_n 2) 1 11 := ⟨by decide +kernel, rfl⟩
theorem d3_11 : Dc jdk_42_method_151_code 11 (.putfield 15) 3 14 := ⟨by decide +kernel, rfl⟩
theorem d3_14 : Dc jdk_42_method_151_code 14 (.return_) 1 15 := ⟨by decide +kernel, rfl⟩
theorem d5_0 : Dc prog_5_method_9_code 0 (.new 8) 3 3 := ⟨by decide +kernel, rfl⟩
theorem d5_3 : Dc prog_5_method_9_code 3 (.dup) 1 4 := ⟨by decide +kernel, rfl⟩
theorem d5_4 : Dc prog_5_method_9_code 4 (.sipush 400) 3 7 := ⟨by decide +kernel, rfl⟩
theorem d5_7 : Dc prog_5_method_9_code 7 (.bipush (-51)) 2 9 := ⟨by decide +kernel, rfl⟩
theorem d5_9 : Dc prog_5_method_9_code 9 (.new 23) 3 12 := ⟨by decide +kernel, rfl⟩
theorem d5_12 : Dc prog_5_method_9_code 12 (.dup) 1 13 := ⟨by decide +kernel, rfl⟩
theorem d5_13 : Dc prog_5_method_9_code 13 (.invokespecial 25) 3 16 := ⟨by decide +kernel, rfl⟩
theorem d5_16 : Dc prog_5_method_9_code 16 (.ldc 42) 2 18 := ⟨by decide +kernel, rfl⟩
theorem d5_18 : Dc prog_5_method_9_code 18 (.invokevirtual 30) 3 21 := ⟨by decide +kernel, rfl⟩
theorem d5_21 : Dc prog_5_method_9_code 21 (.aload_n 0) 1 22 := ⟨by decide +kernel, rfl⟩
theorem d5_22 : Dc prog_5_method_9_code 22 (.invokevirtual 30) 3 25 := ⟨by decide +kernel, rfl⟩
theorem d5_25 : Dc prog_5_method_9_code 25 (.invokevirtual 34) 3 28 := ⟨by decide +kernel, rfl⟩
theorem d5_28 : Dc prog_5_method_9_code 28 (.invokespecial 18) 3 31 := ⟨by decide +kernel, rfl⟩
theorem d5_31 : Dc prog_5_method_9_code 31 (.areturn) 1 32 := ⟨by decide +kernel, rfl⟩
theorem d6_0 : Dc jdk_67_method_1_code 0 (.aload_n 0) 1 1 := ⟨by decide +kernel, rfl⟩
theorem d6_1 : Dc jdk_67_method_1_code 1 (.bipush 16) 2 3 := ⟨by decide +kernel, rfl⟩
theorem d6_3 : Dc jdk_67_method_1_code 3 (.invokespecial 1) 3 6 := ⟨by decide +kernel, rfl⟩
theorem d6_6 : Dc jdk_67_method_1_code 6 (.return_) 1 7 := ⟨by decide +kernel, rfl⟩
theorem d7_0 : Dc jdk_68_method_2_code 0 (.aload_n 0) 1 1 := ⟨by decide +kernel, rfl⟩
theorem d7_1 : Dc jdk_68_method_2_code 1 (.invokespecial 3) 3 4 := ⟨by decide +kernel, rfl⟩
theorem d7_4 : Dc jdk_68_method_2_code 4 (.getstatic 18) 3 7 := ⟨by decide +kernel, rfl⟩
theorem d7_7 : Db jdk_68_method_2_code 7 (.ifCond .eq 18) 3 10 (18) 25 := ⟨by decide +kernel, rfl, by decide, by decide⟩
theorem d7_10 : Dc jdk_68_method_2_code 10 (.aload_n 0) 1 11 := ⟨by decide +kernel, rfl⟩
theorem d7_11 : Dc jdk_68_method_2_code 11 (.iload_n 1) 1 12 := ⟨by decide +kernel, rfl⟩
theorem d7_12 : Dc jdk_68_method_2_code 12 (.newarray .byte) 2 14 := ⟨by decide +kernel, rfl⟩
theorem d7_14 : Dc jdk_68_method_2_code 14 (.putfield 15) 3 17 := ⟨by decide +kernel, rfl⟩
theorem d7_17 : Dc jdk_68_method_2_code 17 (.aload_n 0) 1 18 := ⟨by decide +kernel, rfl⟩
theorem d7_18 : Dc jdk_68_method_2_code 18 (.iconst 0) 1 19 := ⟨by decide +kernel, rfl⟩
theorem d7_19 : Dc jdk_68_method_2_code 19 (.putfield 22) 3 22 := ⟨by decide +kernel, rfl⟩
theorem d7_22 : Db jdk_68_method_2_code 22 (.goto 16) 3 25 (16) 38 := ⟨by decide +kernel, rfl, by decide, by decide⟩
theorem d7_38 : Dc jdk_68_method_2_code 38 (.return_) 1 39 := ⟨by decide +kernel, rfl⟩
theorem d8_0 : Dc jdk_67_method_7_code 0 (.aload_n 0) 1 1 := ⟨by decide +kernel, rfl⟩
theorem d8_1 : Dc jdk_67_method_7_code 1 (.aload_n 1) 1 2 := ⟨by decide +kernel, rfl⟩
theorem d8_2 : Dc jdk_67_method_7_code 2 (.invokespecial 29) 3 5 := ⟨by decide +kernel, rfl⟩
theorem d8_5 : Dc jdk_67_method_7_code 5 (.pop) 1 6 := ⟨by decide +kernel, rfl⟩
theorem d8_6 : Dc jdk_67_method_7_code 6 (.aload_n 0) 1 7 := ⟨by decide +kernel, rfl⟩
theorem d8_7 : Dc jdk_67_method_7_code 7 (.areturn) 1 8 := ⟨by decide +kernel, rfl⟩
theorem d9_0 : Dc jdk_68_method_22_code 0 (.aload_n 1) 1 1 := ⟨by decide +kernel, rfl⟩
theorem d9_1 : Db jdk_68_method_22_code 1 (.ifnonnull 8) 3 4 (8) 9 := ⟨by decide +kernel, rfl, by decide, by decide⟩
theorem d9_4 : Dc jdk_68_method_22_code 4 (.aload_n 0) 1 5 := ⟨by decide +kernel, rfl⟩
theorem d9_5 : Dc jdk_68_method_22_code 5 (.invokevirtual 204) 3 8 := ⟨by decide +kernel, rfl⟩
theorem d9_8 : Dc jdk_68_method_22_code 8 (.areturn) 1 9 := ⟨by decide +kernel, rfl⟩
theorem d9_9 : Dc jdk_68_method_22_code 9 (.aload_n 1) 1 10 := ⟨by decide +kernel, rfl⟩
theorem d9_10 : Dc jdk_68_method_22_code 10 (.invokevirtual 32) 3 13 := ⟨by decide +kernel, rfl⟩
theorem d9_13 : Dc jdk_68_method_22_code 13 (.istore_n 2) 1 14 := ⟨by decide +kernel, rfl⟩
theorem d9_14 : Dc jdk_68_method_22_code 14 (.aload_n 0) 1 15 := ⟨by decide +kernel, rfl⟩
theorem d9_15 : Dc jdk_68_method_22_code 15 (.aload_n 0) 1 16 := ⟨by decide +kernel, rfl⟩
theorem d9_16 : Dc jdk_68_method_22_code 16 (.getfield 79) 3 19 := ⟨by decide +kernel, rfl⟩
theorem d9_19 : Dc jdk_68_method_22_code 19 (.iload_n 2) 1 20 := ⟨by decide +kernel, rfl⟩
theorem d9_20 : Dc jdk_68_method_22_code 20 (.iadd) 1 21 := ⟨by decide +kernel, rfl⟩
theorem d9_21 : Dc jdk_68_method_22_code 21 (.invokevirtual 100) 3 24 := ⟨by decide +kernel, rfl⟩
theorem d9_24 : Dc jdk_68_method_22_code 24 (.aload_n 0) 1 25 := ⟨by decide +kernel, rfl⟩
theorem d9_25 : Dc jdk_68_method_22_code 25 (.aload_n 0) 1 26 := ⟨by decide +kernel, rfl⟩
theorem d9_26 : Dc jdk_68_method_22_code 26 (.getfield 79) 3 29 := ⟨by decide +kernel, rfl⟩
theorem d9_29 : Dc jdk_68_method_22_code 29 (.aload_n 1) 1 30 := ⟨by decide +kernel, rfl⟩
theorem d9_30 : Dc jdk_68_method_22_code 30 (.invokevirtual 208) 3 33 := ⟨by decide +kernel, rfl⟩
theorem d9_33 : Dc jdk_68_method_22_code 33 (.aload_n 0) 1 34 := ⟨by decide +kernel, rfl⟩
theorem d9_34 : Dc jdk_68_method_22_code 34 (.dup) 1 35 := ⟨by decide +kernel, rfl⟩
theorem d9_35 : Dc jdk_68_method_22_code 35 (.getfield 79) 3 38 := ⟨by decide +kernel, rfl⟩
theorem d9_38 : Dc jdk_68_method_22_code 38 (.iload_n 2) 1 39 := ⟨by decide +kernel, rfl⟩
theorem d9_39 : Dc jdk_68_method_22_code 39 (.iadd) 1 40 := ⟨by decide +kernel, rfl⟩
theorem d9_40 : Dc jdk_68_method_22_code 40 (.putfield 79) 3 43 := ⟨by decide +kernel, rfl⟩
theorem d9_43 : Dc jdk_68_method_22_code 43 (.aload_n 0) 1 44 := ⟨by decide +kernel, rfl⟩
theorem d9_44 : Dc jdk_68_method_22_code 44 (.areturn) 1 45 := ⟨by decide +kernel, rfl⟩
theorem d10_0 : Dc jdk_42_method_54_code 0 (.aload_n 0) 1 1 := ⟨by decide +kernel, rfl⟩
theorem d10_1 : Dc jdk_42_method_54_code 1 (.getfield 9) 3 4 := ⟨by decide +kernel, rfl⟩
theorem d10_4 : Dc jdk_42_method_54_code 4 (.arraylength) 1 5 := ⟨by decide +kernel, rfl⟩
theorem d10_5 : Dc jdk_42_method_54_code 5 (.aload_n 0) 1 6 := ⟨by decide +kernel, rfl⟩
theorem d10_6 : Dc jdk_42_method_54_code 6 (.invokevirtual 335) 3 9 := ⟨by decide +kernel, rfl⟩
theorem d10_9 : Dc jdk_42_method_54_code 9 (.ishr) 1 10 := ⟨by decide +kernel, rfl⟩
theorem d10_10 : Dc jdk_42_method_54_code 10 (.ireturn) 1 11 := ⟨by decide +kernel, rfl⟩
theorem d11_0 : Dc jdk_42_method_152_code 0 (.getstatic 38) 3 3 := ⟨by decide +kernel, rfl⟩
theorem d11_3 : Db jdk_42_method_152_code 3 (.ifCond .eq 10) 3 6 (10) 13 := ⟨by decide +kernel, rfl, by decide, by decide⟩
theorem d11_6 : Dc jdk_42_method_152_code 6 (.aload_n 0) 1 7 := ⟨by decide +kernel, rfl⟩
theorem d11_7 : Dc jdk_42_method_152_code 7 (.getfield 15) 3 10 := ⟨by decide +kernel, rfl⟩
theorem d11_10 : Db jdk_42_method_152_code 10 (.goto 4) 3 13 (4) 14 := ⟨by decide +kernel, rfl, by decide, by decide⟩
theorem d11_14 : Dc jdk_42_method_152_code 14 (.ireturn) 1 15 := ⟨by decide +kernel, rfl⟩
theorem d12_0 : Dc jdk_68_method_9_code 0 (.aload_n 0) 1 1 := ⟨by decide +kernel, rfl⟩
theorem d12_1 : Dc jdk_68_method_9_code 1 (.getfield 15) 3 4 := ⟨by decide +kernel, rfl⟩
theorem d12_4 : Dc jdk_68_method_9_code 4 (.arraylength) 1 5 := ⟨by decide +kernel, rfl⟩
theorem d12_5 : Dc jdk_68_method_9_code 5 (.aload_n 0) 1 6 := ⟨by decide +kernel, rfl⟩
theorem d12_6 : Dc jdk_68_method_9_code 6 (.getfield 22) 3 9 := ⟨by decide +kernel, rfl⟩
theorem d12_9 : Dc jdk_68_method_9_code 9 (.ishr) 1 10 := ⟨by decide +kernel, rfl⟩
theorem d12_10 : Dc jdk_68_method_9_code 10 (.istore_n 2) 1 11 := ⟨by decide +kernel, rfl⟩
theorem d12_11 : Dc jdk_68_method_9_code 11 (.iload_n 1) 1 12 := ⟨by decide +kernel, rfl⟩
theorem d12_12 : Dc jdk_68_method_9_code 12 (.iload_n 2) 1 13 := ⟨by decide +kernel, rfl⟩
theorem d12_13 : Dc jdk_68_method_9_code 13 (.isub) 1 14 := ⟨by decide +kernel, rfl⟩
theorem d12_14 : Db jdk_68_method_9_code 14 (.ifCond .le 24) 3 17 (24) 38 := ⟨by decide +kernel, rfl, by decide, by decide⟩
theorem d12_17 : Dc jdk_68_method_9_code 17 (.aload_n 0) 1 18 := ⟨by decide +kernel, rfl⟩
theorem d12_18 : Dc jdk_68_method_9_code 18 (.aload_n 0) 1 19 := ⟨by decide +kernel, rfl⟩
theorem d12_19 : Dc jdk_68_method_9_code 19 (.getfield 15) 3 22 := ⟨by decide +kernel, rfl⟩
theorem d12_22 : Dc jdk_68_method_9_code 22 (.aload_n 0) 1 23 := ⟨by decide +kernel, rfl⟩
theorem d12_23 : Dc jdk_68_method_9_code 23 (.iload_n 1) 1 24 := ⟨by decide +kernel, rfl⟩
theorem d12_24 : Dc jdk_68_method_9_code 24 (.invokevirtual 104) 3 27 := ⟨by decide +kernel, rfl⟩
theorem d12_27 : Dc jdk_68_method_9_code 27 (.aload_n 0) 1 28 := ⟨by decide +kernel, rfl⟩
theorem d12_28 : Dc jdk_68_method_9_code 28 (.getfield 22) 3 31 := ⟨by decide +kernel, rfl⟩
theorem d12_31 : Dc jdk_68_method_9_code 31 (.ishl) 1 32 := ⟨by decide +kernel, rfl⟩
theorem d12_32 : Dc jdk_68_method_9_code 32 (.invokestatic 108) 3 35 := ⟨by decide +kernel, rfl⟩
theorem d12_35 : Dc jdk_68_method_9_code 35 (.putfield 15) 3 38 := ⟨by decide +kernel, rfl⟩
theorem d12_38 : Dc jdk_68_method_9_code 38 (.return_) 1 39 := ⟨by decide +kernel, rfl⟩
theorem d13_0 : Dc jdk_68_method_10_code 0 (.aload_n 0) 1 1 := ⟨by decide +kernel, rfl⟩
theorem d13_1 : Dc jdk_68_method_10_code 1 (.getfield 15) 3 4 := ⟨by decide +kernel, rfl⟩
theorem d13_4 : Dc jdk_68_method_10_code 4 (.arraylength) 1 5 := ⟨by decide +kernel, rfl⟩
theorem d13_5 : Dc jdk_68_method_10_code 5 (.istore_n 2) 1 6 := ⟨by decide +kernel, rfl⟩
theorem d13_6 : Dc jdk_68_method_10_code 6 (.iload_n 1) 1 7 := ⟨by decide +kernel, rfl⟩
theorem d13_7 : Dc jdk_68_method_10_code 7 (.aload_n 0) 1 8 := ⟨by decide +kernel, rfl⟩
theorem d13_8 : Dc jdk_68_method_10_code 8 (.getfield 22) 3 11 := ⟨by decide +kernel, rfl⟩
theorem d13_11 : Dc jdk_68_method_10_code 11 (.ishl) 1 12 := ⟨by decide +kernel, rfl⟩
theorem d13_12 : Dc jdk_68_method_10_code 12 (.istore_n 3) 1 13 := ⟨by decide +kernel, rfl⟩
theorem d13_13 : Dc jdk_68_method_10_code 13 (.iload_n 3) 1 14 := ⟨by decide +kernel, rfl⟩
theorem d13_14 : Dc jdk_68_method_10_code 14 (.iload_n 2) 1 15 := ⟨by decide +kernel, rfl⟩
theorem d13_15 : Dc jdk_68_method_10_code 15 (.isub) 1 16 := ⟨by decide +kernel, rfl⟩
theorem d13_16 : Dc jdk_68_method_10_code 16 (.istore 4) 2 18 := ⟨by decide +kernel, rfl⟩
theorem d13_18 : Dc jdk_68_method_10_code 18 (.iload_n 2) 1 19 := ⟨by decide +kernel, rfl⟩
theorem d13_19 : Dc jdk_68_method_10_code 19 (.iload 4) 2 21 := ⟨by decide +kernel, rfl⟩
theorem d13_21 : Dc jdk_68_method_10_code 21 (.iload_n 2) 1 22 := ⟨by decide +kernel, rfl⟩
theorem d13_22 : Dc jdk_68_method_10_code 22 (.iconst 2) 1 23 := ⟨by decide +kernel, rfl⟩
theorem d13_23 : Dc jdk_68_method_10_code 23 (.aload_n 0) 1 24 := ⟨by decide +kernel, rfl⟩
theorem d13_24 : Dc jdk_68_method_10_code 24 (.getfield 22) 3 27 := ⟨by decide +kernel, rfl⟩
theorem d13_27 : Dc jdk_68_method_10_code 27 (.ishl) 1 28 := ⟨by decide +kernel, rfl⟩
theorem d13_28 : Dc jdk_68_method_10_code 28 (.iadd) 1 29 := ⟨by decide +kernel, rfl⟩
theorem d13_29 : Dc jdk_68_method_10_code 29 (.invokestatic 114) 3 32 := ⟨by decide +kernel, rfl⟩
theorem d13_32 : Dc jdk_68_method_10_code 32 (.istore 5) 2 34 := ⟨by decide +kernel, rfl⟩
theorem d13_34 : Dc jdk_68_method_10_code 34 (.iload 5) 2 36 := ⟨by decide +kernel, rfl⟩
theorem d13_36 : Dc jdk_68_method_10_code 36 (.ldc 39) 2 38 := ⟨by decide +kernel, rfl⟩
theorem d13_38 : Db jdk_68_method_10_code 38 (.if_icmp .ne 13) 3 41 (13) 51 := ⟨by decide +kernel, rfl, by decide, by decide⟩
theorem d13_51 : Dc jdk_68_method_10_code 51 (.iload 5) 2 53 := ⟨by decide +kernel, rfl⟩
theorem d13_53 : Dc jdk_68_method_10_code 53 (.aload_n 0) 1 54 := ⟨by decide +kernel, rfl⟩
theorem d13_54 : Dc jdk_68_method_10_code 54 (.getfield 22) 3 57 := ⟨by decide +kernel, rfl⟩
theorem d13_57 : Dc jdk_68_method_10_code 57 (.ishr) 1 58 := ⟨by decide +kernel, rfl⟩
theorem d13_58 : Dc jdk_68_method_10_code 58 (.ireturn) 1 59 := ⟨by decide +kernel, rfl⟩
theorem d14_0 : Dc jdk_48_method_27_code 0 (.iload_n 0) 1 1 := ⟨by decide +kernel, rfl⟩
theorem d14_1 : Dc jdk_48_method_27_code 1 (.iload_n 1) 1 2 := ⟨by decide +kernel, rfl⟩
theorem d14_2 : Dc jdk_48_method_27_code 2 (.iload_n 2) 1 3 := ⟨by decide +kernel, rfl⟩
theorem d14_3 : Dc jdk_48_method_27_code 3 (.invokestatic 194) 3 6 := ⟨by decide +kernel, rfl⟩
theorem d14_6 : Dc jdk_48_method_27_code 6 (.iadd) 1 7 := ⟨by decide +kernel, rfl⟩
theorem d14_7 : Dc jdk_48_method_27_code 7 (.istore_n 3) 1 8 := ⟨by decide +kernel, rfl⟩
theorem d14_8 : Dc jdk_48_method_27_code 8 (.iconst 0) 1 9 := ⟨by decide +kernel, rfl⟩
theorem d14_9 : Dc jdk_48_method_27_code 9 (.iload_n 3) 1 10 := ⟨by decide +kernel, rfl⟩
theorem d14_10 : Db jdk_48_method_27_code 10 (.if_icmp .ge 11) 3 13 (11) 21 := ⟨by decide +kernel, rfl, by decide, by decide⟩
theorem d14_13 : Dc jdk_48_method_27_code 13 (.iload_n 3) 1 14 := ⟨by decide +kernel, rfl⟩
theorem d14_14 : Dc jdk_48_method_27_code 14 (.ldc 200) 2 16 := ⟨by decide +kernel, rfl⟩
theorem d14_16 : Db jdk_48_method_27_code 16 (.if_icmp .gt 5) 3 19 (5) 21 := ⟨by decide +kernel, rfl, by decide, by decide⟩
theorem d14_19 : Dc jdk_48_method_27_code 19 (.iload_n 3) 1 20 := ⟨by decide +kernel, rfl⟩
theorem d14_20 : Dc jdk_48_method_27_code 20 (.ireturn) 1 21 := ⟨by decide +kernel, rfl⟩
theorem d15_0 : Dc jdk_29_method_65_code 0 (.iload_n 0) 1 1 := ⟨by decide +kernel, rfl⟩
theorem d15_1 : Dc jdk_29_method_65_code 1 (.iload_n 1) 1 2 := ⟨by decide +kernel, rfl⟩
theorem d15_2 : Db jdk_29_method_65_code 2 (.if_icmp .lt 7) 3 5 (7) 9 := ⟨by decide +kernel, rfl, by decide, by decide⟩
theorem d15_5 : Dc jdk_29_method_65_code 5 (.iload_n 0) 1 6 := ⟨by decide +kernel, rfl⟩
theorem d15_6 : Db jdk_29_method_65_code 6 (.goto 4) 3 9 (4) 10 := ⟨by decide +kernel, rfl, by decide, by decide⟩
theorem d15_9 : Dc jdk_29_method_65_code 9 (.iload_n 1) 1 10 := ⟨by decide +kernel, rfl⟩
theorem d15_10 : Dc jdk_29_method_65_code 10 (.ireturn) 1 11 := ⟨by decide +kernel, rfl⟩
theorem d16_0 : Dc jdk_65_method_121_code 0 (.iload_n 1) 1 1 := ⟨by decide +kernel, rfl⟩
theorem d16_1 : Dc jdk_65_method_121_code 1 (.aload_n 0) 1 2 := ⟨by decide +kernel, rfl⟩
theorem d16_2 : Dc jdk_65_method_121_code 2 (.arraylength) 1 3 := ⟨by decide +kernel, rfl⟩
theorem d16_3 : Db jdk_65_method_121_code 3 (.if_icmp .ne 11) 3 6 (11) 14 := ⟨by decide +kernel, rfl, by decide, by decide⟩
theorem d16_14 : Dc jdk_65_method_121_code 14 (.iload_n 1) 1 15 := ⟨by decide +kernel, rfl⟩
theorem d16_15 : Dc jdk_65_method_121_code 15 (.newarray .byte) 2 17 := ⟨by decide +kernel, rfl⟩
theorem d16_17 : Dc jdk_65_method_121_code 17 (.astore_n 2) 1 18 := ⟨by decide +kernel, rfl⟩
theorem d16_18 : Dc jdk_65_method_121_code 18 (.aload_n 0) 1 19 := ⟨by decide +kernel, rfl⟩
theorem d16_19 : Dc jdk_65_method_121_code 19 (.iconst 0) 1 20 := ⟨by decide +kernel, rfl⟩
theorem d16_20 : Dc jdk_65_method_121_code 20 (.aload_n 2) 1 21 := ⟨by decide +kernel, rfl⟩
theorem d16_21 : Dc jdk_65_method_121_code 21 (.iconst 0) 1 22 := ⟨by decide +kernel, rfl⟩
theorem d16_22 : Dc jdk_65_method_121_code 22 (.aload_n 0) 1 23 := ⟨by decide +kernel, rfl⟩
theorem d16_23 : Dc jdk_65_method_121_code 23 (.arraylength) 1 24 := ⟨by decide +kernel, rfl⟩
theorem d16_24 : Dc jdk_65_method_121_code 24 (.iload_n 1) 1 25 := ⟨by decide +kernel, rfl⟩
theorem d16_25 : Dc jdk_65_method_121_code 25 (.invokestatic 304) 3 28 := ⟨by decide +kernel, rfl⟩
theorem d16_28 : Dc jdk_65_method_121_code 28 (.invokestatic 150) 3 31 := ⟨by decide +kernel, rfl⟩
theorem d16_31 : Dc jdk_65_method_121_code 31 (.aload_n 2) 1 32 := ⟨by decide +kernel, rfl⟩
theorem d16_32 : Dc jdk_65_method_121_code 32 (.areturn) 1 33 := ⟨by decide +kernel, rfl⟩
theorem d17_0 : Dc jdk_29_method_69_code 0 (.iload_n 0) 1 1 := ⟨by decide +kernel, rfl⟩
theorem d17_1 : Dc jdk_29_method_69_code 1 (.iload_n 1) 1 2 := ⟨by decide +kernel, rfl⟩
theorem d17_2 : Db jdk_29_method_69_code 2 (.if_icmp .gt 7) 3 5 (7) 9 := ⟨by decide +kernel, rfl, by decide, by decide⟩
theorem d17_5 : Dc jdk_29_method_69_code 5 (.iload_n 0) 1 6 := ⟨by decide +kernel, rfl⟩
theorem d17_6 : Db jdk_29_method_69_code 6 (.goto 4) 3 9 (4) 10 := ⟨by decide +kernel, rfl, by decide, by decide⟩
theorem d17_9 : Dc jdk_29_method_69_code 9 (.iload_n 1) 1 10 := ⟨by decide +kernel, rfl⟩
theorem d17_10 : Dc jdk_29_method_69_code 10 (.ireturn) 1 11 := ⟨by decide +kernel, rfl⟩
theorem d18_0 : Dc jdk_68_method_73_code 0 (.aload_n 0) 1 1 := ⟨by decide +kernel, rfl⟩
theorem d18_1 : Dc jdk_68_method_73_code 1 (.aload_n 2) 1 2 := ⟨by decide +kernel, rfl⟩
theorem d18_2 : Dc jdk_68_method_73_code 2 (.invokevirtual 397) 3 5 := ⟨by decide +kernel, rfl⟩
theorem d18_5 : Dc jdk_68_method_73_code 5 (.aload_n 2) 1 6 := ⟨by decide +kernel, rfl⟩
theorem d18_6 : Dc jdk_68_method_73_code 6 (.aload_n 0) 1 7 := ⟨by decide +kernel, rfl⟩
theorem d18_7 : Dc jdk_68_method_73_code 7 (.getfield 15) 3 10 := ⟨by decide +kernel, rfl⟩
theorem d18_10 : Dc jdk_68_method_73_code 10 (.iload_n 1) 1 11 := ⟨by decide +kernel, rfl⟩
theorem d18_11 : Dc jdk_68_method_73_code 11 (.aload_n 0) 1 12 := ⟨by decide +kernel, rfl⟩
theorem d18_12 : Dc jdk_68_method_73_code 12 (.getfield 22) 3 15 := ⟨by decide +kernel, rfl⟩
theorem d18_15 : Dc jdk_68_method_73_code 15 (.invokevirtual 399) 3 18 := ⟨by decide +kernel, rfl⟩
theorem d18_18 : Dc jdk_68_method_73_code 18 (.return_) 1 19 := ⟨by decide +kernel, rfl⟩
theorem d19_0 : Dc jdk_68_method_71_code 0 (.getstatic 18) 3 3 := ⟨by decide +kernel, rfl⟩
theorem d19_3 : Db jdk_68_method_71_code 3 (.ifCond .eq 18) 3 6 (18) 21 := ⟨by decide +kernel, rfl, by decide, by decide⟩
theorem d19_6 : Dc jdk_68_method_71_code 6 (.aload_n 0) 1 7 := ⟨by decide +kernel, rfl⟩
theorem d19_7 : Dc jdk_68_method_71_code 7 (.getfield 22) 3 10 := ⟨by decide +kernel, rfl⟩
theorem d19_10 : Dc jdk_68_method_71_code 10 (.aload_n 1) 1 11 := ⟨by decide +kernel, rfl⟩
theorem d19_11 : Dc jdk_68_method_71_code 11 (.invokevirtual 40) 3 14 := ⟨by decide +kernel, rfl⟩
theorem d19_14 : Db jdk_68_method_71_code 14 (.if_icmp .eq 7) 3 17 (7) 21 := ⟨by decide +kernel, rfl, by decide, by decide⟩
theorem d19_21 : Dc jdk_68_method_71_code 21 (.return_) 1 22 := ⟨by decide +kernel, rfl⟩
theorem d20_0 : Dc jdk_42_method_147_code 0 (.aload_n 0) 1 1 := ⟨by decide +kernel, rfl⟩
theorem d20_1 : Dc jdk_42_method_147_code 1 (.invokevirtual 335) 3 4 := ⟨by decide +kernel, rfl⟩
theorem d20_4 : Dc jdk_42_method_147_code 4 (.iload_n 3) 1 5 := ⟨by decide +kernel, rfl⟩
theorem d20_5 : Db jdk_42_method_147_code 5 (.if_icmp .ne 23) 3 8 (23) 28 := ⟨by decide +kernel, rfl, by decide, by decide⟩
theorem d20_8 : Dc jdk_42_method_147_code 8 (.aload_n 0) 1 9 := ⟨by decide +kernel, rfl⟩
theorem d20_9 : Dc jdk_42_method_147_code 9 (.getfield 9) 3 12 := ⟨by decide +kernel, rfl⟩
theorem d20_12 : Dc jdk_42_method_147_code 12 (.iconst 0) 1 13 := ⟨by decide +kernel, rfl⟩
theorem d20_13 : Dc jdk_42_method_147_code 13 (.aload_n 1) 1 14 := ⟨by decide +kernel, rfl⟩
theorem d20_14 : Dc jdk_42_method_147_code 14 (.iload_n 2) 1 15 := ⟨by decide +kernel, rfl⟩
theorem d20_15 : Dc jdk_42_method_147_code 15 (.iload_n 3) 1 16 := ⟨by decide +kernel, rfl⟩
theorem d20_16 : Dc jdk_42_method_147_code 16 (.ishl) 1 17 := ⟨by decide +kernel, rfl⟩
theorem d20_17 : Dc jdk_42_method_147_code 17 (.aload_n 0) 1 18 := ⟨by decide +kernel, rfl⟩
theorem d20_18 : Dc jdk_42_method_147_code 18 (.getfield 9) 3 21 := ⟨by decide +kernel, rfl⟩
theorem d20_21 : Dc jdk_42_method_147_code 21 (.arraylength) 1 22 := ⟨by decide +kernel, rfl⟩
theorem d20_22 : Dc jdk_42_method_147_code 22 (.invokestatic 212) 3 25 := ⟨by decide +kernel, rfl⟩
theorem d20_25 : Db jdk_42_method_147_code 25 (.goto 18) 3 28 (18) 43 := ⟨by decide +kernel, rfl, by decide, by decide⟩
theorem d20_43 : Dc jdk_42_method_147_code 43 (.return_) 1 44 := ⟨by decide +kernel, rfl⟩
theorem d21_0 : Dc jdk_67_method_42_code 0 (.new 18) 3 3 := ⟨by decide +kernel, rfl⟩
theorem d21_3 : Dc jdk_67_method_42_code 3 (.dup) 1 4 := ⟨by decide +kernel, rfl⟩
theorem d21_4 : Dc jdk_67_method_42_code 4 (.aload_n 0) 1 5 := ⟨by decide +kernel, rfl⟩
theorem d21_5 : Dc jdk_67_method_42_code 5 (.invokespecial 137) 3 8 := ⟨by decide +kernel, rfl⟩
theorem d21_8 : Dc jdk_67_method_42_code 8 (.areturn) 1 9 := ⟨by decide +kernel, rfl⟩
theorem d22_0 : Dc jdk_42_method_53_code 0 (.aload_n 0) 1 1 := ⟨by decide +kernel, rfl⟩
theorem d22_1 : Dc jdk_42_method_53_code 1 (.aload_n 1) 1 2 := ⟨by decide +kernel, rfl⟩
theorem d22_2 : Dc jdk_42_method_53_code 2 (.aconst_null) 1 3 := ⟨by decide +kernel, rfl⟩
theorem d22_3 : Dc jdk_42_method_53_code 3 (.invokespecial 489) 3 6 := ⟨by decide +kernel, rfl⟩
theorem d22_6 : Dc jdk_42_method_53_code 6 (.return_) 1 7 := ⟨by decide +kernel, rfl⟩
theorem d23_0 : Dc jdk_42_method_150_code 0 (.aload_n 0) 1 1 := ⟨by decide +kernel, rfl⟩
theorem d23_1 : Dc jdk_42_method_150_code 1 (.invokespecial 1) 3 4 := ⟨by decide +kernel, rfl⟩
theorem d23_4 : Dc jdk_42_method_150_code 4 (.aload_n 1) 1 5 := ⟨by decide +kernel, rfl⟩
theorem d23_5 : Dc jdk_42_method_150_code 5 (.invokevirtual 552) 3 8 := ⟨by decide +kernel, rfl⟩
theorem d23_8 : Dc jdk_42_method_150_code 8 (.astore_n 3) 1 9 := ⟨by decide +kernel, rfl⟩
theorem d23_9 : Dc jdk_42_method_150_code 9 (.aload_n 1) 1 10 := ⟨by decide +kernel, rfl⟩
theorem d23_10 : Dc jdk_42_method_150_code 10 (.invokevirtual 549) 3 13 := ⟨by decide +kernel, rfl⟩
theorem d23_13 : Dc jdk_42_method_150_code 13 (.istore 4) 2 15 := ⟨by decide +kernel, rfl⟩
theorem d23_15 : Dc jdk_42_method_150_code 15 (.aload_n 1) 1 16 := ⟨by decide +kernel, rfl⟩
theorem d23_16 : Dc jdk_42_method_150_code 16 (.invokevirtual 1047) 3 19 := ⟨by decide +kernel, rfl⟩
theorem d23_19 : Db jdk_42_method_150_code 19 (.ifCond .eq 22) 3 22 (22) 41 := ⟨by decide +kernel, rfl, by decide, by decide⟩
theorem d23_22 : Dc jdk_42_method_150_code 22 (.aload_n 0) 1 23 := ⟨by decide +kernel, rfl⟩
theorem d23_23 : Dc jdk_42_method_150_code 23 (.iconst 0) 1 24 := ⟨by decide +kernel, rfl⟩
theorem d23_24 : Dc jdk_42_method_150_code 24 (.putfield 15) 3 27 := ⟨by decide +kernel, rfl⟩
theorem d23_27 : Dc jdk_42_method_150_code 27 (.aload_n 0) 1 28 := ⟨by decide +kernel, rfl⟩
theorem d23_28 : Dc jdk_42_method_150_code 28 (.aload_n 3) 1 29 := ⟨by decide +kernel, rfl⟩
theorem d23_29 : Dc jdk_42_method_150_code 29 (.iconst 0) 1 30 := ⟨by decide +kernel, rfl⟩
theorem d23_30 : Dc jdk_42_method_150_code 30 (.iload 4) 2 32 := ⟨by decide +kernel, rfl⟩
theorem d23_32 : Dc jdk_42_method_150_code 32 (.invokestatic 54) 3 35 := ⟨by decide +kernel, rfl⟩
theorem d23_35 : Dc jdk_42_method_150_code 35 (.putfield 9) 3 38 := ⟨by decide +kernel, rfl⟩
theorem d23_38 : Db jdk_42_method_150_code 38 (.goto 59) 3 41 (59) 97 := ⟨by decide +kernel, rfl, by decide, by decide⟩
theorem d23_97 : Dc jdk_42_method_150_code 97 (.return_) 1 98 := ⟨by decide +kernel, rfl⟩
theorem d24_0 : Dc jdk_68_method_64_code 0 (.aload_n 0) 1 1 := ⟨by decide +kernel, rfl⟩
theorem d24_1 : Dc jdk_68_method_64_code 1 (.getfield 15) 3 4 := ⟨by decide +kernel, rfl⟩
theorem d24_4 : Dc jdk_68_method_64_code 4 (.areturn) 1 5 := ⟨by decide +kernel, rfl⟩
theorem d25_0 : Dc jdk_67_method_93_code 0 (.aload_n 0) 1 1 := ⟨by decide +kernel, rfl⟩
theorem d25_1 : Dc jdk_67_method_93_code 1 (.invokespecial 343) 3 4 := ⟨by decide +kernel, rfl⟩
theorem d25_4 : Dc jdk_67_method_93_code 4 (.ireturn) 1 5 := ⟨by decide +kernel, rfl⟩
theorem d26_0 : Dc jdk_68_method_6_code 0 (.aload_n 0) 1 1 := ⟨by decide +kernel, rfl⟩
theorem d26_1 : Dc jdk_68_method_6_code 1 (.getfield 79) 3 4 := ⟨by decide +kernel, rfl⟩
theorem d26_4 : Dc jdk_68_method_6_code 4 (.ireturn) 1 5 := ⟨by decide +kernel, rfl⟩
theorem d27_0 : Dc jdk_68_method_68_code 0 (.getstatic 18) 3 3 := ⟨by decide +kernel, rfl⟩
theorem d27_3 : Db jdk_68_method_68_code 3 (.ifCond .eq 14) 3 6 (14) 17 := ⟨by decide +kernel, rfl, by decide, by decide⟩
theorem d27_6 : Dc jdk_68_method_68_code 6 (.aload_n 0) 1 7 := ⟨by decide +kernel, rfl⟩
theorem d27_7 : Dc jdk_68_method_68_code 7 (.getfield 22) 3 10 := ⟨by decide +kernel, rfl⟩
theorem d27_10 : Db jdk_68_method_68_code 10 (.ifCond .ne 7) 3 13 (7) 17 := ⟨by decide +kernel, rfl, by decide, by decide⟩
theorem d27_13 : Dc jdk_68_method_68_code 13 (.iconst 1) 1 14 := ⟨by decide +kernel, rfl⟩
theorem d27_14 : Db jdk_68_method_68_code 14 (.goto 4) 3 17 (4) 18 := ⟨by decide +kernel, rfl, by decide, by decide⟩
theorem d27_18 : Dc jdk_68_method_68_code 18 (.ireturn) 1 19 := ⟨by decide +kernel, rfl⟩
theorem d28_0 : Dc jdk_65_method_132_code 0 (.iload_n 1) 1 1 := ⟨by decide +kernel, rfl⟩
theorem d28_1 : Db jdk_65_method_132_code 1 (.ifCond .ne 9) 3 4 (9) 10 := ⟨by decide +kernel, rfl, by decide, by decide⟩
theorem d28_4 : Dc jdk_65_method_132_code 4 (.iload_n 2) 1 5 := ⟨by decide +kernel, rfl⟩
theorem d28_5 : Dc jdk_65_method_132_code 5 (.aload_n 0) 1 6 := ⟨by decide +kernel, rfl⟩
theorem d28_6 : Dc jdk_65_method_132_code 6 (.arraylength) 1 7 := ⟨by decide +kernel, rfl⟩
theorem d28_7 : Db jdk_65_method_132_code 7 (.if_icmp .eq 10) 3 10 (10) 17 := ⟨by decide +kernel, rfl, by decide, by decide⟩
theorem d28_10 : Dc jdk_65_method_132_code 10 (.aload_n 0) 1 11 := ⟨by decide +kernel, rfl⟩
theorem d28_11 : Dc jdk_65_method_132_code 11 (.iload_n 1) 1 12 := ⟨by decide +kernel, rfl⟩
theorem d28_12 : Dc jdk_65_method_132_code 12 (.iload_n 2) 1 13 := ⟨by decide +kernel, rfl⟩
theorem d28_13 : Dc jdk_65_method_132_code 13 (.invokestatic 339) 3 16 := ⟨by decide +kernel, rfl⟩
theorem d28_16 : Dc jdk_65_method_132_code 16 (.areturn) 1 17 := ⟨by decide +kernel, rfl⟩
theorem d28_17 : Dc jdk_65_method_132_code 17 (.aload_n 0) 1 18 := ⟨by decide +kernel, rfl⟩
theorem d28_18 : Dc jdk_65_method_132_code 18 (.invokevirtual 310) 3 21 := ⟨by decide +kernel, rfl⟩
theorem d28_21 : Dc jdk_65_method_132_code 21 (.checkcast 311) 3 24 := ⟨by decide +kernel, rfl⟩
theorem d28_24 : Dc jdk_65_method_132_code 24 (.areturn) 1 25 := ⟨by decide +kernel, rfl⟩
theorem d29_0 : Dc jdk_65_method_133_code 0 (.iload_n 1) 1 1 := ⟨by decide +kernel, rfl⟩
theorem d29_1 : Dc jdk_65_method_133_code 1 (.iload_n 2) 1 2 := ⟨by decide +kernel, rfl⟩
theorem d29_2 : Dc jdk_65_method_133_code 2 (.invokestatic 343) 3 5 := ⟨by decide +kernel, rfl⟩
theorem d29_5 : Dc jdk_65_method_133_code 5 (.iload_n 2) 1 6 := ⟨by decide +kernel, rfl⟩
theorem d29_6 : Dc jdk_65_method_133_code 6 (.iload_n 1) 1 7 := ⟨by decide +kernel, rfl⟩
theorem d29_7 : Dc jdk_65_method_133_code 7 (.isub) 1 8 := ⟨by decide +kernel, rfl⟩
theorem d29_8 : Dc jdk_65_method_133_code 8 (.istore_n 3) 1 9 := ⟨by decide +kernel, rfl⟩
theorem d29_9 : Dc jdk_65_method_133_code 9 (.iload_n 3) 1 10 := ⟨by decide +kernel, rfl⟩
theorem d29_10 : Dc jdk_65_method_133_code 10 (.newarray .byte) 2 12 := ⟨by decide +kernel, rfl⟩
theorem d29_12 : Dc jdk_65_method_133_code 12 (.astore 4) 2 14 := ⟨by decide +kernel, rfl⟩
theorem d29_14 : Dc jdk_65_method_133_code 14 (.aload_n 0) 1 15 := ⟨by decide +kernel, rfl⟩
theorem d29_15 : Dc jdk_65_method_133_code 15 (.iload_n 1) 1 16 := ⟨by decide +kernel, rfl⟩
theorem d29_16 : Dc jdk_65_method_133_code 16 (.aload 4) 2 18 := ⟨by decide +kernel, rfl⟩
theorem d29_18 : Dc jdk_65_method_133_code 18 (.iconst 0) 1 19 := ⟨by decide +kernel, rfl⟩
theorem d29_19 : Dc jdk_65_method_133_code 19 (.aload_n 0) 1 20 := ⟨by decide +kernel, rfl⟩
theorem d29_20 : Dc jdk_65_method_133_code 20 (.arraylength) 1 21 := ⟨by decide +kernel, rfl⟩
theorem d29_21 : Dc jdk_65_method_133_code 21 (.iload_n 1) 1 22 := ⟨by decide +kernel, rfl⟩
theorem d29_22 : Dc jdk_65_method_133_code 22 (.isub) 1 23 := ⟨by decide +kernel, rfl⟩
theorem d29_23 : Dc jdk_65_method_133_code 23 (.iload_n 3) 1 24 := ⟨by decide +kernel, rfl⟩
theorem d29_24 : Dc jdk_65_method_133_code 24 (.invokestatic 304) 3 27 := ⟨by decide +kernel, rfl⟩
theorem d29_27 : Dc jdk_65_method_133_code 27 (.invokestatic 150) 3 30 := ⟨by decide +kernel, rfl⟩
theorem d29_30 : Dc jdk_65_method_133_code 30 (.aload 4) 2 32 := ⟨by decide +kernel, rfl⟩
theorem d29_32 : Dc jdk_65_method_133_code 32 (.areturn) 1 33 := ⟨by decide +kernel, rfl⟩
theorem d30_0 : Dc jdk_65_method_131_code 0 (.iload_n 1) 1 1 := ⟨by decide +kernel, rfl⟩
theorem d30_1 : Dc jdk_65_method_131_code 1 (.iload_n 0) 1 2 := ⟨by decide +kernel, rfl⟩
theorem d30_2 : Db jdk_65_method_131_code 2 (.if_icmp .ge 35) 3 5 (35) 37 := ⟨by decide +kernel, rfl, by decide, by decide⟩
theorem d30_37 : Dc jdk_65_method_131_code 37 (.return_) 1 38 := ⟨by decide +kernel, rfl⟩
theorem d31_0 : Dc prog_5_method_1_code 0 (.aload_n 0) 1 1 := ⟨by decide +kernel, rfl⟩
theorem d31_1 : Dc prog_5_method_1_code 1 (.aload_n 3) 1 2 := ⟨by decide +kernel, rfl⟩
theorem d31_2 : Dc prog_5_method_1_code 2 (.invokespecial 1) 3 5 := ⟨by decide +kernel, rfl⟩
theorem d31_5 : Dc prog_5_method_1_code 5 (.aload_n 0) 1 6 := ⟨by decide +kernel, rfl⟩
theorem d31_6 : Dc prog_5_method_1_code 6 (.iload_n 1) 1 7 := ⟨by decide +kernel, rfl⟩
theorem d31_7 : Dc prog_5_method_1_code 7 (.putfield 7) 3 10 := ⟨by decide +kernel, rfl⟩
theorem d31_10 : Dc prog_5_method_1_code 10 (.aload_n 0) 1 11 := ⟨by decide +kernel, rfl⟩
theorem d31_11 : Dc prog_5_method_1_code 11 (.iload_n 2) 1 12 := ⟨by decide +kernel, rfl⟩
theorem d31_12 : Dc prog_5_method_1_code 12 (.putfield 13) 3 15 := ⟨by decide +kernel, rfl⟩
theorem d31_15 : Dc prog_5_method_1_code 15 (.return_) 1 16 := ⟨by decide +kernel, rfl⟩
theorem d32_0 : Dc jdk_59_method_2_code 0 (.aload_n 0) 1 1 := ⟨by decide +kernel, rfl⟩
theorem d32_1 : Dc jdk_59_method_2_code 1 (.aload_n 1) 1 2 := ⟨by decide +kernel, rfl⟩
theorem d32_2 : Dc jdk_59_method_2_code 2 (.invokespecial 7) 3 5 := ⟨by decide +kernel, rfl⟩
theorem d32_5 : Dc jdk_59_method_2_code 5 (.return_) 1 6 := ⟨by decide +kernel, rfl⟩
theorem d33_0 : Dc jdk_78_method_2_code 0 (.aload_n 0) 1 1 := ⟨by decide +kernel, rfl⟩
theorem d33_1 : Dc jdk_78_method_2_code 1 (.invokespecial 1) 3 4 := ⟨by decide +kernel, rfl⟩
theorem d33_4 : Dc jdk_78_method_2_code 4 (.aload_n 0) 1 5 := ⟨by decide +kernel, rfl⟩
theorem d33_5 : Dc jdk_78_method_2_code 5 (.aload_n 0) 1 6 := ⟨by decide +kernel, rfl⟩
theorem d33_6 : Dc jdk_78_method_2_code 6 (.putfield 7) 3 9 := ⟨by decide +kernel, rfl⟩
theorem d33_9 : Dc jdk_78_method_2_code 9 (.aload_n 0) 1 10 := ⟨by decide +kernel, rfl⟩
theorem d33_10 : Dc jdk_78_method_2_code 10 (.getstatic 13) 3 13 := ⟨by decide +kernel, rfl⟩
theorem d33_13 : Dc jdk_78_method_2_code 13 (.putfield 17) 3 16 := ⟨by decide +kernel, rfl⟩
theorem d33_16 : Dc jdk_78_method_2_code 16 (.aload_n 0) 1 17 := ⟨by decide +kernel, rfl⟩
theorem d33_17 : Dc jdk_78_method_2_code 17 (.getstatic 20) 3 20 := ⟨by decide +kernel, rfl⟩
theorem d33_20 : Dc jdk_78_method_2_code 20 (.putfield 24) 3 23 := ⟨by decide +kernel, rfl⟩
theorem d33_23 : Dc jdk_78_method_2_code 23 (.aload_n 0) 1 24 := ⟨by decide +kernel, rfl⟩
theorem d33_24 : Dc jdk_78_method_2_code 24 (.invokevirtual 27) 3 27 := ⟨by decide +kernel, rfl⟩
theorem d33_27 : Dc jdk_78_method_2_code 27 (.pop) 1 28 := ⟨by decide +kernel, rfl⟩
theorem d33_28 : Dc jdk_78_method_2_code 28 (.aload_n 0) 1 29 := ⟨by decide +kernel, rfl⟩
theorem d33_29 : Dc jdk_78_method_2_code 29 (.aload_n 1) 1 30 := ⟨by decide +kernel, rfl⟩
theorem d33_30 : Dc jdk_78_method_2_code 30 (.putfield 31) 3 33 := ⟨by decide +kernel, rfl⟩
theorem d33_33 : Dc jdk_78_method_2_code 33 (.return_) 1 34 := ⟨by decide +kernel, rfl⟩
theorem d35_0 : Dc prog_5_method_26_code 0 (.aload_n 0) 1 1 := ⟨by decide +kernel, rfl⟩
theorem d35_1 : Dc prog_5_method_26_code 1 (.getfield 7) 3 4 := ⟨by decide +kernel, rfl⟩
theorem d35_4 : Dc prog_5_method_26_code 4 (.ireturn) 1 5 := ⟨by decide +kernel, rfl⟩
theorem d36_0 : Dc prog_5_method_27_code 0 (.aload_n 0) 1 1 := ⟨by decide +kernel, rfl⟩
theorem d36_1 : Dc prog_5_method_27_code 1 (.getfield 13) 3 4 := ⟨by decide +kernel, rfl⟩
theorem d36_4 : Dc prog_5_method_27_code 4 (.ireturn) 1 5 := ⟨by decide +kernel, rfl⟩
theorem d37_0 : Dc jdk_42_method_3_code 0 (.aload_n 0) 1 1 := ⟨by decide +kernel, rfl⟩
theorem d37_1 : Dc jdk_42_method_3_code 1 (.aload_n 1) 1 2 := ⟨by decide +kernel, rfl⟩
theorem d37_2 : Dc jdk_42_method_3_code 2 (.iconst 0) 1 3 := ⟨by decide +kernel, rfl⟩
theorem d37_3 : Dc jdk_42_method_3_code 3 (.aload_n 1) 1 4 := ⟨by decide +kernel, rfl⟩
theorem d37_4 : Dc jdk_42_method_3_code 4 (.arraylength) 1 5 := ⟨by decide +kernel, rfl⟩
theorem d37_5 : Dc jdk_42_method_3_code 5 (.aconst_null) 1 6 := ⟨by decide +kernel, rfl⟩
theorem d37_6 : Dc jdk_42_method_3_code 6 (.invokespecial 27) 3 9 := ⟨by decide +kernel, rfl⟩
theorem d37_9 : Dc jdk_42_method_3_code 9 (.return_) 1 10 := ⟨by decide +kernel, rfl⟩
theorem d38_0 : Dc jdk_42_method_149_code 0 (.aload_n 0) 1 1 := ⟨by decide +kernel, rfl⟩
theorem d38_1 : Dc jdk_42_method_149_code 1 (.invokespecial 1) 3 4 := ⟨by decide +kernel, rfl⟩
theorem d38_4 : Dc jdk_42_method_149_code 4 (.iload_n 3) 1 5 := ⟨by decide +kernel, rfl⟩
theorem d38_5 : Db jdk_42_method_149_code 5 (.ifCond .ne 22) 3 8 (22) 27 := ⟨by decide +kernel, rfl, by decide, by decide⟩
theorem d38_27 : Dc jdk_42_method_149_code 27 (.getstatic 38) 3 30 := ⟨by decide +kernel, rfl⟩
theorem d38_30 : Db jdk_42_method_149_code 30 (.ifCond .eq 28) 3 33 (28) 58 := ⟨by decide +kernel, rfl, by decide, by decide⟩
theorem d38_33 : Dc jdk_42_method_149_code 33 (.aload_n 1) 1 34 := ⟨by decide +kernel, rfl⟩
theorem d38_34 : Dc jdk_42_method_149_code 34 (.iload_n 2) 1 35 := ⟨by decide +kernel, rfl⟩
theorem d38_35 : Dc jdk_42_method_149_code 35 (.iload_n 3) 1 36 := ⟨by decide +kernel, rfl⟩
theorem d38_36 : Dc jdk_42_method_149_code 36 (.invokestatic 177) 3 39 := ⟨by decide +kernel, rfl⟩
theorem d38_39 : Dc jdk_42_method_149_code 39 (.astore 5) 2 41 := ⟨by decide +kernel, rfl⟩
theorem d38_41 : Dc jdk_42_method_149_code 41 (.aload_n 0) 1 42 := ⟨by decide +kernel, rfl⟩
theorem d38_42 : Dc jdk_42_method_149_code 42 (.aload 5) 2 44 := ⟨by decide +kernel, rfl⟩
theorem d38_44 : Dc jdk_42_method_149_code 44 (.iload_n 3) 1 45 := ⟨by decide +kernel, rfl⟩
theorem d38_45 : Dc jdk_42_method_149_code 45 (.invokestatic 47) 3 48 := ⟨by decide +kernel, rfl⟩
theorem d38_48 : Dc jdk_42_method_149_code 48 (.putfield 15) 3 51 := ⟨by decide +kernel, rfl⟩
theorem d38_51 : Dc jdk_42_method_149_code 51 (.aload_n 0) 1 52 := ⟨by decide +kernel, rfl⟩
theorem d38_52 : Dc jdk_42_method_149_code 52 (.aload 5) 2 54 := ⟨by decide +kernel, rfl⟩
theorem d38_54 : Dc jdk_42_method_149_code 54 (.putfield 9) 3 57 := ⟨by decide +kernel, rfl⟩
theorem d38_57 : Dc jdk_42_method_149_code 57 (.return_) 1 58 := ⟨by decide +kernel, rfl⟩
theorem d39_0 : Dc jdk_52_method_16_code 0 (.iload_n 2) 1 1 := ⟨by decide +kernel, rfl⟩
theorem d39_1 : Dc jdk_52_method_16_code 1 (.newarray .byte) 2 3 := ⟨by decide +kernel, rfl⟩
theorem d39_3 : Dc jdk_52_method_16_code 3 (.astore_n 3) 1 4 := ⟨by decide +kernel, rfl⟩
theorem d39_4 : Dc jdk_52_method_16_code 4 (.aload_n 0) 1 5 := ⟨by decide +kernel, rfl⟩
theorem d39_5 : Dc jdk_52_method_16_code 5 (.iload_n 1) 1 6 := ⟨by decide +kernel, rfl⟩
theorem d39_6 : Dc jdk_52_method_16_code 6 (.aload_n 3) 1 7 := ⟨by decide +kernel, rfl⟩
theorem d39_7 : Dc jdk_52_method_16_code 7 (.iconst 0) 1 8 := ⟨by decide +kernel, rfl⟩
theorem d39_8 : Dc jdk_52_method_16_code 8 (.iload_n 2) 1 9 := ⟨by decide +kernel, rfl⟩
theorem d39_9 : Dc jdk_52_method_16_code 9 (.invokestatic 115) 3 12 := ⟨by decide +kernel, rfl⟩
theorem d39_12 : Dc jdk_52_method_16_code 12 (.istore 4) 2 14 := ⟨by decide +kernel, rfl⟩
theorem d39_14 : Dc jdk_52_method_16_code 14 (.iload 4) 2 16 := ⟨by decide +kernel, rfl⟩
theorem d39_16 : Dc jdk_52_method_16_code 16 (.iload_n 2) 1 17 := ⟨by decide +kernel, rfl⟩
theorem d39_17 : Db jdk_52_method_16_code 17 (.if_icmp .eq 40) 3 20 (40) 57 := ⟨by decide +kernel, rfl, by decide, by decide⟩
theorem d39_57 : Dc jdk_52_method_16_code 57 (.aload_n 3) 1 58 := ⟨by decide +kernel, rfl⟩
theorem d39_58 : Dc jdk_52_method_16_code 58 (.areturn) 1 59 := ⟨by decide +kernel, rfl⟩
theorem d40_0 : Dc jdk_52_method_21_code 0 (.iconst 0) 1 1 := ⟨by decide +kernel, rfl⟩
theorem d40_1 : Dc jdk_52_method_21_code 1 (.istore 5) 2 3 := ⟨by decide +kernel, rfl⟩
theorem d40_3 : Dc jdk_52_method_21_code 3 (.iload 5) 2 5 := ⟨by decide +kernel, rfl⟩
theorem d40_5 : Dc jdk_52_method_21_code 5 (.iload 4) 2 7 := ⟨by decide +kernel, rfl⟩
theorem d40_7 : Db jdk_52_method_21_code 7 (.if_icmp .ge 37) 3 10 (37) 44 := ⟨by decide +kernel, rfl, by decide, by decide⟩
theorem d40_10 : Dc jdk_52_method_21_code 10 (.aload_n 0) 1 11 := ⟨by decide +kernel, rfl⟩
theorem d40_11 : Dc jdk_52_method_21_code 11 (.iload_n 1) 1 12 := ⟨by decide +kernel, rfl⟩
theorem d40_12 : Dc jdk_52_method_21_code 12 (.caload) 1 13 := ⟨by decide +kernel, rfl⟩
theorem d40_13 : Dc jdk_52_method_21_code 13 (.istore 6) 2 15 := ⟨by decide +kernel, rfl⟩
theorem d40_15 : Dc jdk_52_method_21_code 15 (.iload 6) 2 17 := ⟨by decide +kernel, rfl⟩
theorem d40_17 : Dc jdk_52_method_21_code 17 (.sipush 255) 3 20 := ⟨by decide +kernel, rfl⟩
theorem d40_20 : Db jdk_52_method_21_code 20 (.if_icmp .le 6) 3 23 (6) 26 := ⟨by decide +kernel, rfl, by decide, by decide⟩
theorem d40_23 : Dc jdk_52_method_21_code 23 (.iload 5) 2 25 := ⟨by decide +kernel, rfl⟩
theorem d40_25 : Dc jdk_52_method_21_code 25 (.ireturn) 1 26 := ⟨by decide +kernel, rfl⟩
theorem d40_26 : Dc jdk_52_method_21_code 26 (.aload_n 2) 1 27 := ⟨by decide +kernel, rfl⟩
theorem d40_27 : Dc jdk_52_method_21_code 27 (.iload_n 3) 1 28 := ⟨by decide +kernel, rfl⟩
theorem d40_28 : Dc jdk_52_method_21_code 28 (.iload 6) 2 30 := ⟨by decide +kernel, rfl⟩
theorem d40_30 : Dc jdk_52_method_21_code 30 (.i2b) 1 31 := ⟨by decide +kernel, rfl⟩
theorem d40_31 : Dc jdk_52_method_21_code 31 (.bastore) 1 32 := ⟨by decide +kernel, rfl⟩
theorem d40_32 : Dc jdk_52_method_21_code 32 (.iinc 1 1) 3 35 := ⟨by decide +kernel, rfl⟩
theorem d40_35 : Dc jdk_52_method_21_code 35 (.iinc 3 1) 3 38 := ⟨by decide +kernel, rfl⟩
theorem d40_38 : Dc jdk_52_method_21_code 38 (.iinc 5 1) 3 41 := ⟨by decide +kernel, rfl⟩
theorem d40_41 : Db jdk_52_method_21_code 41 (.goto (-38)) 3 44 (-38) 3 := ⟨by decide +kernel, rfl, by decide, by decide⟩
theorem d40_44 : Dc jdk_52_method_21_code 44 (.iload 4) 2 46 := ⟨by decide +kernel, rfl⟩
theorem d40_46 : Dc jdk_52_method_21_code 46 (.ireturn) 1 47 := ⟨by decide +kernel, rfl⟩
theorem d41_0 : Dc jdk_52_method_15_code 0 (.iload_n 1) 1 1 := ⟨by decide +kernel, rfl⟩
theorem d41_1 : Dc jdk_52_method_15_code 1 (.aload_n 0) 1 2 := ⟨by decide +kernel, rfl⟩
theorem d41_2 : Dc jdk_52_method_15_code 2 (.arraylength) 1 3 := ⟨by decide +kernel, rfl⟩
theorem d41_3 : Dc jdk_52_method_15_code 3 (.isub) 1 4 := ⟨by decide +kernel, rfl⟩
theorem d41_4 : Dc jdk_52_method_15_code 4 (.bipush 31) 2 6 := ⟨by decide +kernel, rfl⟩
theorem d41_6 : Dc jdk_52_method_15_code 6 (.iushr) 1 7 := ⟨by decide +kernel, rfl⟩
theorem d41_7 : Dc jdk_52_method_15_code 7 (.i2b) 1 8 := ⟨by decide +kernel, rfl⟩
theorem d41_8 : Dc jdk_52_method_15_code 8 (.ireturn) 1 9 := ⟨by decide +kernel, rfl⟩
theorem d42_0 : Dc jdk_68_method_26_code 0 (.aload_n 0) 1 1 := ⟨by decide +kernel, rfl⟩
theorem d42_1 : Dc jdk_68_method_26_code 1 (.aload_n 0) 1 2 := ⟨by decide +kernel, rfl⟩
theorem d42_2 : Dc jdk_68_method_26_code 2 (.getfield 79) 3 5 := ⟨by decide +kernel, rfl⟩
theorem d42_5 : Dc jdk_68_method_26_code 5 (.iconst 4) 1 6 := ⟨by decide +kernel, rfl⟩
theorem d42_6 : Dc jdk_68_method_26_code 6 (.iadd) 1 7 := ⟨by decide +kernel, rfl⟩
theorem d42_7 : Dc jdk_68_method_26_code 7 (.invokevirtual 100) 3 10 := ⟨by decide +kernel, rfl⟩
theorem d42_10 : Dc jdk_68_method_26_code 10 (.aload_n 0) 1 11 := ⟨by decide +kernel, rfl⟩
theorem d42_11 : Dc jdk_68_method_26_code 11 (.getfield 79) 3 14 := ⟨by decide +kernel, rfl⟩
theorem d42_14 : Dc jdk_68_method_26_code 14 (.istore_n 1) 1 15 := ⟨by decide +kernel, rfl⟩
theorem d42_15 : Dc jdk_68_method_26_code 15 (.aload_n 0) 1 16 := ⟨by decide +kernel, rfl⟩
theorem d42_16 : Dc jdk_68_method_26_code 16 (.getfield 15) 3 19 := ⟨by decide +kernel, rfl⟩
theorem d42_19 : Dc jdk_68_method_26_code 19 (.astore_n 2) 1 20 := ⟨by decide +kernel, rfl⟩
theorem d42_20 : Dc jdk_68_method_26_code 20 (.aload_n 0) 1 21 := ⟨by decide +kernel, rfl⟩
theorem d42_21 : Dc jdk_68_method_26_code 21 (.invokevirtual 83) 3 24 := ⟨by decide +kernel, rfl⟩
theorem d42_24 : Db jdk_68_method_26_code 24 (.ifCond .eq 38) 3 27 (38) 62 := ⟨by decide +kernel, rfl, by decide, by decide⟩
theorem d42_27 : Dc jdk_68_method_26_code 27 (.aload_n 2) 1 28 := ⟨by decide +kernel, rfl⟩
theorem d42_28 : Dc jdk_68_method_26_code 28 (.iload_n 1) 1 29 := ⟨by decide +kernel, rfl⟩
theorem d42_29 : Dc jdk_68_method_26_code 29 (.iinc 1 1) 3 32 := ⟨by decide +kernel, rfl⟩
theorem d42_32 : Dc jdk_68_method_26_code 32 (.bipush 110) 2 34 := ⟨by decide +kernel, rfl⟩
theorem d42_34 : Dc jdk_68_method_26_code 34 (.bastore) 1 35 := ⟨by decide +kernel, rfl⟩
theorem d42_35 : Dc jdk_68_method_26_code 35 (.aload_n 2) 1 36 := ⟨by decide +kernel, rfl⟩
theorem d42_36 : Dc jdk_68_method_26_code 36 (.iload_n 1) 1 37 := ⟨by decide +kernel, rfl⟩
theorem d42_37 : Dc jdk_68_method_26_code 37 (.iinc 1 1) 3 40 := ⟨by decide +kernel, rfl⟩
theorem d42_40 : Dc jdk_68_method_26_code 40 (.bipush 117) 2 42 := ⟨by decide +kernel, rfl⟩
theorem d42_42 : Dc jdk_68_method_26_code 42 (.bastore) 1 43 := ⟨by decide +kernel, rfl⟩
theorem d42_43 : Dc jdk_68_method_26_code 43 (.aload_n 2) 1 44 := ⟨by decide +kernel, rfl⟩
theorem d42_44 : Dc jdk_68_method_26_code 44 (.iload_n 1) 1 45 := ⟨by decide +kernel, rfl⟩
theorem d42_45 : Dc jdk_68_method_26_code 45 (.iinc 1 1) 3 48 := ⟨by decide +kernel, rfl⟩
theorem d42_48 : Dc jdk_68_method_26_code 48 (.bipush 108) 2 50 := ⟨by decide +kernel, rfl⟩
theorem d42_50 : Dc jdk_68_method_26_code 50 (.bastore) 1 51 := ⟨by decide +kernel, rfl⟩
theorem d42_51 : Dc jdk_68_method_26_code 51 (.aload_n 2) 1 52 := ⟨by decide +kernel, rfl⟩
theorem d42_52 : Dc jdk_68_method_26_code 52 (.iload_n 1) 1 53 := ⟨by decide +kernel, rfl⟩
theorem d42_53 : Dc jdk_68_method_26_code 53 (.iinc 1 1) 3 56 := ⟨by decide +kernel, rfl⟩
theorem d42_56 : Dc jdk_68_method_26_code 56 (.bipush 108) 2 58 := ⟨by decide +kernel, rfl⟩
theorem d42_58 : Dc jdk_68_method_26_code 58 (.bastore) 1 59 := ⟨by decide +kernel, rfl⟩
theorem d42_59 : Db jdk_68_method_26_code 59 (.goto 17) 3 62 (17) 76 := ⟨by decide +kernel, rfl, by decide, by decide⟩
theorem d42_76 : Dc jdk_68_method_26_code 76 (.aload_n 0) 1 77 := ⟨by decide +kernel, rfl⟩
theorem d42_77 : Dc jdk_68_method_26_code 77 (.iload_n 1) 1 78 := ⟨by decide +kernel, rfl⟩
theorem d42_78 : Dc jdk_68_method_26_code 78 (.putfield 79) 3 81 := ⟨by decide +kernel, rfl⟩
theorem d42_81 : Dc jdk_68_method_26_code 81 (.aload_n 0) 1 82 := ⟨by decide +kernel, rfl⟩
theorem d42_82 : Dc jdk_68_method_26_code 82 (.areturn) 1 83 := ⟨by decide +kernel, rfl⟩
theorem d43_0 : Dc code 0 (.iconst 3) 1 1 := ⟨by decide +kernel, rfl⟩
theorem d43_1 : Dc code 1 (.newarray .char) 2 3 := ⟨by decide +kernel, rfl⟩
theorem d43_3 : Dc code 3 (.astore 4) 2 5 := ⟨by decide +kernel, rfl⟩
theorem d43_5 : Dc code 5 (.aload 4) 2 7 := ⟨by decide +kernel, rfl⟩
theorem d43_7 : Dc code 7 (.iconst 0) 1 8 := ⟨by decide +kernel, rfl⟩
theorem d43_8 : Dc code 8 (.iload_n 0) 1 9 := ⟨by decide +kernel, rfl⟩
theorem d43_9 : Dc code 9 (.sipush 255) 3 12 := ⟨by decide +kernel, rfl⟩
theorem d43_12 : Dc code 12 (.iand) 1 13 := ⟨by decide +kernel, rfl⟩
theorem d43_13 : Dc code 13 (.i2c) 1 14 := ⟨by decide +kernel, rfl⟩
theorem d43_14 : Dc code 14 (.castore) 1 15 := ⟨by decide +kernel, rfl⟩
theorem d43_15 : Dc code 15 (.aload 4) 2 17 := ⟨by decide +kernel, rfl⟩
theorem d43_17 : Dc code 17 (.iconst 1) 1 18 := ⟨by decide +kernel, rfl⟩
theorem d43_18 : Dc code 18 (.iload_n 1) 1 19 := ⟨by decide +kernel, rfl⟩
theorem d43_19 : Dc code 19 (.sipush 255) 3 22 := ⟨by decide +kernel, rfl⟩
theorem d43_22 : Dc code 22 (.iand) 1 23 := ⟨by decide +kernel, rfl⟩
theorem d43_23 : Dc code 23 (.i2c) 1 24 := ⟨by decide +kernel, rfl⟩
theorem d43_24 : Dc code 24 (.castore) 1 25 := ⟨by decide +kernel, rfl⟩
theorem d43_25 : Dc code 25 (.aload 4) 2 27 := ⟨by decide +kernel, rfl⟩
theorem d43_27 : Dc code 27 (.iconst 2) 1 28 := ⟨by decide +kernel, rfl⟩
theorem d43_28 : Dc code 28 (.iload_n 2) 1 29 := ⟨by decide +kernel, rfl⟩
theorem d43_29 : Dc code 29 (.sipush 255) 3 32 := ⟨by decide +kernel, rfl⟩
theorem d43_32 : Dc code 32 (.iand) 1 33 := ⟨by decide +kernel, rfl⟩
theorem d43_33 : Dc code 33 (.i2c) 1 34 := ⟨by decide +kernel, rfl⟩
theorem d43_34 : Dc code 34 (.castore) 1 35 := ⟨by decide +kernel, rfl⟩
theorem d43_35 : Dc code 35 (.iload_n 3) 1 36 := ⟨by decide +kernel, rfl⟩
theorem d43_36 : Dc code 36 (.iconst 3) 1 37 := ⟨by decide +kernel, rfl⟩
theorem d43_37 : Dc code 37 (.iand) 1 38 := ⟨by decide +kernel, rfl⟩
theorem d43_38 : Dc code 38 (.istore 6) 2 40 := ⟨by decide +kernel, rfl⟩
theorem d43_40 : Dc code 40 (.iload 6) 2 42 := ⟨by decide +kernel, rfl⟩
theorem d43_42 : Db code 42 (.ifCond .ne 17) 3 45 (17) 59 := ⟨by decide +kernel, rfl, by decide, by decide⟩
theorem d43_45 : Dc code 45 (.new 7) 3 48 := ⟨by decide +kernel, rfl⟩
theorem d43_48 : Dc code 48 (.dup) 1 49 := ⟨by decide +kernel, rfl⟩
theorem d43_49 : Dc code 49 (.aload 4) 2 51 := ⟨by decide +kernel, rfl⟩
theorem d43_51 : Dc code 51 (.invokespecial 9) 3 54 := ⟨by decide +kernel, rfl⟩
theorem d43_54 : Dc code 54 (.astore 5) 2 56 := ⟨by decide +kernel, rfl⟩
theorem d43_56 : Db code 56 (.goto 37) 3 59 (37) 93 := ⟨by decide +kernel, rfl, by decide, by decide⟩
theorem d43_59 : Dc code 59 (.iload 6) 2 61 := ⟨by decide +kernel, rfl⟩
theorem d43_61 : Dc code 61 (.iconst 1) 1 62 := ⟨by decide +kernel, rfl⟩
theorem d43_62 : Db code 62 (.if_icmp .ne 15) 3 65 (15) 77 := ⟨by decide +kernel, rfl, by decide, by decide⟩
theorem d43_65 : Dc code 65 (.aload 4) 2 67 := ⟨by decide +kernel, rfl⟩
theorem d43_67 : Dc code 67 (.iconst 0) 1 68 := ⟨by decide +kernel, rfl⟩
theorem d43_68 : Dc code 68 (.caload) 1 69 := ⟨by decide +kernel, rfl⟩
theorem d43_69 : Dc code 69 (.invokestatic 12) 3 72 := ⟨by decide +kernel, rfl⟩
theorem d43_72 : Dc code 72 (.astore 5) 2 74 := ⟨by decide +kernel, rfl⟩
theorem d43_74 : Db code 74 (.goto 19) 3 77 (19) 93 := ⟨by decide +kernel, rfl, by decide, by decide⟩
theorem d43_77 : Dc code 77 (.iload 6) 2 79 := ⟨by decide +kernel, rfl⟩
theorem d43_79 : Dc code 79 (.iconst 2) 1 80 := ⟨by decide +kernel, rfl⟩
theorem d43_80 : Db code 80 (.if_icmp .ne 10) 3 83 (10) 90 := ⟨by decide +kernel, rfl, by decide, by decide⟩
theorem d43_83 : Dc code 83 (.ldc 16) 2 85 := ⟨by decide +kernel, rfl⟩
theorem d43_85 : Dc code 85 (.astore 5) 2 87 := ⟨by decide +kernel, rfl⟩
theorem d43_87 : Db code 87 (.goto 6) 3 90 (6) 93 := ⟨by decide +kernel, rfl, by decide, by decide⟩
theorem d43_90 : Dc code 90 (.aconst_null) 1 91 := ⟨by decide +kernel, rfl⟩
theorem d43_91 : Dc code 91 (.astore 5) 2 93 := ⟨by decide +kernel, rfl⟩
theorem d43_93 : Dc code 93 (.aload 5) 2 95 := ⟨by decide +kernel, rfl⟩
theorem d43_95 : Dc code 95 (.invokestatic 18) 3 98 := ⟨by decide +kernel, rfl⟩
theorem d43_98 : Dc code 98 (.astore 7) 2 100 := ⟨by decide +kernel, rfl⟩
theorem d43_100 : Dc code 100 (.aload 7) 2 102 := ⟨by decide +kernel, rfl⟩
theorem d43_102 : Db code 102 (.ifnonnull 5) 3 105 (5) 107 := ⟨by decide +kernel, rfl, by decide, by decide⟩
theorem d43_107 : Dc code 107 (.aload 7) 2 109 := ⟨by decide +kernel, rfl⟩
theorem d43_109 : Dc code 109 (.invokevirtual 24) 3 112 := ⟨by decide +kernel, rfl⟩
theorem d43_112 : Dc code 112 (.sipush 400) 3 115 := ⟨by decide +kernel, rfl⟩
theorem d43_115 : Db code 115 (.if_icmp .ne 27) 3 118 (27) 142 := ⟨by decide +kernel, rfl, by decide, by decide⟩
theorem d43_118 : Dc code 118 (.aload 7) 2 120 := ⟨by decide +kernel, rfl⟩
theorem d43_120 : Dc code 120 (.invokevirtual 28) 3 123 := ⟨by decide +kernel, rfl⟩
theorem d43_123 : Dc code 123 (.bipush (-51)) 2 125 := ⟨by decide +kernel, rfl⟩
theorem d43_125 : Db code 125 (.if_icmp .ne 17) 3 128 (17) 142 := ⟨by decide +kernel, rfl, by decide, by decide⟩
theorem d43_128 : Dc code 128 (.aload 7) 2 130 := ⟨by decide +kernel, rfl⟩
theorem d43_130 : Dc code 130 (.invokevirtual 28) 3 133 := ⟨by decide +kernel, rfl⟩
theorem d43_133 : Dc code 133 (.bipush (-51)) 2 135 := ⟨by decide +kernel, rfl⟩
theorem d43_135 : Db code 135 (.if_icmp .ne 7) 3 138 (7) 142 := ⟨by decide +kernel, rfl, by decide, by decide⟩
theorem d43_138 : Dc code 138 (.iconst 1) 1 139 := ⟨by decide +kernel, rfl⟩
theorem d43_139 : Db code 139 (.goto 4) 3 142 (4) 143 := ⟨by decide +kernel, rfl, by decide, by decide⟩
theorem d43_143 : Dc code 143 (.ireturn) 1 144 := ⟨by decide +kernel, rfl⟩
theorem pd__28C_29Ljava_2flang_2fString_3b : parseMethodDescriptor "(C)Ljava/lang/String;" = some ⟨[.char], some (.object "java/lang/String")⟩ := by decide +kernel
theorem pd__28C_29Z : parseMethodDescriptor "(C)Z" = some ⟨[.char], some .boolean⟩ := by decide +kernel
theorem pd__28C_29_5bB : parseMethodDescriptor "(C)[B" = some ⟨[.char], some (.array .byte)⟩ := by decide +kernel
theorem pd__28III_29I : parseMethodDescriptor "(III)I" = some ⟨[.int, .int, .int], some .int⟩ := by decide +kernel
theorem pd__28IILjava_2flang_2fString_3b_29V : parseMethodDescriptor "(IILjava/lang/String;)V" = some ⟨[.int, .int, (.object "java/lang/String")], none⟩ := by decide +kernel
theorem pd__28II_29I : parseMethodDescriptor "(II)I" = some ⟨[.int, .int], some .int⟩ := by decide +kernel
theorem pd__28II_29V : parseMethodDescriptor "(II)V" = some ⟨[.int, .int], none⟩ := by decide +kernel
theorem pd__28ILjava_2flang_2fString_3b_29V : parseMethodDescriptor "(ILjava/lang/String;)V" = some ⟨[.int, (.object "java/lang/String")], none⟩ := by decide +kernel
theorem pd__28I_29I : parseMethodDescriptor "(I)I" = some ⟨[.int], some .int⟩ := by decide +kernel
theorem pd__28I_29V : parseMethodDescriptor "(I)V" = some ⟨[.int], none⟩ := by decide +kernel
theorem pd__28Ljava_2flang_2fAbstractStringBuilder_3bLjava_2flang_2fVoid_3b_29V : parseMethodDescriptor "(Ljava/lang/AbstractStringBuilder;Ljava/lang/Void;)V" = some ⟨[(.object "java/lang/AbstractStringBuilder"), (.object "java/lang/Void")], none⟩ := by decide +kernel
theorem pd__28Ljava_2flang_2fStringBuilder_3b_29V : parseMethodDescriptor "(Ljava/lang/StringBuilder;)V" = some ⟨[(.object "java/lang/StringBuilder")], none⟩ := by decide +kernel
theorem pd__28Ljava_2flang_2fString_3b_29Lcom_2fexample_2floadbay_2floadbay_2fRefusal_3b : parseMethodDescriptor "(Ljava/lang/String;)Lcom/example/loadbay/loadbay/Refusal;" = some ⟨[(.object "java/lang/String")], some (.object "com/example/loadbay/loadbay/Refusal")⟩ := by decide +kernel
theorem pd__28Ljava_2flang_2fString_3b_29Ljava_2flang_2fAbstractStringBuilder_3b : parseMethodDescriptor "(Ljava/lang/String;)Ljava/lang/AbstractStringBuilder;" = some ⟨[(.object "java/lang/String")], some (.object "java/lang/AbstractStringBuilder")⟩ := by decide +kernel
theorem pd__28Ljava_2flang_2fString_3b_29Ljava_2flang_2fStringBuilder_3b : parseMethodDescriptor "(Ljava/lang/String;)Ljava/lang/StringBuilder;" = some ⟨[(.object "java/lang/String")], some (.object "java/lang/StringBuilder")⟩ := by decide +kernel
theorem pd__28Ljava_2flang_2fString_3b_29V : parseMethodDescriptor "(Ljava/lang/String;)V" = some ⟨[(.object "java/lang/String")], none⟩ := by decide +kernel
theorem pd__28_29B : parseMethodDescriptor "()B" = some ⟨[], some .byte⟩ := by decide +kernel
theorem pd__28_29I : parseMethodDescriptor "()I" = some ⟨[], some .int⟩ := by decide +kernel
theorem pd__28_29Ljava_2flang_2fAbstractStringBuilder_3b : parseMethodDescriptor "()Ljava/lang/AbstractStringBuilder;" = some ⟨[], some (.object "java/lang/AbstractStringBuilder")⟩ := by decide +kernel
theorem pd__28_29Ljava_2flang_2fString_3b : parseMethodDescriptor "()Ljava/lang/String;" = some ⟨[], some (.object "java/lang/String")⟩ := by decide +kernel
theorem pd__28_29V : parseMethodDescriptor "()V" = some ⟨[], none⟩ := by decide +kernel
theorem pd__28_29Z : parseMethodDescriptor "()Z" = some ⟨[], some .boolean⟩ := by decide +kernel
theorem pd__28_29_5bB : parseMethodDescriptor "()[B" = some ⟨[], some (.array .byte)⟩ := by decide +kernel
theorem pd__28_5bBB_29V : parseMethodDescriptor "([BB)V" = some ⟨[(.array .byte), .byte], none⟩ := by decide +kernel
theorem pd__28_5bBIB_29V : parseMethodDescriptor "([BIB)V" = some ⟨[(.array .byte), .int, .byte], none⟩ := by decide +kernel
theorem pd__28_5bBII_29_5bB : parseMethodDescriptor "([BII)[B" = some ⟨[(.array .byte), .int, .int], some (.array .byte)⟩ := by decide +kernel
theorem pd__28_5bBI_29B : parseMethodDescriptor "([BI)B" = some ⟨[(.array .byte), .int], some .byte⟩ := by decide +kernel
theorem pd__28_5bBI_29_5bB : parseMethodDescriptor "([BI)[B" = some ⟨[(.array .byte), .int], some (.array .byte)⟩ := by decide +kernel
theorem pd__28_5bCIILjava_2flang_2fVoid_3b_29V : parseMethodDescriptor "([CIILjava/lang/Void;)V" = some ⟨[(.array .char), .int, .int, (.object "java/lang/Void")], none⟩ := by decide +kernel
theorem pd__28_5bCII_29_5bB : parseMethodDescriptor "([CII)[B" = some ⟨[(.array .char), .int, .int], some (.array .byte)⟩ := by decide +kernel
theorem pd__28_5bCI_5bBII_29I : parseMethodDescriptor "([CI[BII)I" = some ⟨[(.array .char), .int, (.array .byte), .int, .int], some .int⟩ := by decide +kernel
theorem pd__28_5bC_29V : parseMethodDescriptor "([C)V" = some ⟨[(.array .char)], none⟩ := by decide +kernel
set_option maxRecDepth 65536 in
set_option maxHeartbeats 4000000 in
theorem k_compress5 {Z : State} {a0 : Array Value} (hw : ∀ d ∈ tables_1, d.before a0 Z = true) (hs : Stt Z) {n0 : Nat} {h0 : Heap} {a b : Addr} {cs : List Int32} (hcs : ∀ c ∈ cs, isCh c) (hl : cs.length ≤ 4096) (A : Ary Z h0 a .char (chs cs)) (B : Ary Z h0 b .byte (List.replicate cs.length (.int 0))) (O : Old Z n0 h0) :
    Con WD Z EL0 n0 (⟨"java/lang/StringUTF16", "compress", "([CI[BII)I"⟩ : MethodName) jdk_52_method_21_code 7 (some .int) (Rm 0 0 0 0) [(.ref a), (.int (0 : Int32)), (.ref b), (.int (0 : Int32)), (.int (natI cs.length))] h0 [b] (fun v h gs => v = some (.int (natI (pfx cs))) ∧ gs = [] ∧ Ary Z h b .byte (lat (cs.take (pfx cs)) ++ List.replicate (cs.length - pfx cs) (.int 0))) := by
  refine Con.of (a0 := a0) (by first | (exact plainFor_of_name (by first | (simp [plainName, overriddenIn]; done) | decide +kernel)) | decide +kernel) (hEL hw) hWE O (L0 := #[.val (.ref a), .val (.int (0 : Int32)), .val (.ref b), .val (.int (0 : Int32)), .val (.int (natI cs.length)), .unset, .unset]) (fun m => by first | rfl | (simp [entryFrame, mkF, argsToLocals, Value.category]; done)) ?_
  intro K C hh
  have loop : ∀ (m i : Nat) (h : Heap) (s6 : Slot), i + m = cs.length → (∀ c ∈ cs.take i, c.toInt < 256) → (s6 = .unset ∨ ∃ w, s6 = .val w ∧ w.category = 1) → Ary Z h a .char (chs cs) → Ary Z h b .byte (lat (cs.take i) ++ List.replicate m (.int 0)) → Go WD K Z EL0 n0 [b] (fun v h gs => v = some (.int (natI (pfx cs))) ∧ gs = [] ∧ Ary Z h b .byte (lat (cs.take (pfx cs)) ++ List.replicate (cs.length - pfx cs) (.int 0))) 3 #[.val (.ref a), .val (.int (natI i)), .val (.ref b), .val (.int (natI i)), .val (.int (natI cs.length)), .val (.int (natI i)), s6] [] h [b] 0 0 := by
    intro m
    induction m with
    | zero =>
      intro i h s6 hm hp hs6 A B
      have e1 := natI_toInt (i := i) (by omega)
      have e2 := natI_toInt (i := cs.length) (by omega)
      refine Own.iload C d40_3 rfl ?_
      refine Own.iload C d40_5 rfl ?_
      refine icmp_ge C d40_7 (fun q1 => ?_) (fun q1 => ?_)
      · refine Own.iload C d40_44 rfl ?_
        have hi : i = cs.length := by omega
        subst hi
        rw [List.take_length] at hp B
        have hq := pfx_all hp
        exact retI_ C (gs := []) d40_46 (dle rfl) (dle rfl) (fun _ q => nomatch q) ⟨by rw [hq], rfl, by rw [hq, List.take_length, Nat.sub_self]; exact B⟩
      · rw [lt32] at q1
        omega
    | succ m ih =>
      intro i h s6 hm hp hs6 A B
      have e1 := natI_toInt (i := i) (by omega)
      have e2 := natI_toInt (i := cs.length) (by omega)
      refine Own.iload C d40_3 rfl ?_
      refine Own.iload C d40_5 rfl ?_
      refine icmp_ge C d40_7 (fun q2 => ?_) (fun q2 => ?_)
      · rw [lt32] at q2
        omega
      · obtain ⟨c, hc⟩ : ∃ c, cs[i]? = some c := ⟨_, List.getElem?_eq_getElem (by omega)⟩
        have hch := hcs c (List.mem_of_getElem? hc)
        refine Own.aloadN C d40_10 rfl rfl ?_
        refine Own.iloadN C d40_11 rfl ?_
        refine caload_ C (v := .int c) A i e1 (chs_at hc) d40_12 ?_
        refine Own.istore (L' := #[.val (.ref a), .val (.int (natI i)), .val (.ref b), .val (.int (natI i)), .val (.int (natI cs.length)), .val (.int (natI i)), .val (.int c)]) C d40_13 (st1 rfl hs6 rfl rfl) ?_
        refine Own.iload C d40_15 rfl ?_
        refine Own.sipush (v := 255) C d40_17 rfl ?_
        refine icmp_le C d40_20 (fun q3 => ?_) (fun q3 => ?_)
        · have hlt : c.toInt < 256 := by have e : (255 : Int32).toInt = 255 := rfl; rw [lt32] at q3; omega
          refine Own.aloadN C d40_26 rfl rfl ?_
          refine Own.iloadN C d40_27 rfl ?_
          refine Own.iload C d40_28 rfl ?_
          refine Own.i2b C d40_30 ?_
          refine bastore_ C B i e1 (by simp [lat_len]; omega) (by simp) d40_31 (fun hp4 W4 A4 => ?_)
          rw [lat_set hm hc] at A4
          have e3 := natI_succ (i := i) (by omega)
          refine Own.iinc (L' := #[.val (.ref a), .val (.int (natI (i + 1))), .val (.ref b), .val (.int (natI i)), .val (.int (natI cs.length)), .val (.int (natI i)), .val (.int c)]) (y := (natI (i + 1))) C d40_32 rfl e3 rfl ?_
          refine Own.iinc (L' := #[.val (.ref a), .val (.int (natI (i + 1))), .val (.ref b), .val (.int (natI (i + 1))), .val (.int (natI cs.length)), .val (.int (natI i)), .val (.int c)]) (y := (natI (i + 1))) C d40_35 rfl e3 rfl ?_
          refine Own.iinc (L' := #[.val (.ref a), .val (.int (natI (i + 1))), .val (.ref b), .val (.int (natI (i + 1))), .val (.int (natI cs.length)), .val (.int (natI (i + 1))), .val (.int c)]) (y := (natI (i + 1))) C d40_38 rfl e3 rfl ?_
          refine Own.goto_ C d40_41 ?_
          exact ih (i + 1) hp4 _ (by omega) (take_lt hp hc hlt) (Or.inr ⟨_, rfl, rfl⟩) (A.other W4 (A.ne B (by decide))) A4
        · have hge : 256 ≤ c.toInt := by have e : (255 : Int32).toInt = 255 := rfl; rw [lt32] at q3; omega
          refine Own.iload C d40_23 rfl ?_
          have hq := pfx_at hp hc hge
          exact retI_ C (gs := []) d40_25 (dle rfl) (dle rfl) (fun _ q => nomatch q) ⟨by rw [hq], rfl, by rw [hq, show cs.length - i = m + 1 by omega]; exact B⟩
  refine Own.iconst (v := 0) C d40_0 rfl ?_
  refine Own.istore (L' := #[.val (.ref a), .val (.int (0 : Int32)), .val (.ref b), .val (.int (0 : Int32)), .val (.int (natI cs.length)), .val (.int (0 : Int32)), .unset]) C d40_1 rfl ?_
  exact loop cs.length 0 h0 .unset (by omega) (by simp) (Or.inl rfl) A (by simpa [lat] using B)
set_option maxRecDepth 65536 in
set_option maxHeartbeats 4000000 in
theorem k_compress3 {Z : State} {a0 : Array Value} (hw : ∀ d ∈ tables_1, d.before a0 Z = true) (hs : Stt Z) {n0 : Nat} {h0 : Heap} {N : Nat} {a : Addr} {cs : List Int32} (hcs : ∀ c ∈ cs, isCh c) (hl : cs.length ≤ 4096) (hN : cs.length ≤ N ∧ N ≤ 4096) (A : Ary Z h0 a .char (chs cs)) (hlat : ∀ c ∈ cs, c.toInt < 256) (O : Old Z n0 h0) :
    Con WD Z EL0 n0 (⟨"java/lang/StringUTF16", "compress", "([CII)[B"⟩ : MethodName) jdk_52_method_16_code 6 (some (.array .byte)) (Rm 1 1 (0 + 1 * N) 18) [(.ref a), (.int (0 : Int32)), (.int (natI cs.length))] h0 [] (fun v h gs => gs = [] ∧ ∃ (b : Addr) (z : Int32) (vs : List Value), v = some (.ref b) ∧ h0.size ≤ b ∧ Ary Z h b .byte vs ∧ Byt cs z vs) := by
  refine Con.of (a0 := a0) (by first | (exact plainFor_of_name (by first | (simp [plainName, overriddenIn]; done) | decide +kernel)) | decide +kernel) (hEL hw) hWE O (L0 := #[.val (.ref a), .val (.int (0 : Int32)), .val (.int (natI cs.length)), .unset, .unset, .unset]) (fun m => by first | rfl | (simp [entryFrame, mkF, argsToLocals, Value.category]; done)) ?_
  intro K C hh
  have e2 := natI_toInt (i := cs.length) (by omega)
  have e3 : (natI cs.length).toNatClampNeg = cs.length := natI_clamp (by omega)
  refine Own.iloadN C d39_0 rfl ?_
  refine newarr C (hw _ (List.mem_of_getElem? (i := 15) rfl)) (by rw [lt32, e2]; exact Int.not_lt.mpr (Int.natCast_nonneg _)) N (by omega) (by omega) (dle rfl) (by omega) d39_1 (fun hp1 K1 lt1 le1 A1 => ?_)
  obtain ⟨b, g1⟩ : ∃ z, z = h0.size := ⟨_, rfl⟩
  rw [← g1] at A1 lt1 le1 ⊢
  rw [e3] at A1
  have A' := A.keep K1 nin0
  refine Own.astoreN (L' := #[.val (.ref a), .val (.int (0 : Int32)), .val (.int (natI cs.length)), .val (.ref b), .unset, .unset]) C d39_3 rfl rfl ?_
  refine Own.aloadN C d39_4 rfl rfl ?_
  refine Own.iloadN C d39_5 rfl ?_
  refine Own.aloadN C d39_6 rfl rfl ?_
  refine Own.iconst (v := 0) C d39_7 rfl ?_
  refine Own.iloadN C d39_8 rfl ?_
  refine callS_ C (as := [(.ref a), (.int (0 : Int32)), (.ref b), (.int (0 : Int32)), (.int (natI cs.length))]) (st := []) (hw _ (List.mem_of_getElem? (i := 249) rfl)) (hw _ (List.mem_of_getElem? (i := 250) rfl)) (hw _ (List.mem_of_getElem? (i := 247) rfl)) (hw _ (List.mem_of_getElem? (i := 251) rfl)) ⟨by decide, by decide⟩ pd__28_5bCI_5bBII_29I rfl (fun O => k_compress5 hw hs hcs hl A' A1 O) (by simp) rfl (dle rfl) (dle rfl) (dle rfl) (by omega) d39_9 rfl (fun v2 hp2 gs2 K2 Q2 => ?_)
  obtain ⟨rfl, rfl, B2⟩ := Q2
  show Go _ K Z _ n0 _ _ 12 #[.val (.ref a), .val (.int (0 : Int32)), .val (.int (natI cs.length)), .val (.ref b), .unset, .unset] [(.int (natI (pfx cs)))] hp2 _ _ _
  refine Own.istore (L' := #[.val (.ref a), .val (.int (0 : Int32)), .val (.int (natI cs.length)), .val (.ref b), .val (.int (natI (pfx cs))), .unset]) C d39_12 rfl ?_
  refine Own.iload C d39_14 rfl ?_
  refine Own.iloadN C d39_16 rfl ?_
  refine icmp_eq C d39_17 (fun q3 => ?_) (fun q3 => ?_)
  · have hp : pfx cs = cs.length := by have e4 := natI_toInt (i := pfx cs) (by have := pfx_le cs; omega); have e5 := congrArg Int32.toInt q3; omega
    rw [hp, List.take_length, Nat.sub_self] at B2
    refine Own.aloadN C d39_57 rfl rfl ?_
    exact retA C (gs := []) rfl rfl d39_58 (dle rfl) (by omega) (fun _ q => nomatch q) ⟨rfl, b, 0, lat cs, rfl, by omega, by simpa using B2, Or.inl ⟨pfx_full hp, rfl, rfl⟩⟩
  · exact absurd (by rw [pfx_all hlat]) q3
set_option maxRecDepth 65536 in
set_option maxHeartbeats 4000000 in
theorem k_coder {Z : State} {a0 : Array Value} (hw : ∀ d ∈ tables_1, d.before a0 Z = true) (hs : Stt Z) {n0 : Nat} {h0 : Heap} {b : Addr} {cs : List Int32} {z : Int32} {vs : List Value} (h1 : 1 ≤ cs.length) (hl : cs.length ≤ 4096) (A : Ary Z h0 b .byte vs) (B : Byt cs z vs) (O : Old Z n0 h0) :
    Con WD Z EL0 n0 (⟨"java/lang/StringUTF16", "coderFromArrayLen", "([BI)B"⟩ : MethodName) jdk_52_method_15_code 2 (some .byte) (Rm 0 0 0 0) [(.ref b), (.int (natI cs.length))] h0 [] (fun v h gs => v = some (.int z) ∧ gs = []) := by
  refine Con.of (a0 := a0) (by first | (exact plainFor_of_name (by first | (simp [plainName, overriddenIn]; done) | decide +kernel)) | decide +kernel) (hEL hw) hWE O (L0 := #[.val (.ref b), .val (.int (natI cs.length))]) (fun m => by first | rfl | (simp [entryFrame, mkF, argsToLocals, Value.category]; done)) ?_
  intro K C hh
  obtain ⟨y, hy⟩ : ∃ y : Int32, y.toInt = vs.length := ⟨natI vs.length, natI_toInt (Byt.len_lt B hl)⟩
  refine Own.iloadN C d41_0 rfl ?_
  refine Own.aloadN C d41_1 rfl rfl ?_
  refine arrlen C A (z := y) hy d41_2 ?_
  refine Own.isub C d41_3 ?_
  refine Own.bipush (v := 31) C d41_4 rfl ?_
  refine Own.iushr C d41_6 ?_
  refine Own.i2b C d41_7 ?_
  exact retB C (gs := []) d41_8 (dle rfl) (dle rfl) (fun _ q => nomatch q) ⟨by rw [Byt.coder B h1 hl hy], rfl⟩
set_option maxRecDepth 65536 in
set_option maxHeartbeats 4000000 in
theorem k_init4 {Z : State} {a0 : Array Value} (hw : ∀ d ∈ tables_1, d.before a0 Z = true) (hs : Stt Z) {n0 : Nat} {h0 : Heap} {N : Nat} {a b0 : Addr} {cs : List Int32} {u1 u2 : Value} (hcs : ∀ c ∈ cs, isCh c) (hl : cs.length ≤ 4096) (hN : cs.length ≤ N ∧ N ≤ 4096) (hlat : ∀ c ∈ cs, c.toInt < 256) (h1 : 1 ≤ cs.length) (A : Ary Z h0 b0 .char (chs cs)) (E : Exa Z h0 a "java/lang/String") (Fv : Fld Z h0 a "java/lang/String" "value" "[B" u1) (Fc : Fld Z h0 a "java/lang/String" "coder" "B" u2) (O : Old Z n0 h0) :
    Con WD Z EL0 n0 (⟨"java/lang/String", "<init>", "([CIILjava/lang/Void;)V"⟩ : MethodName) jdk_42_method_149_code 6 none (Rm 2 1 (0 + 1 * N) 35) [(.ref a), (.ref b0), (.int (0 : Int32)), (.int (natI cs.length)), .null] h0 [a] (fun v h gs => v = none ∧ gs = [] ∧ Str Z h a cs) := by
  refine Con.of (a0 := a0) (by first | (exact plainFor_of_name (by first | (simp [plainName, overriddenIn]; done) | decide +kernel)) | decide +kernel) (hEL hw) hWE O (L0 := #[.val (.ref a), .val (.ref b0), .val (.int (0 : Int32)), .val (.int (natI cs.length)), .val .null, .unset]) (fun m => by first | rfl | (simp [entryFrame, mkF, argsToLocals, Value.category]; done)) ?_
  intro K C hh
  have e2 := natI_toInt (i := cs.length) (by omega)
  obtain ⟨cv, hcv, Sc⟩ := st_c hs
  refine Own.aloadN C d38_0 rfl rfl ?_
  refine initO_ C (hw _ (List.mem_of_getElem? (i := 20) rfl)) (hw _ (List.mem_of_getElem? (i := 21) rfl)) (hw _ (List.mem_of_getElem? (i := 22) rfl)) rfl (dle rfl) (dle rfl) d38_1 ?_
  refine Own.iloadN C d38_4 rfl ?_
  refine if_ne C d38_5 (fun q1 => ?_) (fun q1 => ?_)
  · have h1 : 1 ≤ cs.length := by rcases Nat.eq_zero_or_pos cs.length with z | z; exact absurd (by rw [z]; rfl) q1; exact z
    refine getS_ C (hw _ (List.mem_of_getElem? (i := 5) rfl)) Sc d38_27 ?_
    refine if_eq C d38_30 (fun q2 => ?_) (fun q2 => ?_)
    · exact absurd q2 hcv
    · refine Own.aloadN C d38_33 rfl rfl ?_
      refine Own.iloadN C d38_34 rfl ?_
      refine Own.iloadN C d38_35 rfl ?_
      refine callS_ C (as := [(.ref b0), (.int (0 : Int32)), (.int (natI cs.length))]) (st := []) (hw _ (List.mem_of_getElem? (i := 245) rfl)) (hw _ (List.mem_of_getElem? (i := 246) rfl)) (hw _ (List.mem_of_getElem? (i := 247) rfl)) (hw _ (List.mem_of_getElem? (i := 248) rfl)) ⟨by decide, by decide⟩ pd__28_5bCII_29_5bB rfl (fun O => k_compress3 (N := N) hw hs hcs hl hN A hlat O) (fun _ q => nomatch q) rfl (dle rfl) (dle rfl) (dle rfl) (by omega) d38_36 rfl (fun v3 hp3 gs3 K3 Q3 => ?_)
      obtain ⟨rfl, b, z, vs, rfl, hb, B, hB⟩ := Q3
      show Go _ K Z _ n0 _ _ 39 #[.val (.ref a), .val (.ref b0), .val (.int (0 : Int32)), .val (.int (natI cs.length)), .val .null, .unset] [(.ref b)] hp3 _ _ _
      refine Own.astore (L' := #[.val (.ref a), .val (.ref b0), .val (.int (0 : Int32)), .val (.int (natI cs.length)), .val .null, .val (.ref b)]) C d38_39 rfl rfl ?_
      refine Own.aloadN C d38_41 rfl rfl ?_
      refine Own.aload C d38_42 rfl rfl ?_
      refine Own.iloadN C d38_44 rfl ?_
      refine callS_ C (as := [(.ref b), (.int (natI cs.length))]) (st := [(.ref a)]) (hw _ (List.mem_of_getElem? (i := 252) rfl)) (hw _ (List.mem_of_getElem? (i := 253) rfl)) (hw _ (List.mem_of_getElem? (i := 247) rfl)) (hw _ (List.mem_of_getElem? (i := 254) rfl)) ⟨by decide, by decide⟩ pd__28_5bBI_29B rfl (fun O => k_coder hw hs h1 hl B hB O) (fun _ q => nomatch q) rfl (dle rfl) (dle rfl) (dle rfl) (by omega) d38_45 rfl (fun v4 hp4 gs4 K4 Q4 => ?_)
      obtain ⟨rfl, rfl⟩ := Q4
      show Go _ K Z _ n0 _ _ 48 #[.val (.ref a), .val (.ref b0), .val (.int (0 : Int32)), .val (.int (natI cs.length)), .val .null, .val (.ref b)] [(.int z), (.ref a)] hp4 _ _ _
      have K1 := K3.trans K4 (fun _ q => nomatch q)
      have E1 := E.keep K1
      have C1 := Fc.keep K1 nin0
      have V1 := Fv.keep K1 nin0
      refine putF_ C (v' := .int z) (ty := .byte) (hw _ (List.mem_of_getElem? (i := 25) rfl)) C1 E1 (Or.inr ⟨(hw _ (List.mem_of_getElem? (i := 26) rfl)), rfl, rfl⟩) (hw _ (List.mem_of_getElem? (i := 11) rfl)) (by decide) (by rcases hB with ⟨-, rfl, -⟩ | ⟨-, rfl, -⟩ <;> rfl) (by rcases hB with ⟨-, rfl, -⟩ | ⟨-, rfl, -⟩ <;> rfl) (by simp) d38_48 (fun hp5 W6 => ?_)
      have hne := slot_ne (Or.inr (hw _ (List.mem_of_getElem? (i := 24) rfl)) : Laid Z a0 "java/lang/String" "java/lang/String" "value" "[B") (Or.inr (hw _ (List.mem_of_getElem? (i := 26) rfl)) : Laid Z a0 "java/lang/String" "java/lang/String" "coder" "B") (by decide) (t := .array .byte) (t' := .byte) (by decide) (by decide)
      have E2 := E1.wr W6
      have C2 := C1.same W6
      have V2 := V1.other W6 (Or.inr hne)
      have B2 := (B.keep K4 nin0).other W6 ((B.keep K4 nin0).neX E1 (hw _ (List.mem_of_getElem? (i := 11) rfl)))
      refine Own.aloadN C d38_51 rfl rfl ?_
      refine Own.aload C d38_52 rfl rfl ?_
      refine putF_ C (v' := .ref b) (ty := (.array .byte)) (hw _ (List.mem_of_getElem? (i := 23) rfl)) V2 E2 (Or.inr ⟨(hw _ (List.mem_of_getElem? (i := 24) rfl)), rfl, rfl⟩) (hw _ (List.mem_of_getElem? (i := 11) rfl)) (by decide) rfl rfl (by simp) d38_54 (fun hp7 W8 => ?_)
      have E3 := E2.wr W8
      have V3 := V2.same W8
      have C3 := C2.other W8 (Or.inr hne.symm)
      have B3 := B2.other W8 (B2.neX E2 (hw _ (List.mem_of_getElem? (i := 11) rfl)))
      exact retV C (gs := []) d38_57 (dle rfl) (by omega) (fun _ q => nomatch q) ⟨rfl, rfl, E3, hcs, hl, b, z, vs, V3, C3, B3, hB⟩
  · exact absurd q1 (fun z => by have := congrArg Int32.toInt z; rw [e2] at this; have e0 : (0 : Int32).toInt = 0 := rfl; omega)
set_option maxRecDepth 65536 in
set_option maxHeartbeats 4000000 in
theorem k_init {Z : State} {a0 : Array Value} (hw : ∀ d ∈ tables_1, d.before a0 Z = true) (hs : Stt Z) {n0 : Nat} {h0 : Heap} {N : Nat} {a b0 : Addr} {cs : List Int32} {u1 u2 : Value} (hcs : ∀ c ∈ cs, isCh c) (hl : cs.length ≤ 4096) (hN : cs.length ≤ N ∧ N ≤ 4096) (hlat : ∀ c ∈ cs, c.toInt < 256) (h1 : 1 ≤ cs.length) (A : Ary Z h0 b0 .char (chs cs)) (E : Exa Z h0 a "java/lang/String") (Fv : Fld Z h0 a "java/lang/String" "value" "[B" u1) (Fc : Fld Z h0 a "java/lang/String" "coder" "B" u2) (O : Old Z n0 h0) :
    Con WD Z EL0 n0 (⟨"java/lang/String", "<init>", "([C)V"⟩ : MethodName) jdk_42_method_3_code 2 none (Rm 3 1 (0 + 1 * N) 52) [(.ref a), (.ref b0)] h0 [a] (fun v h gs => v = none ∧ gs = [] ∧ Str Z h a cs) := by
  refine Con.of (a0 := a0) (by first | (exact plainFor_of_name (by first | (simp [plainName, overriddenIn]; done) | decide +kernel)) | decide +kernel) (hEL hw) hWE O (L0 := #[.val (.ref a), .val (.ref b0)]) (fun m => by first | rfl | (simp [entryFrame, mkF, argsToLocals, Value.category]; done)) ?_
  intro K C hh
  have e2 := natI_toInt (i := cs.length) (by omega)
  refine Own.aloadN C d37_0 rfl rfl ?_
  refine Own.aloadN C d37_1 rfl rfl ?_
  refine Own.iconst (v := 0) C d37_2 rfl ?_
  refine Own.aloadN C d37_3 rfl rfl ?_
  refine arrlen C A (z := (natI cs.length)) (by rw [e2, chs_len]) d37_4 ?_
  refine Own.aconstNull C d37_5 ?_
  refine callI_ C (as' := [(.ref b0), (.int (0 : Int32)), (.int (natI cs.length)), .null]) (st := []) rfl (hw _ (List.mem_of_getElem? (i := 242) rfl)) (hw _ (List.mem_of_getElem? (i := 243) rfl)) (hw _ (List.mem_of_getElem? (i := 3) rfl)) (hw _ (List.mem_of_getElem? (i := 244) rfl)) ⟨by decide, by decide⟩ pd__28_5bCIILjava_2flang_2fVoid_3b_29V rfl (fun O => k_init4 (N := N) hw hs hcs hl hN hlat h1 A E Fv Fc O) (by simp) rfl (dle rfl) (dle rfl) (dle rfl) (by omega) d37_6 rfl (fun v1 hp1 gs1 K1 Q1 => ?_)
  obtain ⟨rfl, rfl, S1⟩ := Q1
  show Go _ K Z _ n0 _ _ 9 #[.val (.ref a), .val (.ref b0)] [] hp1 _ _ _
  exact retV C (gs := []) d37_9 (dle rfl) (by omega) (fun _ q => nomatch q) ⟨rfl, rfl, S1⟩
set_option maxRecDepth 65536 in
set_option maxHeartbeats 4000000 in
theorem k_scoder {Z : State} {a0 : Array Value} (hw : ∀ d ∈ tables_1, d.before a0 Z = true) (hs : Stt Z) {n0 : Nat} {h0 : Heap} {a : Addr} {z : Int32} (hz : nar .byte z = z) (Fc : Fld Z h0 a "java/lang/String" "coder" "B" (.int z)) (O : Old Z n0 h0) :
    Con WD Z EL0 n0 (⟨"java/lang/String", "coder", "()B"⟩ : MethodName) jdk_42_method_152_code 1 (some .byte) (Rm 0 0 0 0) [(.ref a)] h0 [] (fun v h gs => v = some (.int z) ∧ gs = []) := by
  refine Con.of (a0 := a0) (by first | (exact plainFor_of_name (by first | (simp [plainName, overriddenIn]; done) | decide +kernel)) | decide +kernel) (hEL hw) hWE O (L0 := #[.val (.ref a)]) (fun m => by first | rfl | (simp [entryFrame, mkF, argsToLocals, Value.category]; done)) ?_
  intro K C hh
  obtain ⟨cv, hcv, Sc⟩ := st_c hs
  refine getS_ C (hw _ (List.mem_of_getElem? (i := 5) rfl)) Sc d11_0 ?_
  refine if_eq C d11_3 (fun q1 => ?_) (fun q1 => ?_)
  · exact absurd q1 hcv
  · refine Own.aloadN C d11_6 rfl rfl ?_
    refine getF_ C (hw _ (List.mem_of_getElem? (i := 25) rfl)) Fc d11_7 ?_
    refine Own.goto_ C d11_10 ?_
    exact retB C (gs := []) d11_14 (dle rfl) (dle rfl) (fun _ q => nomatch q) ⟨by rw [hz], rfl⟩
set_option maxRecDepth 65536 in
set_option maxHeartbeats 4000000 in
theorem k_length {Z : State} {a0 : Array Value} (hw : ∀ d ∈ tables_1, d.before a0 Z = true) (hs : Stt Z) {n0 : Nat} {h0 : Heap} {a : Addr} {cs : List Int32} (F : Str Z h0 a cs) (O : Old Z n0 h0) :
    Con WD Z EL0 n0 (⟨"java/lang/String", "length", "()I"⟩ : MethodName) jdk_42_method_54_code 1 (some .int) (Rm 1 0 0 13) [(.ref a)] h0 [] (fun v h gs => v = some (.int (natI cs.length)) ∧ gs = []) := by
  refine Con.of (a0 := a0) (by first | (exact plainFor_of_name (by first | (simp [plainName, overriddenIn]; done) | decide +kernel)) | decide +kernel) (hEL hw) hWE O (L0 := #[.val (.ref a)]) (fun m => by first | rfl | (simp [entryFrame, mkF, argsToLocals, Value.category]; done)) ?_
  intro K C hh
  obtain ⟨E, hc1, hl1, b, z, vs, Fv, Fc, A, Bt⟩ := F
  obtain ⟨y, hy⟩ : ∃ y : Int32, y.toInt = vs.length := ⟨natI vs.length, natI_toInt (Byt.len_lt Bt hl1)⟩
  refine Own.aloadN C d10_0 rfl rfl ?_
  refine getF_ C (hw _ (List.mem_of_getElem? (i := 23) rfl)) Fv d10_1 ?_
  refine arrlen C A (z := y) hy d10_4 ?_
  refine Own.aloadN C d10_5 rfl rfl ?_
  refine callV_ C (as' := []) (st := [(.int y)]) (hw _ (List.mem_of_getElem? (i := 69) rfl)) (hw _ (List.mem_of_getElem? (i := 70) rfl)) (fun _ hZ => notFace_of_selects (args := #[]) (mvT hZ (hw _ (List.mem_of_getElem? (i := 72) rfl)))) (hw _ (List.mem_of_getElem? (i := 72) rfl)) (hw _ (List.mem_of_getElem? (i := 71) rfl)) (hw _ (List.mem_of_getElem? (i := 3) rfl)) (hw _ (List.mem_of_getElem? (i := 73) rfl)) ⟨by decide, by decide⟩ E pd__28_29B rfl (fun O => k_scoder hw hs Bt.nb Fc O) (fun _ q => nomatch q) rfl (dle rfl) (dle rfl) (dle rfl) (dle rfl) d10_6 rfl (fun v1 hp1 gs1 K1 Q1 => ?_)
  obtain ⟨rfl, rfl⟩ := Q1
  show Go _ K Z _ n0 _ _ 9 #[.val (.ref a)] [(.int z), (.int y)] hp1 _ _ _
  refine Own.ishr C d10_9 ?_
  exact retI_ C (gs := []) d10_10 (dle rfl) (dle rfl) (fun _ q => nomatch q) ⟨by rw [Bt.isr hl1 hy], rfl⟩
set_option maxRecDepth 65536 in
set_option maxHeartbeats 4000000 in
theorem k_max {Z : State} {a0 : Array Value} (hw : ∀ d ∈ tables_1, d.before a0 Z = true) (hs : Stt Z) {n0 : Nat} {h0 : Heap} {i j : Nat} (hi : i ≤ 100000) (hj : j ≤ 100000) (O : Old Z n0 h0) :
    Con WD Z EL0 n0 (⟨"java/lang/Math", "max", "(II)I"⟩ : MethodName) jdk_29_method_65_code 2 (some .int) (Rm 0 0 0 0) [(.int (natI i)), (.int (natI j))] h0 [] (fun v h gs => v = some (.int (natI (max i j))) ∧ gs = []) := by
  refine Con.of (a0 := a0) (by first | (exact plainFor_of_name (by first | (simp [plainName, overriddenIn]; done) | decide +kernel)) | decide +kernel) (hEL hw) hWE O (L0 := #[.val (.int (natI i)), .val (.int (natI j))]) (fun m => by first | rfl | (simp [entryFrame, mkF, argsToLocals, Value.category]; done)) ?_
  intro K C hh
  have e1 := natI_lt (i := i) (j := j) (by omega) (by omega)
  have e2 := natI_lt (i := j) (j := i) (by omega) (by omega)
  refine Own.iloadN C d15_0 rfl ?_
  refine Own.iloadN C d15_1 rfl ?_
  refine icmp_lt C d15_2 (fun q1 => ?_) (fun q1 => ?_)
  · simp only [e1, e2] at q1
    refine Own.iloadN C d15_9 rfl ?_
    exact retI_ C (gs := []) d15_10 (dle rfl) (dle rfl) (fun _ q => nomatch q) ⟨by rw [show max i j = j by omega], rfl⟩
  · simp only [e1, e2] at q1
    refine Own.iloadN C d15_5 rfl ?_
    refine Own.goto_ C d15_6 ?_
    exact retI_ C (gs := []) d15_10 (dle rfl) (dle rfl) (fun _ q => nomatch q) ⟨by rw [show max i j = i by omega], rfl⟩
set_option maxRecDepth 65536 in
set_option maxHeartbeats 4000000 in
theorem k_min {Z : State} {a0 : Array Value} (hw : ∀ d ∈ tables_1, d.before a0 Z = true) (hs : Stt Z) {n0 : Nat} {h0 : Heap} {i j : Nat} (hi : i ≤ 100000) (hj : j ≤ 100000) (O : Old Z n0 h0) :
    Con WD Z EL0 n0 (⟨"java/lang/Math", "min", "(II)I"⟩ : MethodName) jdk_29_method_69_code 2 (some .int) (Rm 0 0 0 0) [(.int (natI i)), (.int (natI j))] h0 [] (fun v h gs => v = some (.int (natI (min i j))) ∧ gs = []) := by
  refine Con.of (a0 := a0) (by first | (exact plainFor_of_name (by first | (simp [plainName, overriddenIn]; done) | decide +kernel)) | decide +kernel) (hEL hw) hWE O (L0 := #[.val (.int (natI i)), .val (.int (natI j))]) (fun m => by first | rfl | (simp [entryFrame, mkF, argsToLocals, Value.category]; done)) ?_
  intro K C hh
  have e1 := natI_lt (i := i) (j := j) (by omega) (by omega)
  have e2 := natI_lt (i := j) (j := i) (by omega) (by omega)
  refine Own.iloadN C d17_0 rfl ?_
  refine Own.iloadN C d17_1 rfl ?_
  refine icmp_gt C d17_2 (fun q1 => ?_) (fun q1 => ?_)
  · simp only [e1, e2] at q1
    refine Own.iloadN C d17_9 rfl ?_
    exact retI_ C (gs := []) d17_10 (dle rfl) (dle rfl) (fun _ q => nomatch q) ⟨by rw [show min i j = j by omega], rfl⟩
  · simp only [e1, e2] at q1
    refine Own.iloadN C d17_5 rfl ?_
    refine Own.goto_ C d17_6 ?_
    exact retI_ C (gs := []) d17_10 (dle rfl) (dle rfl) (fun _ q => nomatch q) ⟨by rw [show min i j = i by omega], rfl⟩
set_option maxRecDepth 65536 in
set_option maxHeartbeats 4000000 in
theorem k_asb {Z : State} {a0 : Array Value} (hw : ∀ d ∈ tables_1, d.before a0 Z = true) (hs : Stt Z) {n0 : Nat} {h0 : Heap} {a : Addr} {u1 u2 : Value} (E : Exa Z h0 a "java/lang/StringBuilder") (Fv : Fld Z h0 a "java/lang/AbstractStringBuilder" "value" "[B" u1) (Fc : Fld Z h0 a "java/lang/AbstractStringBuilder" "coder" "B" u2) (Fn : Fld Z h0 a "java/lang/AbstractStringBuilder" "count" "I" (.int 0)) (O : Old Z n0 h0) :
    Con WD Z EL0 n0 (⟨"java/lang/AbstractStringBuilder", "<init>", "(I)V"⟩ : MethodName) jdk_68_method_2_code 2 none (Rm 1 1 16 12) [(.ref a), (.int (16 : Int32))] h0 [a] (fun v h gs => v = none ∧ ∃ b, gs = [b] ∧ Sb Z h a b [] 16) := by
  refine Con.of (a0 := a0) (by first | (exact plainFor_of_name (by first | (simp [plainName, overriddenIn]; done) | decide +kernel)) | decide +kernel) (hEL hw) hWE O (L0 := #[.val (.ref a), .val (.int (16 : Int32))]) (fun m => by first | rfl | (simp [entryFrame, mkF, argsToLocals, Value.category]; done)) ?_
  intro K C hh
  obtain ⟨cv, hcv, Sc⟩ := st_c hs
  have hvc := slot_ne (Or.inl (hw _ (List.mem_of_getElem? (i := 48) rfl)) : Laid Z a0 "java/lang/StringBuilder" "java/lang/AbstractStringBuilder" "value" "[B") (Or.inl (hw _ (List.mem_of_getElem? (i := 50) rfl)) : Laid Z a0 "java/lang/StringBuilder" "java/lang/AbstractStringBuilder" "coder" "B") (by decide) (t := .array .byte) (t' := .byte) (by decide) (by decide)
  have hvn := slot_ne (Or.inl (hw _ (List.mem_of_getElem? (i := 48) rfl)) : Laid Z a0 "java/lang/StringBuilder" "java/lang/AbstractStringBuilder" "value" "[B") (Or.inl (hw _ (List.mem_of_getElem? (i := 75) rfl)) : Laid Z a0 "java/lang/StringBuilder" "java/lang/AbstractStringBuilder" "count" "I") (by decide) (t := .array .byte) (t' := .int) (by decide) (by decide)
  have hcn := slot_ne (Or.inl (hw _ (List.mem_of_getElem? (i := 50) rfl)) : Laid Z a0 "java/lang/StringBuilder" "java/lang/AbstractStringBuilder" "coder" "B") (Or.inl (hw _ (List.mem_of_getElem? (i := 75) rfl)) : Laid Z a0 "java/lang/StringBuilder" "java/lang/AbstractStringBuilder" "count" "I") (by decide) (t := .byte) (t' := .int) (by decide) (by decide)
  refine Own.aloadN C d7_0 rfl rfl ?_
  refine initO_ C (hw _ (List.mem_of_getElem? (i := 45) rfl)) (hw _ (List.mem_of_getElem? (i := 21) rfl)) (hw _ (List.mem_of_getElem? (i := 22) rfl)) rfl (dle rfl) (dle rfl) d7_1 ?_
  refine getS_ C (hw _ (List.mem_of_getElem? (i := 46) rfl)) Sc d7_4 ?_
  refine if_eq C d7_7 (fun q1 => ?_) (fun q1 => ?_)
  · exact absurd q1 hcv
  · refine Own.aloadN C d7_10 rfl rfl ?_
    refine Own.iloadN C d7_11 rfl ?_
    refine newarrB C (hw _ (List.mem_of_getElem? (i := 15) rfl)) (by decide) 16 (by decide) (by decide) (dle rfl) (dle rfl) d7_12 (fun hp2 K2 lt2 le2 A2 => ?_)
    obtain ⟨b, g2⟩ : ∃ z, z = h0.size := ⟨_, rfl⟩
    rw [← g2] at A2 lt2 le2 ⊢
    have Ex1 := E.keep K2
    have Vx1 := Fv.keep K2 nin0
    have Cx1 := Fc.keep K2 nin0
    have Nx1 := Fn.keep K2 nin0
    have hab : b ≠ a := by rw [g2]; exact (Nat.ne_of_lt E.lt).symm
    refine putF_ C (v' := .ref b) (ty := (.array .byte)) (hw _ (List.mem_of_getElem? (i := 47) rfl)) Vx1 Ex1 (Or.inl (hw _ (List.mem_of_getElem? (i := 48) rfl))) (hw _ (List.mem_of_getElem? (i := 34) rfl)) (by decide) rfl rfl (by simp) d7_14 (fun hp3 W4 => ?_)
    have Ex2 := Ex1.wr W4
    have Vx2 := Vx1.same W4
    have Cx2 := Cx1.other W4 (Or.inr hvc.symm)
    have Nx2 := Nx1.other W4 (Or.inr hvn.symm)
    have Ax2 := A2.keep (Keep.of_wr W4) (ninS hab nin0)
    refine Own.aloadN C d7_17 rfl rfl ?_
    refine Own.iconst (v := 0) C d7_18 rfl ?_
    refine putF_ C (v' := .int (0 : Int32)) (ty := .byte) (hw _ (List.mem_of_getElem? (i := 49) rfl)) Cx2 Ex2 (Or.inl (hw _ (List.mem_of_getElem? (i := 50) rfl))) (hw _ (List.mem_of_getElem? (i := 34) rfl)) (by decide) rfl rfl (by simp) d7_19 (fun hp5 W6 => ?_)
    have Ex3 := Ex2.wr W6
    have Vx3 := Vx2.other W6 (Or.inr hvc)
    have Cx3 := Cx2.same W6
    have Nx3 := Nx2.other W6 (Or.inr hcn.symm)
    have Ax3 := Ax2.keep (Keep.of_wr W6) (ninS hab nin0)
    refine Own.goto_ C d7_22 ?_
    exact retV C (gs := [b]) d7_38 (dle rfl) (dle rfl) (by simp) ⟨rfl, b, rfl, Ex3, Vx3, Nx3, Cx3, ⟨_, Ax3, rfl⟩, by simp, by decide⟩
set_option maxRecDepth 65536 in
set_option maxHeartbeats 4000000 in
theorem k_sb {Z : State} {a0 : Array Value} (hw : ∀ d ∈ tables_1, d.before a0 Z = true) (hs : Stt Z) {n0 : Nat} {h0 : Heap} {a : Addr} {u1 u2 : Value} (E : Exa Z h0 a "java/lang/StringBuilder") (Fv : Fld Z h0 a "java/lang/AbstractStringBuilder" "value" "[B" u1) (Fc : Fld Z h0 a "java/lang/AbstractStringBuilder" "coder" "B" u2) (Fn : Fld Z h0 a "java/lang/AbstractStringBuilder" "count" "I" (.int 0)) (O : Old Z n0 h0) :
    Con WD Z EL0 n0 (⟨"java/lang/StringBuilder", "<init>", "()V"⟩ : MethodName) jdk_67_method_1_code 1 none (Rm 2 1 16 25) [(.ref a)] h0 [a] (fun v h gs => v = none ∧ ∃ b, gs = [b] ∧ Sb Z h a b [] 16) := by
  refine Con.of (a0 := a0) (by first | (exact plainFor_of_name (by first | (simp [plainName, overriddenIn]; done) | decide +kernel)) | decide +kernel) (hEL hw) hWE O (L0 := #[.val (.ref a)]) (fun m => by first | rfl | (simp [entryFrame, mkF, argsToLocals, Value.category]; done)) ?_
  intro K C hh
  refine Own.aloadN C d6_0 rfl rfl ?_
  refine Own.bipush (v := 16) C d6_1 rfl ?_
  refine callI_ C (as' := [(.int (16 : Int32))]) (st := []) rfl (hw _ (List.mem_of_getElem? (i := 39) rfl)) (hw _ (List.mem_of_getElem? (i := 40) rfl)) (hw _ (List.mem_of_getElem? (i := 43) rfl)) (hw _ (List.mem_of_getElem? (i := 44) rfl)) ⟨by decide, by decide⟩ pd__28I_29V rfl (fun O => k_asb hw hs E Fv Fc Fn O) (by simp) rfl (dle rfl) (dle rfl) (dle rfl) (dle rfl) d6_3 rfl (fun v1 hp1 gs1 K1 Q1 => ?_)
  obtain ⟨rfl, b, rfl, S⟩ := Q1
  show Go _ K Z _ n0 _ _ 6 #[.val (.ref a)] [] hp1 _ _ _
  exact retV C (gs := [b]) d6_6 (dle rfl) (dle rfl) (by simp) ⟨rfl, b, rfl, S⟩
set_option maxRecDepth 65536 in
set_option maxHeartbeats 4000000 in
theorem k_newLength {Z : State} {a0 : Array Value} (hw : ∀ d ∈ tables_1, d.before a0 Z = true) (hs : Stt Z) {n0 : Nat} {h0 : Heap} {i j m : Nat} (hi : 1 ≤ i ∧ i ≤ 10000) (hj : j ≤ 10000) (hm : m ≤ 20000) (O : Old Z n0 h0) :
    Con WD Z EL0 n0 (⟨"jdk/internal/util/ArraysSupport", "newLength", "(III)I"⟩ : MethodName) jdk_48_method_27_code 4 (some .int) (Rm 1 0 0 14) [(.int (natI i)), (.int (natI j)), (.int (natI m))] h0 [] (fun v h gs => v = some (.int (natI (i + max j m))) ∧ gs = []) := by
  refine Con.of (a0 := a0) (by first | (exact plainFor_of_name (by first | (simp [plainName, overriddenIn]; done) | decide +kernel)) | decide +kernel) (hEL hw) hWE O (L0 := #[.val (.int (natI i)), .val (.int (natI j)), .val (.int (natI m)), .unset]) (fun m => by first | rfl | (simp [entryFrame, mkF, argsToLocals, Value.category]; done)) ?_
  intro K C hh
  refine Own.iloadN C d14_0 rfl ?_
  refine Own.iloadN C d14_1 rfl ?_
  refine Own.iloadN C d14_2 rfl ?_
  refine callS_ C (as := [(.int (natI j)), (.int (natI m))]) (st := [(.int (natI i))]) (hw _ (List.mem_of_getElem? (i := 90) rfl)) (hw _ (List.mem_of_getElem? (i := 91) rfl)) (hw _ (List.mem_of_getElem? (i := 92) rfl)) (hw _ (List.mem_of_getElem? (i := 93) rfl)) ⟨by decide, by decide⟩ pd__28II_29I rfl (fun O => k_max hw hs (i := j) (j := m) (by omega) (by omega) O) (fun _ q => nomatch q) rfl (dle rfl) (dle rfl) (dle rfl) (dle rfl) d14_3 rfl (fun v1 hp1 gs1 K1 Q1 => ?_)
  obtain ⟨rfl, rfl⟩ := Q1
  show Go _ K Z _ n0 _ _ 6 #[.val (.int (natI i)), .val (.int (natI j)), .val (.int (natI m)), .unset] [(.int (natI (max j m))), (.int (natI i))] hp1 _ _ _
  refine Own.iadd C d14_6 ?_
  rw [natI_plus (by omega)]
  show Go _ K Z _ n0 _ _ 7 #[.val (.int (natI i)), .val (.int (natI j)), .val (.int (natI m)), .unset] [(.int (natI (i + max j m)))] hp1 _ _ _
  have e := natI_toInt (i := i + max j m) (by omega)
  refine Own.istoreN (L' := #[.val (.int (natI i)), .val (.int (natI j)), .val (.int (natI m)), .val (.int (natI (i + max j m)))]) C d14_7 rfl ?_
  refine Own.iconst (v := 0) C d14_8 rfl ?_
  refine Own.iloadN C d14_9 rfl ?_
  refine icmp_ge C d14_10 (fun q2 => ?_) (fun q2 => ?_)
  · have z0 : (0 : Int32).toInt = 0 := rfl
    rw [lt32, e, z0] at q2
    omega
  · refine Own.iloadN C d14_13 rfl ?_
    refine Own.ldcI C (hw _ (List.mem_of_getElem? (i := 94) rfl)) d14_14 ?_
    refine icmp_gt C d14_16 (fun q3 => ?_) (fun q3 => ?_)
    · have z0 : (2147483639 : Int32).toInt = 2147483639 := rfl
      rw [lt32, e, z0] at q3
      omega
    · refine Own.iloadN C d14_19 rfl ?_
      exact retI_ C (gs := []) d14_20 (dle rfl) (dle rfl) (fun _ q => nomatch q) ⟨rfl, rfl⟩
set_option maxRecDepth 65536 in
set_option maxHeartbeats 4000000 in
theorem k_newCapacity {Z : State} {a0 : Array Value} (hw : ∀ d ∈ tables_1, d.before a0 Z = true) (hs : Stt Z) {n0 : Nat} {h0 : Heap} {a b : Addr} {cs : List Int32} {cap m : Nat} (S : Sb Z h0 a b cs cap) (hm : cap < m ∧ m ≤ 4096) (hc1 : 1 ≤ cap) (O : Old Z n0 h0) :
    Con WD Z EL0 n0 (⟨"java/lang/AbstractStringBuilder", "newCapacity", "(I)I"⟩ : MethodName) jdk_68_method_10_code 6 (some .int) (Rm 2 0 0 29) [(.ref a), (.int (natI m))] h0 [] (fun v h gs => v = some (.int (natI (cap + max (m - cap) (cap + 2)))) ∧ gs = []) := by
  refine Con.of (a0 := a0) (by first | (exact plainFor_of_name (by first | (simp [plainName, overriddenIn]; done) | decide +kernel)) | decide +kernel) (hEL hw) hWE O (L0 := #[.val (.ref a), .val (.int (natI m)), .unset, .unset, .unset, .unset]) (fun m => by first | rfl | (simp [entryFrame, mkF, argsToLocals, Value.category]; done)) ?_
  intro K C hh
  obtain ⟨E, V, Nc, Cd, ⟨rest, B, hl⟩, hcs, hcap⟩ := S
  have ec := natI_toInt (i := cap) (by omega)
  have hvl : (lat cs ++ rest).length = cap := by rw [List.length_append, lat_len]; omega
  obtain ⟨E, V, Nc, Cd⟩ := (⟨E, V, Nc, Cd⟩ : _ ∧ _ ∧ _ ∧ _)
  refine Own.aloadN C d13_0 rfl rfl ?_
  refine getF_ C (hw _ (List.mem_of_getElem? (i := 47) rfl)) V d13_1 ?_
  refine arrlen C B.1 (z := (natI cap)) (by rw [ec, hvl]) d13_4 ?_
  refine Own.istoreN (L' := #[.val (.ref a), .val (.int (natI m)), .val (.int (natI cap)), .unset, .unset, .unset]) C d13_5 rfl ?_
  refine Own.iloadN C d13_6 rfl ?_
  refine Own.aloadN C d13_7 rfl rfl ?_
  refine getF_ C (hw _ (List.mem_of_getElem? (i := 49) rfl)) Cd d13_8 ?_
  refine Own.ishl C d13_11 ?_
  rw [shl0]
  show Go _ K Z _ n0 _ _ 12 #[.val (.ref a), .val (.int (natI m)), .val (.int (natI cap)), .unset, .unset, .unset] [(.int (natI m))] h0 _ _ _
  refine Own.istoreN (L' := #[.val (.ref a), .val (.int (natI m)), .val (.int (natI cap)), .val (.int (natI m)), .unset, .unset]) C d13_12 rfl ?_
  refine Own.iloadN C d13_13 rfl ?_
  refine Own.iloadN C d13_14 rfl ?_
  refine Own.isub C d13_15 ?_
  rw [natI_sub (by omega) (by omega)]
  show Go _ K Z _ n0 _ _ 16 #[.val (.ref a), .val (.int (natI m)), .val (.int (natI cap)), .val (.int (natI m)), .unset, .unset] [(.int (natI (m - cap)))] h0 _ _ _
  refine Own.istore (L' := #[.val (.ref a), .val (.int (natI m)), .val (.int (natI cap)), .val (.int (natI m)), .val (.int (natI (m - cap))), .unset]) C d13_16 rfl ?_
  refine Own.iloadN C d13_18 rfl ?_
  refine Own.iload C d13_19 rfl ?_
  refine Own.iloadN C d13_21 rfl ?_
  refine Own.iconst (v := 2) C d13_22 rfl ?_
  refine Own.aloadN C d13_23 rfl rfl ?_
  refine getF_ C (hw _ (List.mem_of_getElem? (i := 49) rfl)) Cd d13_24 ?_
  refine Own.ishl C d13_27 ?_
  refine Own.iadd C d13_28 ?_
  rw [show natI cap + ((2 : Int32) <<< ((0 : Int32) &&& 31)) = natI (cap + 2) from natI_plus (n := 2) (by omega)]
  show Go _ K Z _ n0 _ _ 29 #[.val (.ref a), .val (.int (natI m)), .val (.int (natI cap)), .val (.int (natI m)), .val (.int (natI (m - cap))), .unset] [(.int (natI (cap + 2))), (.int (natI (m - cap))), (.int (natI cap))] h0 _ _ _
  refine callS_ C (as := [(.int (natI cap)), (.int (natI (m - cap))), (.int (natI (cap + 2)))]) (st := []) (hw _ (List.mem_of_getElem? (i := 86) rfl)) (hw _ (List.mem_of_getElem? (i := 87) rfl)) (hw _ (List.mem_of_getElem? (i := 88) rfl)) (hw _ (List.mem_of_getElem? (i := 89) rfl)) ⟨by decide, by decide⟩ pd__28III_29I rfl (fun O => k_newLength hw hs (i := cap) (j := m - cap) (m := cap + 2) ⟨by omega, by omega⟩ (by omega) (by omega) O) (fun _ q => nomatch q) rfl (dle rfl) (dle rfl) (dle rfl) (dle rfl) d13_29 rfl (fun v1 hp1 gs1 K1 Q1 => ?_)
  obtain ⟨rfl, rfl⟩ := Q1
  show Go _ K Z _ n0 _ _ 32 #[.val (.ref a), .val (.int (natI m)), .val (.int (natI cap)), .val (.int (natI m)), .val (.int (natI (m - cap))), .unset] [(.int (natI (cap + max (m - cap) (cap + 2))))] hp1 _ _ _
  refine Own.istore (L' := #[.val (.ref a), .val (.int (natI m)), .val (.int (natI cap)), .val (.int (natI m)), .val (.int (natI (m - cap))), .val (.int (natI (cap + max (m - cap) (cap + 2))))]) C d13_32 rfl ?_
  refine Own.iload C d13_34 rfl ?_
  refine Own.ldcI C (hw _ (List.mem_of_getElem? (i := 95) rfl)) d13_36 ?_
  refine icmp_ne C d13_38 (fun q2 => ?_) (fun q2 => ?_)
  · refine Own.iload C d13_51 rfl ?_
    refine Own.aloadN C d13_53 rfl rfl ?_
    refine getF_ C (hw _ (List.mem_of_getElem? (i := 49) rfl)) (Cd.keep K1 nin0) d13_54 ?_
    refine Own.ishr C d13_57 ?_
    exact retI_ C (gs := []) d13_58 (dle rfl) (dle rfl) (fun _ q => nomatch q) ⟨by rw [shr0], rfl⟩
  · have e9 := natI_toInt (i := cap + max (m - cap) (cap + 2)) (by omega)
    have z0 : (2147483647 : Int32).toInt = 2147483647 := rfl
    rw [q2, z0] at e9
    omega
set_option maxRecDepth 65536 in
set_option maxHeartbeats 4000000 in
theorem k_copyOf {Z : State} {a0 : Array Value} (hw : ∀ d ∈ tables_1, d.before a0 Z = true) (hs : Stt Z) {n0 : Nat} {h0 : Heap} {b : Addr} {vs : List Value} {m N : Nat} (hm : vs.length < m ∧ m ≤ N ∧ N ≤ 10000) (A : ByA Z h0 b vs) (O : Old Z n0 h0) :
    Con WD Z EL0 n0 (⟨"java/util/Arrays", "copyOf", "([BI)[B"⟩ : MethodName) jdk_65_method_121_code 3 (some (.array .byte)) (Rm 1 1 (0 + 1 * N) 18) [(.ref b), (.int (natI m))] h0 [] (fun v h gs => ∃ c : Addr, v = some (.ref c) ∧ gs = [c] ∧ h0.size ≤ c ∧ ByA Z h c (vs ++ List.replicate (m - vs.length) (.int 0))) := by
  refine Con.of (a0 := a0) (by first | (exact plainFor_of_name (by first | (simp [plainName, overriddenIn]; done) | decide +kernel)) | decide +kernel) (hEL hw) hWE O (L0 := #[.val (.ref b), .val (.int (natI m)), .unset]) (fun m => by first | rfl | (simp [entryFrame, mkF, argsToLocals, Value.category]; done)) ?_
  intro K C hh
  have ev := natI_toInt (i := vs.length) (by omega)
  have em := natI_toInt (i := m) (by omega)
  have e3 : (natI m).toNatClampNeg = m := natI_clamp (by omega)
  refine Own.iloadN C d16_0 rfl ?_
  refine Own.aloadN C d16_1 rfl rfl ?_
  refine arrlen C A.1 (z := (natI vs.length)) ev d16_2 ?_
  refine icmp_ne C d16_3 (fun q1 => ?_) (fun q1 => ?_)
  · refine Own.iloadN C d16_14 rfl ?_
    refine newarrB C (hw _ (List.mem_of_getElem? (i := 15) rfl)) (by rw [lt32, em]; exact Int.not_lt.mpr (Int.natCast_nonneg _)) m (Nat.le_of_eq e3) (by omega) (dle rfl) (by omega) d16_15 (fun hp2 K2 lt2 le2 A2 => ?_)
    obtain ⟨c, g2⟩ : ∃ z, z = h0.size := ⟨_, rfl⟩
    rw [← g2] at A2 lt2 le2 ⊢
    rw [e3] at A2
    have Ax1 := A.keep K2 nin0
    refine Own.astoreN (L' := #[.val (.ref b), .val (.int (natI m)), .val (.ref c)]) C d16_17 rfl rfl ?_
    refine Own.aloadN C d16_18 rfl rfl ?_
    refine Own.iconst (v := 0) C d16_19 rfl ?_
    refine Own.aloadN C d16_20 rfl rfl ?_
    refine Own.iconst (v := 0) C d16_21 rfl ?_
    refine Own.aloadN C d16_22 rfl rfl ?_
    refine arrlen C Ax1.1 (z := (natI vs.length)) ev d16_23 ?_
    refine Own.iloadN C d16_24 rfl ?_
    refine callS_ C (as := [(.int (natI vs.length)), (.int (natI m))]) (st := [(.int (0 : Int32)), (.ref c), (.int (0 : Int32)), (.ref b)]) (hw _ (List.mem_of_getElem? (i := 100) rfl)) (hw _ (List.mem_of_getElem? (i := 101) rfl)) (hw _ (List.mem_of_getElem? (i := 92) rfl)) (hw _ (List.mem_of_getElem? (i := 102) rfl)) ⟨by decide, by decide⟩ pd__28II_29I rfl (fun O => k_min hw hs (i := vs.length) (j := m) (by omega) (by omega) O) (fun _ q => nomatch q) rfl (dle rfl) (dle rfl) (dle rfl) (by omega) d16_25 rfl (fun v3 hp3 gs3 K3 Q3 => ?_)
    obtain ⟨rfl, rfl⟩ := Q3
    show Go _ K Z _ n0 _ _ 28 #[.val (.ref b), .val (.int (natI m)), .val (.ref c)] [(.int (natI (min vs.length m))), (.int (0 : Int32)), (.ref c), (.int (0 : Int32)), (.ref b)] hp3 _ _ _
    have Ax2 := Ax1.keep K3 nin0
    have Bx2 := A2.keep K3 nin0
    have emn : min vs.length m = vs.length := by omega
    rw [emn]
    show Go _ K Z _ n0 _ _ 28 #[.val (.ref b), .val (.int (natI m)), .val (.ref c)] [(.int (natI vs.length)), (.int (0 : Int32)), (.ref c), (.int (0 : Int32)), (.ref b)] hp3 _ _ _
    refine acopy_ C (st := []) (hw _ (List.mem_of_getElem? (i := 103) rfl)) (hw _ (List.mem_of_getElem? (i := 106) rfl)) (hw _ (List.mem_of_getElem? (i := 104) rfl)) (hw _ (List.mem_of_getElem? (i := 105) rfl)) Ax2.1 Bx2.1 0 0 vs.length rfl rfl ev (by omega) (by simp; omega) (fun v hv => Ax2.2.2 v (List.mem_of_mem_drop (List.mem_of_mem_take hv))) (by simp) rfl (dle rfl) (dle rfl) d16_28 (fun hp4 K4 A4 => ?_)
    rw [over_zero (by omega)] at A4
    refine Own.aloadN C d16_31 rfl rfl ?_
    exact retA C (gs := [c]) rfl rfl d16_32 (dle rfl) (by omega) (by simp) ⟨c, rfl, rfl, (by have := K3.1; omega), A4, (Bx2.2.1.keep K4), fun v hv => by rcases List.mem_append.mp hv with z | z; exact Ax2.2.2 v z; rw [List.mem_replicate] at z; rw [z.2]; exact fits0⟩
  · rw [natI_inj (by omega) (by omega)] at q1
    omega
set_option maxRecDepth 65536 in
set_option maxHeartbeats 4000000 in
theorem k_ensure {Z : State} {a0 : Array Value} (hw : ∀ d ∈ tables_1, d.before a0 Z = true) (hs : Stt Z) {n0 : Nat} {h0 : Heap} {a b : Addr} {cs : List Int32} {cap m N : Nat} (S : Sb Z h0 a b cs cap) (hm : m ≤ 4096) (hN : m ≤ N ∧ 2 * cap + 2 ≤ N ∧ N ≤ 4096) (hc1 : 1 ≤ cap) (O : Old Z n0 h0) :
    Con WD Z EL0 n0 (⟨"java/lang/AbstractStringBuilder", "ensureCapacityInternal", "(I)V"⟩ : MethodName) jdk_68_method_9_code 3 none (Rm 3 1 (0 + 1 * N) 48) [(.ref a), (.int (natI m))] h0 [a, b] (fun v h gs => v = none ∧ ∃ (b' : Addr) (cap' : Nat), gs = [b'] ∧ Sb Z h a b' cs cap' ∧ m ≤ cap' ∧ (cap' = cap ∨ cap' = cap + max (m - cap) (cap + 2))) := by
  refine Con.of (a0 := a0) (by first | (exact plainFor_of_name (by first | (simp [plainName, overriddenIn]; done) | decide +kernel)) | decide +kernel) (hEL hw) hWE O (L0 := #[.val (.ref a), .val (.int (natI m)), .unset]) (fun m => by first | rfl | (simp [entryFrame, mkF, argsToLocals, Value.category]; done)) ?_
  intro K C hh
  have S0 := S
  obtain ⟨E, V, Nc, Cd, ⟨rest, B, hl⟩, hcs, hcap⟩ := S
  have ec := natI_toInt (i := cap) (by omega)
  have em := natI_toInt (i := m) (by omega)
  have hvl : (lat cs ++ rest).length = cap := by rw [List.length_append, lat_len]; omega
  have z0 : (0 : Int32).toInt = 0 := rfl
  have hsub : (natI m - natI cap).toInt = (m : Int) - cap := by have a3 := c_isub (natI m) (natI cap); have a4 := rng32 (natI m - natI cap); omega
  refine Own.aloadN C d12_0 rfl rfl ?_
  refine getF_ C (hw _ (List.mem_of_getElem? (i := 47) rfl)) V d12_1 ?_
  refine arrlen C B.1 (z := (natI cap)) (by rw [ec, hvl]) d12_4 ?_
  refine Own.aloadN C d12_5 rfl rfl ?_
  refine getF_ C (hw _ (List.mem_of_getElem? (i := 49) rfl)) Cd d12_6 ?_
  refine Own.ishr C d12_9 ?_
  rw [shr0]
  show Go _ K Z _ n0 _ _ 10 #[.val (.ref a), .val (.int (natI m)), .unset] [(.int (natI cap))] h0 _ _ _
  refine Own.istoreN (L' := #[.val (.ref a), .val (.int (natI m)), .val (.int (natI cap))]) C d12_10 rfl ?_
  refine Own.iloadN C d12_11 rfl ?_
  refine Own.iloadN C d12_12 rfl ?_
  refine Own.isub C d12_13 ?_
  refine if_le C d12_14 (fun q1 => ?_) (fun q1 => ?_)
  · have hle : m ≤ cap := by rw [lt32, hsub, z0] at q1; omega
    exact retV C (gs := [b]) d12_38 (dle rfl) (by omega) (by simp) ⟨rfl, b, cap, rfl, S0, hle, Or.inl rfl⟩
  · have hlt : cap < m := by rw [lt32, hsub, z0] at q1; omega
    have hvc := slot_ne (Or.inl (hw _ (List.mem_of_getElem? (i := 48) rfl)) : Laid Z a0 "java/lang/StringBuilder" "java/lang/AbstractStringBuilder" "value" "[B") (Or.inl (hw _ (List.mem_of_getElem? (i := 50) rfl)) : Laid Z a0 "java/lang/StringBuilder" "java/lang/AbstractStringBuilder" "coder" "B") (by decide) (t := .array .byte) (t' := .byte) (by decide) (by decide)
    have hvn := slot_ne (Or.inl (hw _ (List.mem_of_getElem? (i := 48) rfl)) : Laid Z a0 "java/lang/StringBuilder" "java/lang/AbstractStringBuilder" "value" "[B") (Or.inl (hw _ (List.mem_of_getElem? (i := 75) rfl)) : Laid Z a0 "java/lang/StringBuilder" "java/lang/AbstractStringBuilder" "count" "I") (by decide) (t := .array .byte) (t' := .int) (by decide) (by decide)
    have hcn := slot_ne (Or.inl (hw _ (List.mem_of_getElem? (i := 50) rfl)) : Laid Z a0 "java/lang/StringBuilder" "java/lang/AbstractStringBuilder" "coder" "B") (Or.inl (hw _ (List.mem_of_getElem? (i := 75) rfl)) : Laid Z a0 "java/lang/StringBuilder" "java/lang/AbstractStringBuilder" "count" "I") (by decide) (t := .byte) (t' := .int) (by decide) (by decide)
    refine Own.aloadN C d12_17 rfl rfl ?_
    refine Own.aloadN C d12_18 rfl rfl ?_
    refine getF_ C (hw _ (List.mem_of_getElem? (i := 47) rfl)) V d12_19 ?_
    refine Own.aloadN C d12_22 rfl rfl ?_
    refine Own.iloadN C d12_23 rfl ?_
    refine callP_ C (as' := [(.int (natI m))]) (st := [(.ref b), (.ref a)]) (hw _ (List.mem_of_getElem? (i := 81) rfl)) (hw _ (List.mem_of_getElem? (i := 82) rfl)) (hw _ (List.mem_of_getElem? (i := 84) rfl)) (hw _ (List.mem_of_getElem? (i := 83) rfl)) (hw _ (List.mem_of_getElem? (i := 43) rfl)) (hw _ (List.mem_of_getElem? (i := 85) rfl)) ⟨by decide, by decide⟩ E pd__28I_29I rfl (fun O => k_newCapacity hw hs S0 ⟨hlt, by omega⟩ (by omega) O) (fun _ q => nomatch q) rfl (dle rfl) (dle rfl) (dle rfl) (by omega) d12_24 rfl (fun v2 hp2 gs2 K2 Q2 => ?_)
    obtain ⟨rfl, rfl⟩ := Q2
    show Go _ K Z _ n0 _ _ 27 #[.val (.ref a), .val (.int (natI m)), .val (.int (natI cap))] [(.int (natI (cap + max (m - cap) (cap + 2)))), (.ref b), (.ref a)] hp2 _ _ _
    refine Own.aloadN C d12_27 rfl rfl ?_
    refine getF_ C (hw _ (List.mem_of_getElem? (i := 49) rfl)) (Cd.keep K2 nin0) d12_28 ?_
    refine Own.ishl C d12_31 ?_
    rw [shl0]
    show Go _ K Z _ n0 _ _ 32 #[.val (.ref a), .val (.int (natI m)), .val (.int (natI cap))] [(.int (natI (cap + max (m - cap) (cap + 2)))), (.ref b), (.ref a)] hp2 _ _ _
    refine callS_ C (as := [(.ref b), (.int (natI (cap + max (m - cap) (cap + 2))))]) (st := [(.ref a)]) (hw _ (List.mem_of_getElem? (i := 96) rfl)) (hw _ (List.mem_of_getElem? (i := 97) rfl)) (hw _ (List.mem_of_getElem? (i := 98) rfl)) (hw _ (List.mem_of_getElem? (i := 99) rfl)) ⟨by decide, by decide⟩ pd__28_5bBI_29_5bB rfl (fun O => k_copyOf (N := N) hw hs (m := cap + max (m - cap) (cap + 2)) ⟨by rw [hvl]; omega, by omega, by omega⟩ (B.keep K2 nin0) O) (fun _ q => nomatch q) rfl (dle rfl) (dle rfl) (dle rfl) (by omega) d12_32 rfl (fun v3 hp3 gs3 K3 Q3 => ?_)
    obtain ⟨c, rfl, rfl, hge, Bx2⟩ := Q3
    show Go _ K Z _ n0 _ _ 35 #[.val (.ref a), .val (.int (natI m)), .val (.int (natI cap))] [(.ref c), (.ref a)] hp3 _ _ _
    have KK := K2.trans K3 (fun _ q => nomatch q)
    have Ex1 := E.keep KK
    have Vx1 := V.keep KK nin0
    have Cx1 := Cd.keep KK nin0
    have Nx1 := Nc.keep KK nin0
    have hca : c ≠ a := fun e => by subst e; exact absurd E.lt (Nat.not_lt.mpr (Nat.le_trans K2.1 (by omega)))
    refine putF_ C (v' := .ref c) (ty := (.array .byte)) (hw _ (List.mem_of_getElem? (i := 47) rfl)) Vx1 Ex1 (Or.inl (hw _ (List.mem_of_getElem? (i := 48) rfl))) (hw _ (List.mem_of_getElem? (i := 34) rfl)) (by decide) rfl rfl (by simp) d12_35 (fun hp4 W5 => ?_)
    exact retV C (gs := [c]) d12_38 (dle rfl) (by omega) (by simp) ⟨rfl, c, cap + max (m - cap) (cap + 2), rfl, ⟨Ex1.wr W5, Vx1.same W5, Nx1.other W5 (Or.inr hvn.symm), Cx1.other W5 (Or.inr hvc.symm), ⟨rest ++ List.replicate (cap + max (m - cap) (cap + 2) - (lat cs ++ rest).length) (.int 0), by rw [← List.append_assoc]; exact Bx2.keep (Keep.of_wr W5) (ninS hca nin0), by rw [List.length_append, List.length_replicate, hvl]; omega⟩, hcs, by omega⟩, by omega, Or.inr (by omega)⟩
set_option maxRecDepth 65536 in
set_option maxHeartbeats 4000000 in
theorem k_inflateIf {Z : State} {a0 : Array Value} (hw : ∀ d ∈ tables_1, d.before a0 Z = true) (hs : Stt Z) {n0 : Nat} {h0 : Heap} {a s : Addr} (Cd : Fld Z h0 a "java/lang/AbstractStringBuilder" "coder" "B" (.int 0)) (E : Exa Z h0 s "java/lang/String") (Fc : Fld Z h0 s "java/lang/String" "coder" "B" (.int 0)) (O : Old Z n0 h0) :
    Con WD Z EL0 n0 (⟨"java/lang/AbstractStringBuilder", "inflateIfNeededFor", "(Ljava/lang/String;)V"⟩ : MethodName) jdk_68_method_71_code 2 none (Rm 1 0 0 13) [(.ref a), (.ref s)] h0 [] (fun v h gs => v = none ∧ gs = []) := by
  refine Con.of (a0 := a0) (by first | (exact plainFor_of_name (by first | (simp [plainName, overriddenIn]; done) | decide +kernel)) | decide +kernel) (hEL hw) hWE O (L0 := #[.val (.ref a), .val (.ref s)]) (fun m => by first | rfl | (simp [entryFrame, mkF, argsToLocals, Value.category]; done)) ?_
  intro K C hh
  obtain ⟨cv, hcv, Sc⟩ := st_c hs
  refine getS_ C (hw _ (List.mem_of_getElem? (i := 46) rfl)) Sc d19_0 ?_
  refine if_eq C d19_3 (fun q1 => ?_) (fun q1 => ?_)
  · exact absurd q1 hcv
  · refine Own.aloadN C d19_6 rfl rfl ?_
    refine getF_ C (hw _ (List.mem_of_getElem? (i := 49) rfl)) Cd d19_7 ?_
    refine Own.aloadN C d19_10 rfl rfl ?_
    refine callV_ C (as' := []) (st := [(.int (0 : Int32))]) (hw _ (List.mem_of_getElem? (i := 117) rfl)) (hw _ (List.mem_of_getElem? (i := 70) rfl)) (fun _ hZ => notFace_of_selects (args := #[]) (mvT hZ (hw _ (List.mem_of_getElem? (i := 72) rfl)))) (hw _ (List.mem_of_getElem? (i := 72) rfl)) (hw _ (List.mem_of_getElem? (i := 71) rfl)) (hw _ (List.mem_of_getElem? (i := 3) rfl)) (hw _ (List.mem_of_getElem? (i := 73) rfl)) ⟨by decide, by decide⟩ E pd__28_29B rfl (fun O => k_scoder hw hs rfl Fc O) (fun _ q => nomatch q) rfl (dle rfl) (dle rfl) (dle rfl) (dle rfl) d19_11 rfl (fun v2 hp2 gs2 K2 Q2 => ?_)
    obtain ⟨rfl, rfl⟩ := Q2
    show Go _ K Z _ n0 _ _ 14 #[.val (.ref a), .val (.ref s)] [(.int (0 : Int32)), (.int (0 : Int32))] hp2 _ _ _
    refine icmp_eq C d19_14 (fun q3 => ?_) (fun q3 => ?_)
    · exact retV C (gs := []) d19_21 (dle rfl) (dle rfl) (fun _ q => nomatch q) ⟨rfl, rfl⟩
    · exact absurd rfl q3
set_option maxRecDepth 65536 in
set_option maxHeartbeats 4000000 in
theorem k_getBytes {Z : State} {a0 : Array Value} (hw : ∀ d ∈ tables_1, d.before a0 Z = true) (hs : Stt Z) {n0 : Nat} {h0 : Heap} {s b c : Addr} {ds : List Int32} {ws : List Value} {i : Nat} (E : Exa Z h0 s "java/lang/String") (Fc : Fld Z h0 s "java/lang/String" "coder" "B" (.int 0)) (Fv : Fld Z h0 s "java/lang/String" "value" "[B" (.ref c)) (A : Ary Z h0 c .byte (lat ds)) (B : ByA Z h0 b ws) (hd : ds.length ≤ 4096) (hi : i + ds.length ≤ ws.length) (hw4 : ws.length ≤ 4096) (O : Old Z n0 h0) :
    Con WD Z EL0 n0 (⟨"java/lang/String", "getBytes", "([BIB)V"⟩ : MethodName) jdk_42_method_147_code 4 none (Rm 1 0 0 18) [(.ref s), (.ref b), (.int (natI i)), (.int (0 : Int32))] h0 [b] (fun v h gs => v = none ∧ gs = [] ∧ ByA Z h b (over ws (lat ds) 0 i ds.length)) := by
  refine Con.of (a0 := a0) (by first | (exact plainFor_of_name (by first | (simp [plainName, overriddenIn]; done) | decide +kernel)) | decide +kernel) (hEL hw) hWE O (L0 := #[.val (.ref s), .val (.ref b), .val (.int (natI i)), .val (.int (0 : Int32))]) (fun m => by first | rfl | (simp [entryFrame, mkF, argsToLocals, Value.category]; done)) ?_
  intro K C hh
  have el := natI_toInt (i := ds.length) (by omega)
  have ei := natI_toInt (i := i) (by omega)
  refine Own.aloadN C d20_0 rfl rfl ?_
  refine callV_ C (as' := []) (st := []) (hw _ (List.mem_of_getElem? (i := 69) rfl)) (hw _ (List.mem_of_getElem? (i := 70) rfl)) (fun _ hZ => notFace_of_selects (args := #[]) (mvT hZ (hw _ (List.mem_of_getElem? (i := 72) rfl)))) (hw _ (List.mem_of_getElem? (i := 72) rfl)) (hw _ (List.mem_of_getElem? (i := 71) rfl)) (hw _ (List.mem_of_getElem? (i := 3) rfl)) (hw _ (List.mem_of_getElem? (i := 73) rfl)) ⟨by decide, by decide⟩ E pd__28_29B rfl (fun O => k_scoder hw hs rfl Fc O) (fun _ q => nomatch q) rfl (dle rfl) (dle rfl) (dle rfl) (dle rfl) d20_1 rfl (fun v1 hp1 gs1 K1 Q1 => ?_)
  obtain ⟨rfl, rfl⟩ := Q1
  show Go _ K Z _ n0 _ _ 4 #[.val (.ref s), .val (.ref b), .val (.int (natI i)), .val (.int (0 : Int32))] [(.int (0 : Int32))] hp1 _ _ _
  refine Own.iloadN C d20_4 rfl ?_
  refine icmp_ne C d20_5 (fun q2 => ?_) (fun q2 => ?_)
  · exact absurd rfl q2
  · have Ax1 := A.keep K1 nin0
    have Bx1 := B.keep K1 nin0
    have Vx1 := Fv.keep K1 nin0
    refine Own.aloadN C d20_8 rfl rfl ?_
    refine getF_ C (hw _ (List.mem_of_getElem? (i := 23) rfl)) Vx1 d20_9 ?_
    refine Own.iconst (v := 0) C d20_12 rfl ?_
    refine Own.aloadN C d20_13 rfl rfl ?_
    refine Own.iloadN C d20_14 rfl ?_
    refine Own.iloadN C d20_15 rfl ?_
    refine Own.ishl C d20_16 ?_
    rw [shl0]
    show Go _ K Z _ n0 _ _ 17 #[.val (.ref s), .val (.ref b), .val (.int (natI i)), .val (.int (0 : Int32))] [(.int (natI i)), (.ref b), (.int (0 : Int32)), (.ref c)] hp1 _ _ _
    refine Own.aloadN C d20_17 rfl rfl ?_
    refine getF_ C (hw _ (List.mem_of_getElem? (i := 23) rfl)) Vx1 d20_18 ?_
    refine arrlen C Ax1 (z := (natI ds.length)) (by rw [el, lat_len]) d20_21 ?_
    refine acopy_ C (st := []) (hw _ (List.mem_of_getElem? (i := 123) rfl)) (hw _ (List.mem_of_getElem? (i := 106) rfl)) (hw _ (List.mem_of_getElem? (i := 104) rfl)) (hw _ (List.mem_of_getElem? (i := 105) rfl)) Ax1 Bx1.1 0 i ds.length rfl ei el (by rw [lat_len]; omega) (by omega) (fun v hv => fits_lat v (List.mem_of_mem_drop (List.mem_of_mem_take hv))) (by simp) rfl (dle rfl) (dle rfl) d20_22 (fun hp3 K3 A3 => ?_)
    refine Own.goto_ C d20_25 ?_
    exact retV C (gs := []) d20_43 (dle rfl) (dle rfl) (fun _ q => nomatch q) ⟨rfl, rfl, A3, Bx1.2.1.keep K3, fun v hv => by unfold over at hv; rcases List.mem_append.mp hv with z | z; (rcases List.mem_append.mp z with z | z; exact Bx1.2.2 v (List.mem_of_mem_take z); exact fits_lat v (List.mem_of_mem_drop (List.mem_of_mem_take z))); exact Bx1.2.2 v (List.mem_of_mem_drop z)⟩
set_option maxRecDepth 65536 in
set_option maxHeartbeats 4000000 in
theorem k_putString {Z : State} {a0 : Array Value} (hw : ∀ d ∈ tables_1, d.before a0 Z = true) (hs : Stt Z) {n0 : Nat} {h0 : Heap} {a b s : Addr} {cs ds : List Int32} {cap : Nat} (S : Sb Z h0 a b cs cap) (F : Str Z h0 s ds) (hds : ∀ c ∈ ds, c.toInt < 256) (hfit : cs.length + ds.length ≤ cap) (O : Old Z n0 h0) :
    Con WD Z EL0 n0 (⟨"java/lang/AbstractStringBuilder", "putStringAt", "(ILjava/lang/String;)V"⟩ : MethodName) jdk_68_method_73_code 3 none (Rm 2 0 0 33) [(.ref a), (.int (natI cs.length)), (.ref s)] h0 [b] (fun v h gs => v = none ∧ gs = [] ∧ Exa Z h a "java/lang/StringBuilder" ∧ Fld Z h a "java/lang/AbstractStringBuilder" "value" "[B" (.ref b) ∧ Fld Z h a "java/lang/AbstractStringBuilder" "count" "I" (.int (natI cs.length)) ∧ Fld Z h a "java/lang/AbstractStringBuilder" "coder" "B" (.int 0) ∧ ∃ rest, ByA Z h b (lat (cs ++ ds) ++ rest) ∧ (cs ++ ds).length + rest.length = cap) := by
  refine Con.of (a0 := a0) (by first | (exact plainFor_of_name (by first | (simp [plainName, overriddenIn]; done) | decide +kernel)) | decide +kernel) (hEL hw) hWE O (L0 := #[.val (.ref a), .val (.int (natI cs.length)), .val (.ref s)]) (fun m => by first | rfl | (simp [entryFrame, mkF, argsToLocals, Value.category]; done)) ?_
  intro K C hh
  obtain ⟨E', hc1, hl1, c, z, vs, Fv, Fc, A, Bt⟩ := F
  obtain ⟨rfl, rfl⟩ : z = 0 ∧ vs = lat ds := by rcases Bt with ⟨-, p, q⟩ | ⟨⟨c, hc, p⟩, -⟩; exact ⟨p, q⟩; exact absurd (hds c hc) (by omega)
  obtain ⟨E, V, Nc, Cd, ⟨rest, B, hl⟩, hcs, hcap⟩ := S
  have hvl : (lat cs ++ rest).length = cap := by rw [List.length_append, lat_len]; omega
  refine Own.aloadN C d18_0 rfl rfl ?_
  refine Own.aloadN C d18_1 rfl rfl ?_
  refine callP_ C (as' := [(.ref s)]) (st := []) (hw _ (List.mem_of_getElem? (i := 112) rfl)) (hw _ (List.mem_of_getElem? (i := 113) rfl)) (hw _ (List.mem_of_getElem? (i := 115) rfl)) (hw _ (List.mem_of_getElem? (i := 114) rfl)) (hw _ (List.mem_of_getElem? (i := 43) rfl)) (hw _ (List.mem_of_getElem? (i := 116) rfl)) ⟨by decide, by decide⟩ E pd__28Ljava_2flang_2fString_3b_29V rfl (fun O => k_inflateIf hw hs Cd E' Fc O) (fun _ q => nomatch q) rfl (dle rfl) (dle rfl) (dle rfl) (dle rfl) d18_2 rfl (fun v1 hp1 gs1 K1 Q1 => ?_)
  obtain ⟨rfl, rfl⟩ := Q1
  show Go _ K Z _ n0 _ _ 5 #[.val (.ref a), .val (.int (natI cs.length)), .val (.ref s)] [] hp1 _ _ _
  refine Own.aloadN C d18_5 rfl rfl ?_
  refine Own.aloadN C d18_6 rfl rfl ?_
  refine getF_ C (hw _ (List.mem_of_getElem? (i := 47) rfl)) (V.keep K1 nin0) d18_7 ?_
  refine Own.iloadN C d18_10 rfl ?_
  refine Own.aloadN C d18_11 rfl rfl ?_
  refine getF_ C (hw _ (List.mem_of_getElem? (i := 49) rfl)) (Cd.keep K1 nin0) d18_12 ?_
  refine callV_ C (as' := [(.ref b), (.int (natI cs.length)), (.int (0 : Int32))]) (st := []) (hw _ (List.mem_of_getElem? (i := 118) rfl)) (hw _ (List.mem_of_getElem? (i := 119) rfl)) (fun _ hZ => notFace_of_selects (args := #[]) (mvT hZ (hw _ (List.mem_of_getElem? (i := 121) rfl)))) (hw _ (List.mem_of_getElem? (i := 121) rfl)) (hw _ (List.mem_of_getElem? (i := 120) rfl)) (hw _ (List.mem_of_getElem? (i := 3) rfl)) (hw _ (List.mem_of_getElem? (i := 122) rfl)) ⟨by decide, by decide⟩ (E'.keep K1) pd__28_5bBIB_29V rfl (fun O => k_getBytes hw hs (E'.keep K1) (Fc.keep K1 nin0) (Fv.keep K1 nin0) (A.keep K1 nin0) (B.keep K1 nin0) hl1 (by rw [hvl]; omega) (by rw [hvl]; omega) O) (by simp) rfl (dle rfl) (dle rfl) (dle rfl) (dle rfl) d18_15 rfl (fun v2 hp2 gs2 K2 Q2 => ?_)
  obtain ⟨rfl, rfl, Bx2⟩ := Q2
  show Go _ K Z _ n0 _ _ 18 #[.val (.ref a), .val (.int (natI cs.length)), .val (.ref s)] [] hp2 _ _ _
  rw [over_end (by omega)] at Bx2
  have hba : a ∉ [b] := ninS (fun e => absurd (ne_exa E B.2.1 (by decide)) (fun z => z e)) nin0
  exact retV C (gs := []) d18_18 (dle rfl) (dle rfl) (fun _ q => nomatch q) ⟨rfl, rfl, (E.keep K1).keep K2, (V.keep K1 nin0).keep K2 hba, (Nc.keep K1 nin0).keep K2 hba, (Cd.keep K1 nin0).keep K2 hba, rest.drop ds.length, Bx2, by rw [List.length_append, List.length_drop]; omega⟩
set_option maxRecDepth 65536 in
set_option maxHeartbeats 4000000 in
theorem k_asbapp {Z : State} {a0 : Array Value} (hw : ∀ d ∈ tables_1, d.before a0 Z = true) (hs : Stt Z) {n0 : Nat} {h0 : Heap} {a b s : Addr} {cs ds : List Int32} {cap N : Nat} (S : Sb Z h0 a b cs cap) (F : Str Z h0 s ds) (hds : ∀ c ∈ ds, c.toInt < 256) (hsa : NotIn Z h0 s a) (hsb : NotIn Z h0 s b) (hN : cs.length + ds.length ≤ N ∧ 2 * cap + 2 ≤ N ∧ N ≤ 4096) (hc1 : 1 ≤ cap) (O : Old Z n0 h0) :
    Con WD Z EL0 n0 (⟨"java/lang/AbstractStringBuilder", "append", "(Ljava/lang/String;)Ljava/lang/AbstractStringBuilder;"⟩ : MethodName) jdk_68_method_22_code 3 (some (.object "java/lang/AbstractStringBuilder")) (Rm 4 1 (0 + 1 * N) 62) [(.ref a), (.ref s)] h0 [a, b] (fun v h gs => v = some (.ref a) ∧ ∃ (b' : Addr) (cap' : Nat), gs = [b'] ∧ Sb Z h a b' (cs ++ ds) cap' ∧ (cap' = cap ∨ cap' = cap + max (cs.length + ds.length - cap) (cap + 2))) := by
  refine Con.of (a0 := a0) (by first | (exact plainFor_of_name (by first | (simp [plainName, overriddenIn]; done) | decide +kernel)) | decide +kernel) (hEL hw) hWE O (L0 := #[.val (.ref a), .val (.ref s), .unset]) (fun m => by first | rfl | (simp [entryFrame, mkF, argsToLocals, Value.category]; done)) ?_
  intro K C hh
  have lF := F.2.2.1
  have hle := S.le
  have hvc := slot_ne (Or.inl (hw _ (List.mem_of_getElem? (i := 48) rfl)) : Laid Z a0 "java/lang/StringBuilder" "java/lang/AbstractStringBuilder" "value" "[B") (Or.inl (hw _ (List.mem_of_getElem? (i := 50) rfl)) : Laid Z a0 "java/lang/StringBuilder" "java/lang/AbstractStringBuilder" "coder" "B") (by decide) (t := .array .byte) (t' := .byte) (by decide) (by decide)
  have hvn := slot_ne (Or.inl (hw _ (List.mem_of_getElem? (i := 48) rfl)) : Laid Z a0 "java/lang/StringBuilder" "java/lang/AbstractStringBuilder" "value" "[B") (Or.inl (hw _ (List.mem_of_getElem? (i := 75) rfl)) : Laid Z a0 "java/lang/StringBuilder" "java/lang/AbstractStringBuilder" "count" "I") (by decide) (t := .array .byte) (t' := .int) (by decide) (by decide)
  have hcn := slot_ne (Or.inl (hw _ (List.mem_of_getElem? (i := 50) rfl)) : Laid Z a0 "java/lang/StringBuilder" "java/lang/AbstractStringBuilder" "coder" "B") (Or.inl (hw _ (List.mem_of_getElem? (i := 75) rfl)) : Laid Z a0 "java/lang/StringBuilder" "java/lang/AbstractStringBuilder" "count" "I") (by decide) (t := .byte) (t' := .int) (by decide) (by decide)
  refine Own.aloadN C d9_0 rfl rfl ?_
  refine ifnonnullY C d9_1 ?_
  refine Own.aloadN C d9_9 rfl rfl ?_
  refine callV_ C (as' := []) (st := []) (hw _ (List.mem_of_getElem? (i := 64) rfl)) (hw _ (List.mem_of_getElem? (i := 65) rfl)) (fun _ hZ => notFace_of_selects (args := #[]) (mvT hZ (hw _ (List.mem_of_getElem? (i := 67) rfl)))) (hw _ (List.mem_of_getElem? (i := 67) rfl)) (hw _ (List.mem_of_getElem? (i := 66) rfl)) (hw _ (List.mem_of_getElem? (i := 3) rfl)) (hw _ (List.mem_of_getElem? (i := 68) rfl)) ⟨by decide, by decide⟩ F.1 pd__28_29I rfl (fun O => k_length hw hs F O) (fun _ q => nomatch q) rfl (dle rfl) (dle rfl) (dle rfl) (by omega) d9_10 rfl (fun v1 hp1 gs1 K1 Q1 => ?_)
  obtain ⟨rfl, rfl⟩ := Q1
  show Go _ K Z _ n0 _ _ 13 #[.val (.ref a), .val (.ref s), .unset] [(.int (natI ds.length))] hp1 _ _ _
  have Sx1 := S.keep K1 nin0 nin0
  have Fx1 := F.keep K1
  refine Own.istoreN (L' := #[.val (.ref a), .val (.ref s), .val (.int (natI ds.length))]) C d9_13 rfl ?_
  refine Own.aloadN C d9_14 rfl rfl ?_
  refine Own.aloadN C d9_15 rfl rfl ?_
  refine getF_ C (hw _ (List.mem_of_getElem? (i := 74) rfl)) Sx1.2.2.1 d9_16 ?_
  refine Own.iloadN C d9_19 rfl ?_
  refine Own.iadd C d9_20 ?_
  rw [natI_plus (by omega)]
  show Go _ K Z _ n0 _ _ 21 #[.val (.ref a), .val (.ref s), .val (.int (natI ds.length))] [(.int (natI (cs.length + ds.length))), (.ref a)] hp1 _ _ _
  refine callP_ C (as' := [(.int (natI (cs.length + ds.length)))]) (st := []) (hw _ (List.mem_of_getElem? (i := 76) rfl)) (hw _ (List.mem_of_getElem? (i := 77) rfl)) (hw _ (List.mem_of_getElem? (i := 79) rfl)) (hw _ (List.mem_of_getElem? (i := 78) rfl)) (hw _ (List.mem_of_getElem? (i := 43) rfl)) (hw _ (List.mem_of_getElem? (i := 80) rfl)) ⟨by decide, by decide⟩ Sx1.1 pd__28I_29V rfl (fun O => k_ensure (N := N) hw hs Sx1 (by omega) ⟨by omega, by omega, by omega⟩ (by omega) O) (by simp) rfl (dle rfl) (dle rfl) (dle rfl) (by omega) d9_21 rfl (fun v2 hp2 gs2 K2 Q2 => ?_)
  obtain ⟨rfl, b', cap', rfl, Sx2, hm2, hcap2⟩ := Q2
  show Go _ K Z _ n0 _ _ 24 #[.val (.ref a), .val (.ref s), .val (.int (natI ds.length))] [] hp2 _ _ _
  have Fx2 : Str Z hp2 s ds := Fx1.keep2 K2 (hsa.keep F K1) (hsb.keep F K1)
  refine Own.aloadN C d9_24 rfl rfl ?_
  refine Own.aloadN C d9_25 rfl rfl ?_
  refine getF_ C (hw _ (List.mem_of_getElem? (i := 74) rfl)) Sx2.2.2.1 d9_26 ?_
  refine Own.aloadN C d9_29 rfl rfl ?_
  refine callP_ C (as' := [(.int (natI cs.length)), (.ref s)]) (st := []) (hw _ (List.mem_of_getElem? (i := 107) rfl)) (hw _ (List.mem_of_getElem? (i := 108) rfl)) (hw _ (List.mem_of_getElem? (i := 110) rfl)) (hw _ (List.mem_of_getElem? (i := 109) rfl)) (hw _ (List.mem_of_getElem? (i := 43) rfl)) (hw _ (List.mem_of_getElem? (i := 111) rfl)) ⟨by decide, by decide⟩ Sx2.1 pd__28ILjava_2flang_2fString_3b_29V rfl (fun O => k_putString hw hs Sx2 Fx2 hds (by omega) O) (by simp) rfl (dle rfl) (dle rfl) (dle rfl) (by omega) d9_30 rfl (fun v3 hp3 gs3 K3 Q3 => ?_)
  obtain ⟨rfl, rfl, Ex3, Vx3, Nx3, Cx3, r3, Bx3, hl3⟩ := Q3
  show Go _ K Z _ n0 _ _ 33 #[.val (.ref a), .val (.ref s), .val (.int (natI ds.length))] [] hp3 _ _ _
  refine Own.aloadN C d9_33 rfl rfl ?_
  refine Own.dup C d9_34 rfl ?_
  refine getF_ C (hw _ (List.mem_of_getElem? (i := 74) rfl)) Nx3 d9_35 ?_
  refine Own.iloadN C d9_38 rfl ?_
  refine Own.iadd C d9_39 ?_
  rw [natI_plus (by omega)]
  show Go _ K Z _ n0 _ _ 40 #[.val (.ref a), .val (.ref s), .val (.int (natI ds.length))] [(.int (natI (cs.length + ds.length))), (.ref a)] hp3 _ _ _
  refine putF_ C (v' := .int (natI (cs.length + ds.length))) (ty := .int) (hw _ (List.mem_of_getElem? (i := 74) rfl)) Nx3 Ex3 (Or.inl (hw _ (List.mem_of_getElem? (i := 75) rfl))) (hw _ (List.mem_of_getElem? (i := 34) rfl)) (by decide) rfl rfl (by simp) d9_40 (fun hp4 W5 => ?_)
  refine Own.aloadN C d9_43 rfl rfl ?_
  have hba : b' ≠ a := fun e => ne_exa Bx3.2.1 Ex3 (by decide) e
  exact retA C (gs := [b']) rfl rfl d9_44 (dle rfl) (by omega) (by simp) ⟨rfl, b', cap', rfl, ⟨Ex3.wr W5, Vx3.other W5 (Or.inr hvn), by rw [List.length_append]; exact Nx3.same W5, Cx3.other W5 (Or.inr hcn), ⟨r3, Bx3.keep (Keep.of_wr W5) (ninS hba nin0), hl3⟩, fun c hc => by rcases List.mem_append.mp hc with z | z; exact S.2.2.2.2.2.1 c z; exact ⟨(F.2.1 c z).1, hds c z⟩, Sx2.le.2⟩, hcap2⟩
set_option maxRecDepth 65536 in
set_option maxHeartbeats 4000000 in
theorem k_append {Z : State} {a0 : Array Value} (hw : ∀ d ∈ tables_1, d.before a0 Z = true) (hs : Stt Z) {n0 : Nat} {h0 : Heap} {a b s : Addr} {cs ds : List Int32} {cap N : Nat} (S : Sb Z h0 a b cs cap) (F : Str Z h0 s ds) (hds : ∀ c ∈ ds, c.toInt < 256) (hsa : NotIn Z h0 s a) (hsb : NotIn Z h0 s b) (hN : cs.length + ds.length ≤ N ∧ 2 * cap + 2 ≤ N ∧ N ≤ 4096) (hc1 : 1 ≤ cap) (O : Old Z n0 h0) :
    Con WD Z EL0 n0 (⟨"java/lang/StringBuilder", "append", "(Ljava/lang/String;)Ljava/lang/StringBuilder;"⟩ : MethodName) jdk_67_method_7_code 2 (some (.object "java/lang/StringBuilder")) (Rm 5 1 (0 + 1 * N) 76) [(.ref a), (.ref s)] h0 [a, b] (fun v h gs => v = some (.ref a) ∧ ∃ (b' : Addr) (cap' : Nat), gs = [b'] ∧ Sb Z h a b' (cs ++ ds) cap' ∧ (cap' = cap ∨ cap' = cap + max (cs.length + ds.length - cap) (cap + 2))) := by
  refine Con.of (a0 := a0) (by first | (exact plainFor_of_name (by first | (simp [plainName, overriddenIn]; done) | decide +kernel)) | decide +kernel) (hEL hw) hWE O (L0 := #[.val (.ref a), .val (.ref s)]) (fun m => by first | rfl | (simp [entryFrame, mkF, argsToLocals, Value.category]; done)) ?_
  intro K C hh
  refine Own.aloadN C d8_0 rfl rfl ?_
  refine Own.aloadN C d8_1 rfl rfl ?_
  refine callU_ C (as' := [(.ref s)]) (st := []) (hw _ (List.mem_of_getElem? (i := 59) rfl)) (same_of (x := ⟨"java/lang/AbstractStringBuilder", "ensureCapacityInternal", "(I)V"⟩) rfl (hw _ (List.mem_of_getElem? (i := 62) rfl)) (hw _ (List.mem_of_getElem? (i := 79) rfl)) ⟨by decide, by decide⟩) (hw _ (List.mem_of_getElem? (i := 60) rfl)) (hw _ (List.mem_of_getElem? (i := 61) rfl)) (by decide) (hw _ (List.mem_of_getElem? (i := 43) rfl)) (hw _ (List.mem_of_getElem? (i := 63) rfl)) S.1 pd__28Ljava_2flang_2fString_3b_29Ljava_2flang_2fAbstractStringBuilder_3b rfl (fun O => k_asbapp (N := N) hw hs S F hds hsa hsb hN hc1 O) (by simp) rfl (dle rfl) (dle rfl) (dle rfl) (by omega) d8_2 rfl (fun v1 hp1 gs1 K1 Q1 => ?_)
  obtain ⟨rfl, b', cap', rfl, Sx2, hc2⟩ := Q1
  show Go _ K Z _ n0 _ _ 5 #[.val (.ref a), .val (.ref s)] [(.ref a)] hp1 _ _ _
  refine Own.pop C d8_5 rfl ?_
  refine Own.aloadN C d8_6 rfl rfl ?_
  exact retA C (gs := [b']) rfl rfl d8_7 (dle rfl) (by omega) (by simp) ⟨rfl, b', cap', rfl, Sx2, hc2⟩
set_option maxRecDepth 65536 in
set_option maxHeartbeats 4000000 in
theorem k_checkLength {Z : State} {a0 : Array Value} (hw : ∀ d ∈ tables_1, d.before a0 Z = true) (hs : Stt Z) {n0 : Nat} {h0 : Heap} {f t : Nat} (h : f ≤ t ∧ t ≤ 100000) (O : Old Z n0 h0) :
    Con WD Z EL0 n0 (⟨"java/util/Arrays", "checkLength", "(II)V"⟩ : MethodName) jdk_65_method_131_code 2 none (Rm 0 0 0 0) [(.int (natI f)), (.int (natI t))] h0 [] (fun v h gs => v = none ∧ gs = []) := by
  refine Con.of (a0 := a0) (by first | (exact plainFor_of_name (by first | (simp [plainName, overriddenIn]; done) | decide +kernel)) | decide +kernel) (hEL hw) hWE O (L0 := #[.val (.int (natI f)), .val (.int (natI t))]) (fun m => by first | rfl | (simp [entryFrame, mkF, argsToLocals, Value.category]; done)) ?_
  intro K C hh
  have e1 := natI_lt (i := t) (j := f) (by omega) (by omega)
  refine Own.iloadN C d30_0 rfl ?_
  refine Own.iloadN C d30_1 rfl ?_
  refine icmp_ge C d30_2 (fun q1 => ?_) (fun q1 => ?_)
  · exact retV C (gs := []) d30_37 (dle rfl) (dle rfl) (fun _ q => nomatch q) ⟨rfl, rfl⟩
  · rw [e1] at q1
    omega
set_option maxRecDepth 65536 in
set_option maxHeartbeats 4000000 in
theorem k_corb {Z : State} {a0 : Array Value} (hw : ∀ d ∈ tables_1, d.before a0 Z = true) (hs : Stt Z) {n0 : Nat} {h0 : Heap} {b : Addr} {vs : List Value} {f t N : Nat} (hft : f ≤ t ∧ t ≤ vs.length ∧ vs.length ≤ 10000 ∧ t - f ≤ N ∧ N ≤ 10000) (A : Ary Z h0 b .byte vs) (hfit : ∀ v ∈ vs, fits .byte v = true) (O : Old Z n0 h0) :
    Con WD Z EL0 n0 (⟨"java/util/Arrays", "copyOfRangeByte", "([BII)[B"⟩ : MethodName) jdk_65_method_133_code 5 (some (.array .byte)) (Rm 1 1 (0 + 1 * N) 18) [(.ref b), (.int (natI f)), (.int (natI t))] h0 [] (fun v h gs => ∃ c : Addr, v = some (.ref c) ∧ gs = [c] ∧ h0.size ≤ c ∧ ByA Z h c ((vs.drop f).take (t - f))) := by
  refine Con.of (a0 := a0) (by first | (exact plainFor_of_name (by first | (simp [plainName, overriddenIn]; done) | decide +kernel)) | decide +kernel) (hEL hw) hWE O (L0 := #[.val (.ref b), .val (.int (natI f)), .val (.int (natI t)), .unset, .unset]) (fun m => by first | rfl | (simp [entryFrame, mkF, argsToLocals, Value.category]; done)) ?_
  intro K C hh
  have ev := natI_toInt (i := vs.length) (by omega)
  have ef := natI_toInt (i := f) (by omega)
  have em := natI_toInt (i := t - f) (by omega)
  have e3 : (natI (t - f)).toNatClampNeg = t - f := natI_clamp (by omega)
  refine Own.iloadN C d29_0 rfl ?_
  refine Own.iloadN C d29_1 rfl ?_
  refine callS_ C (as := [(.int (natI f)), (.int (natI t))]) (st := []) (hw _ (List.mem_of_getElem? (i := 160) rfl)) (hw _ (List.mem_of_getElem? (i := 161) rfl)) (hw _ (List.mem_of_getElem? (i := 98) rfl)) (hw _ (List.mem_of_getElem? (i := 162) rfl)) ⟨by decide, by decide⟩ pd__28II_29V rfl (fun O => k_checkLength hw hs (f := f) (t := t) ⟨by omega, by omega⟩ O) (fun _ q => nomatch q) rfl (dle rfl) (dle rfl) (dle rfl) (by omega) d29_2 rfl (fun v1 hp1 gs1 K1 Q1 => ?_)
  obtain ⟨rfl, rfl⟩ := Q1
  show Go _ K Z _ n0 _ _ 5 #[.val (.ref b), .val (.int (natI f)), .val (.int (natI t)), .unset, .unset] [] hp1 _ _ _
  have Ax1 := A.keep K1 nin0
  refine Own.iloadN C d29_5 rfl ?_
  refine Own.iloadN C d29_6 rfl ?_
  refine Own.isub C d29_7 ?_
  rw [natI_sub (by omega) (by omega)]
  show Go _ K Z _ n0 _ _ 8 #[.val (.ref b), .val (.int (natI f)), .val (.int (natI t)), .unset, .unset] [(.int (natI (t - f)))] hp1 _ _ _
  refine Own.istoreN (L' := #[.val (.ref b), .val (.int (natI f)), .val (.int (natI t)), .val (.int (natI (t - f))), .unset]) C d29_8 rfl ?_
  refine Own.iloadN C d29_9 rfl ?_
  refine newarrB C (hw _ (List.mem_of_getElem? (i := 15) rfl)) (by rw [lt32, em]; exact Int.not_lt.mpr (Int.natCast_nonneg _)) N (by rw [e3]; omega) (by omega) (dle rfl) (by omega) d29_10 (fun hp2 K2 lt2 le2 A2 => ?_)
  obtain ⟨c, g2⟩ : ∃ z, z = hp1.size := ⟨_, rfl⟩
  rw [← g2] at A2 lt2 le2 ⊢
  rw [e3] at A2
  have Ax2 := Ax1.keep K2 nin0
  refine Own.astore (L' := #[.val (.ref b), .val (.int (natI f)), .val (.int (natI t)), .val (.int (natI (t - f))), .val (.ref c)]) C d29_12 rfl rfl ?_
  refine Own.aloadN C d29_14 rfl rfl ?_
  refine Own.iloadN C d29_15 rfl ?_
  refine Own.aload C d29_16 rfl rfl ?_
  refine Own.iconst (v := 0) C d29_18 rfl ?_
  refine Own.aloadN C d29_19 rfl rfl ?_
  refine arrlen C Ax2 (z := (natI vs.length)) ev d29_20 ?_
  refine Own.iloadN C d29_21 rfl ?_
  refine Own.isub C d29_22 ?_
  rw [natI_sub (i := vs.length) (j := f) (by omega) (by omega)]
  show Go _ K Z _ n0 _ _ 23 #[.val (.ref b), .val (.int (natI f)), .val (.int (natI t)), .val (.int (natI (t - f))), .val (.ref c)] [(.int (natI (vs.length - f))), (.int (0 : Int32)), (.ref c), (.int (natI f)), (.ref b)] hp2 _ _ _
  refine Own.iloadN C d29_23 rfl ?_
  refine callS_ C (as := [(.int (natI (vs.length - f))), (.int (natI (t - f)))]) (st := [(.int (0 : Int32)), (.ref c), (.int (natI f)), (.ref b)]) (hw _ (List.mem_of_getElem? (i := 100) rfl)) (hw _ (List.mem_of_getElem? (i := 101) rfl)) (hw _ (List.mem_of_getElem? (i := 92) rfl)) (hw _ (List.mem_of_getElem? (i := 102) rfl)) ⟨by decide, by decide⟩ pd__28II_29I rfl (fun O => k_min hw hs (i := vs.length - f) (j := t - f) (by omega) (by omega) O) (fun _ q => nomatch q) rfl (dle rfl) (dle rfl) (dle rfl) (by omega) d29_24 rfl (fun v3 hp3 gs3 K3 Q3 => ?_)
  obtain ⟨rfl, rfl⟩ := Q3
  show Go _ K Z _ n0 _ _ 27 #[.val (.ref b), .val (.int (natI f)), .val (.int (natI t)), .val (.int (natI (t - f))), .val (.ref c)] [(.int (natI (min (vs.length - f) (t - f)))), (.int (0 : Int32)), (.ref c), (.int (natI f)), (.ref b)] hp3 _ _ _
  have Ax3 := Ax2.keep K3 nin0
  have Bx3 := A2.keep K3 nin0
  have emn : min (vs.length - f) (t - f) = t - f := by omega
  rw [emn]
  show Go _ K Z _ n0 _ _ 27 #[.val (.ref b), .val (.int (natI f)), .val (.int (natI t)), .val (.int (natI (t - f))), .val (.ref c)] [(.int (natI (t - f))), (.int (0 : Int32)), (.ref c), (.int (natI f)), (.ref b)] hp3 _ _ _
  refine acopy_ C (st := []) (hw _ (List.mem_of_getElem? (i := 103) rfl)) (hw _ (List.mem_of_getElem? (i := 106) rfl)) (hw _ (List.mem_of_getElem? (i := 104) rfl)) (hw _ (List.mem_of_getElem? (i := 105) rfl)) Ax3 Bx3.1 f 0 (t - f) ef rfl em (by omega) (by simp) (fun v hv => hfit v (List.mem_of_mem_drop (List.mem_of_mem_take hv))) (by simp) rfl (dle rfl) (dle rfl) d29_27 (fun hp4 K4 A4 => ?_)
  rw [over_sub _ (by omega)] at A4
  refine Own.aload C d29_30 rfl rfl ?_
  exact retA C (gs := [c]) rfl rfl d29_32 (dle rfl) (by omega) (by simp) ⟨c, rfl, rfl, (by have := K1.1; omega), A4, Bx3.2.1.keep K4, fun v hv => hfit v (List.mem_of_mem_drop (List.mem_of_mem_take hv))⟩
set_option maxRecDepth 65536 in
set_option maxHeartbeats 4000000 in
theorem k_corN {Z : State} {a0 : Array Value} (hw : ∀ d ∈ tables_1, d.before a0 Z = true) (hs : Stt Z) {n0 : Nat} {h0 : Heap} {b : Addr} {vs : List Value} {f t N : Nat} (hft : f ≤ t ∧ t ≤ vs.length ∧ vs.length ≤ 10000 ∧ t - f ≤ N ∧ N ≤ 10000) (A : Ary Z h0 b .byte vs) (hfit : ∀ v ∈ vs, fits .byte v = true) (hlt : t < vs.length ∨ 0 < f) (O : Old Z n0 h0) :
    Con WD Z EL0 n0 (⟨"java/util/Arrays", "copyOfRange", "([BII)[B"⟩ : MethodName) jdk_65_method_132_code 3 (some (.array .byte)) (Rm 2 1 (0 + 1 * N) 34) [(.ref b), (.int (natI f)), (.int (natI t))] h0 [] (fun v h gs => ∃ c : Addr, v = some (.ref c) ∧ gs = [c] ∧ h0.size ≤ c ∧ ByA Z h c ((vs.drop f).take (t - f))) := by
  refine Con.of (a0 := a0) (by first | (exact plainFor_of_name (by first | (simp [plainName, overriddenIn]; done) | decide +kernel)) | decide +kernel) (hEL hw) hWE O (L0 := #[.val (.ref b), .val (.int (natI f)), .val (.int (natI t))]) (fun m => by first | rfl | (simp [entryFrame, mkF, argsToLocals, Value.category]; done)) ?_
  intro K C hh
  have ev := natI_toInt (i := vs.length) (by omega)
  have ef := natI_toInt (i := f) (by omega)
  have z0 : (0 : Int32).toInt = 0 := rfl
  refine Own.iloadN C d28_0 rfl ?_
  refine if_ne C d28_1 (fun q1 => ?_) (fun q1 => ?_)
  · refine Own.aloadN C d28_10 rfl rfl ?_
    refine Own.iloadN C d28_11 rfl ?_
    refine Own.iloadN C d28_12 rfl ?_
    refine callS_ C (as := [(.ref b), (.int (natI f)), (.int (natI t))]) (st := []) (hw _ (List.mem_of_getElem? (i := 157) rfl)) (hw _ (List.mem_of_getElem? (i := 158) rfl)) (hw _ (List.mem_of_getElem? (i := 98) rfl)) (hw _ (List.mem_of_getElem? (i := 159) rfl)) ⟨by decide, by decide⟩ pd__28_5bBII_29_5bB rfl (fun O => k_corb (N := N) hw hs hft A hfit O) (fun _ q => nomatch q) rfl (dle rfl) (dle rfl) (dle rfl) (by omega) d28_13 rfl (fun v2 hp2 gs2 K2 Q2 => ?_)
    obtain ⟨c, rfl, rfl, hge, Bx1⟩ := Q2
    show Go _ K Z _ n0 _ _ 16 #[.val (.ref b), .val (.int (natI f)), .val (.int (natI t))] [(.ref c)] hp2 _ _ _
    exact retA C (gs := [c]) rfl rfl d28_16 (dle rfl) (by omega) (by simp) ⟨c, rfl, rfl, hge, Bx1⟩
  · have hf0 : f = 0 := by have := congrArg Int32.toInt q1; omega
    refine Own.iloadN C d28_4 rfl ?_
    refine Own.aloadN C d28_5 rfl rfl ?_
    refine arrlen C A (z := (natI vs.length)) ev d28_6 ?_
    refine icmp_eq C d28_7 (fun q3 => ?_) (fun q3 => ?_)
    · have ht : t = vs.length := (natI_inj (by omega) (by omega)).mp q3
      exact absurd ht (by omega)
    · refine Own.aloadN C d28_10 rfl rfl ?_
      refine Own.iloadN C d28_11 rfl ?_
      refine Own.iloadN C d28_12 rfl ?_
      refine callS_ C (as := [(.ref b), (.int (natI f)), (.int (natI t))]) (st := []) (hw _ (List.mem_of_getElem? (i := 157) rfl)) (hw _ (List.mem_of_getElem? (i := 158) rfl)) (hw _ (List.mem_of_getElem? (i := 98) rfl)) (hw _ (List.mem_of_getElem? (i := 159) rfl)) ⟨by decide, by decide⟩ pd__28_5bBII_29_5bB rfl (fun O => k_corb (N := N) hw hs hft A hfit O) (fun _ q => nomatch q) rfl (dle rfl) (dle rfl) (dle rfl) (by omega) d28_13 rfl (fun v4 hp4 gs4 K4 Q4 => ?_)
      obtain ⟨c, rfl, rfl, hge, Bx1⟩ := Q4
      show Go _ K Z _ n0 _ _ 16 #[.val (.ref b), .val (.int (natI f)), .val (.int (natI t))] [(.ref c)] hp4 _ _ _
      exact retA C (gs := [c]) rfl rfl d28_16 (dle rfl) (by omega) (by simp) ⟨c, rfl, rfl, hge, Bx1⟩
set_option maxRecDepth 65536 in
set_option maxHeartbeats 4000000 in
theorem k_cor {Z : State} {a0 : Array Value} (hw : ∀ d ∈ tables_1, d.before a0 Z = true) (hs : Stt Z) {n0 : Nat} {h0 : Heap} {b : Addr} {vs : List Value} {f t N : Nat} (hft : f ≤ t ∧ t ≤ vs.length ∧ vs.length ≤ 10000 ∧ t - f ≤ N ∧ N ≤ 10000) (A : ByA Z h0 b vs) (O : Old Z n0 h0) :
    Con WD Z EL0 n0 (⟨"java/util/Arrays", "copyOfRange", "([BII)[B"⟩ : MethodName) jdk_65_method_132_code 3 (some (.array .byte)) (Rm 2 1 (0 + 1 * N) 34) [(.ref b), (.int (natI f)), (.int (natI t))] h0 [] (fun v h gs => ∃ c : Addr, v = some (.ref c) ∧ gs = [c] ∧ h0.size ≤ c ∧ ByA Z h c ((vs.drop f).take (t - f))) := by
  refine Con.of (a0 := a0) (by first | (exact plainFor_of_name (by first | (simp [plainName, overriddenIn]; done) | decide +kernel)) | decide +kernel) (hEL hw) hWE O (L0 := #[.val (.ref b), .val (.int (natI f)), .val (.int (natI t))]) (fun m => by first | rfl | (simp [entryFrame, mkF, argsToLocals, Value.category]; done)) ?_
  intro K C hh
  have ev := natI_toInt (i := vs.length) (by omega)
  have ef := natI_toInt (i := f) (by omega)
  have z0 : (0 : Int32).toInt = 0 := rfl
  refine Own.iloadN C d28_0 rfl ?_
  refine if_ne C d28_1 (fun q1 => ?_) (fun q1 => ?_)
  · refine Own.aloadN C d28_10 rfl rfl ?_
    refine Own.iloadN C d28_11 rfl ?_
    refine Own.iloadN C d28_12 rfl ?_
    refine callS_ C (as := [(.ref b), (.int (natI f)), (.int (natI t))]) (st := []) (hw _ (List.mem_of_getElem? (i := 157) rfl)) (hw _ (List.mem_of_getElem? (i := 158) rfl)) (hw _ (List.mem_of_getElem? (i := 98) rfl)) (hw _ (List.mem_of_getElem? (i := 159) rfl)) ⟨by decide, by decide⟩ pd__28_5bBII_29_5bB rfl (fun O => k_corb (N := N) hw hs hft A.1 A.2.2 O) (fun _ q => nomatch q) rfl (dle rfl) (dle rfl) (dle rfl) (by omega) d28_13 rfl (fun v2 hp2 gs2 K2 Q2 => ?_)
    obtain ⟨c, rfl, rfl, hge, Bx1⟩ := Q2
    show Go _ K Z _ n0 _ _ 16 #[.val (.ref b), .val (.int (natI f)), .val (.int (natI t))] [(.ref c)] hp2 _ _ _
    exact retA C (gs := [c]) rfl rfl d28_16 (dle rfl) (by omega) (by simp) ⟨c, rfl, rfl, hge, Bx1⟩
  · have hf0 : f = 0 := by have := congrArg Int32.toInt q1; omega
    refine Own.iloadN C d28_4 rfl ?_
    refine Own.aloadN C d28_5 rfl rfl ?_
    refine arrlen C A.1 (z := (natI vs.length)) ev d28_6 ?_
    refine icmp_eq C d28_7 (fun q3 => ?_) (fun q3 => ?_)
    · have ht : t = vs.length := (natI_inj (by omega) (by omega)).mp q3
      refine Own.aloadN C d28_17 rfl rfl ?_
      refine cloneB_ C (st := []) (hw _ (List.mem_of_getElem? (i := 229) rfl)) (hw _ (List.mem_of_getElem? (i := 230) rfl)) (hw _ (List.mem_of_getElem? (i := 234) rfl)) (hw _ (List.mem_of_getElem? (i := 232) rfl)) (hw _ (List.mem_of_getElem? (i := 233) rfl)) (hw _ (List.mem_of_getElem? (i := 235) rfl)) A rfl (dle rfl) (dle rfl) N (by omega) (dle rfl) (by omega) d28_18 (fun hp4 K4 lt4 le4 A4 => ?_)
      obtain ⟨c, g4⟩ : ∃ z, z = h0.size := ⟨_, rfl⟩
      rw [← g4] at A4 lt4 le4 ⊢
      refine cast_ C (hw _ (List.mem_of_getElem? (i := 236) rfl)) (Ins.self A4.2.1) d28_21 ?_
      exact retA C (gs := [c]) rfl rfl d28_24 (dle rfl) (by omega) (by simp) ⟨c, rfl, rfl, by omega, by rw [hf0, ht, List.drop_zero, Nat.sub_zero, List.take_length]; exact A4⟩
    · refine Own.aloadN C d28_10 rfl rfl ?_
      refine Own.iloadN C d28_11 rfl ?_
      refine Own.iloadN C d28_12 rfl ?_
      refine callS_ C (as := [(.ref b), (.int (natI f)), (.int (natI t))]) (st := []) (hw _ (List.mem_of_getElem? (i := 157) rfl)) (hw _ (List.mem_of_getElem? (i := 158) rfl)) (hw _ (List.mem_of_getElem? (i := 98) rfl)) (hw _ (List.mem_of_getElem? (i := 159) rfl)) ⟨by decide, by decide⟩ pd__28_5bBII_29_5bB rfl (fun O => k_corb (N := N) hw hs hft A.1 A.2.2 O) (fun _ q => nomatch q) rfl (dle rfl) (dle rfl) (dle rfl) (by omega) d28_13 rfl (fun v5 hp5 gs5 K5 Q5 => ?_)
      obtain ⟨c, rfl, rfl, hge, Bx1⟩ := Q5
      show Go _ K Z _ n0 _ _ 16 #[.val (.ref b), .val (.int (natI f)), .val (.int (natI t))] [(.ref c)] hp5 _ _ _
      exact retA C (gs := [c]) rfl rfl d28_16 (dle rfl) (by omega) (by simp) ⟨c, rfl, rfl, hge, Bx1⟩
set_option maxRecDepth 65536 in
set_option maxHeartbeats 4000000 in
theorem k_getValue {Z : State} {a0 : Array Value} (hw : ∀ d ∈ tables_1, d.before a0 Z = true) (hs : Stt Z) {n0 : Nat} {h0 : Heap} {a b : Addr} {cs : List Int32} {cap : Nat} (S : Sb Z h0 a b cs cap) (O : Old Z n0 h0) :
    Con WD Z EL0 n0 (⟨"java/lang/AbstractStringBuilder", "getValue", "()[B"⟩ : MethodName) jdk_68_method_64_code 1 (some (.array .byte)) (Rm 0 0 0 0) [(.ref a)] h0 [] (fun v h gs => v = some (.ref b) ∧ gs = []) := by
  refine Con.of (a0 := a0) (by first | (exact plainFor_of_name (by first | (simp [plainName, overriddenIn]; done) | decide +kernel)) | decide +kernel) (hEL hw) hWE O (L0 := #[.val (.ref a)]) (fun m => by first | rfl | (simp [entryFrame, mkF, argsToLocals, Value.category]; done)) ?_
  intro K C hh
  refine Own.aloadN C d24_0 rfl rfl ?_
  refine getF_ C (hw _ (List.mem_of_getElem? (i := 47) rfl)) S.2.1 d24_1 ?_
  exact retA C (gs := []) rfl rfl d24_4 (dle rfl) (dle rfl) (fun _ q => nomatch q) ⟨rfl, rfl⟩
set_option maxRecDepth 65536 in
set_option maxHeartbeats 4000000 in
theorem k_asblen {Z : State} {a0 : Array Value} (hw : ∀ d ∈ tables_1, d.before a0 Z = true) (hs : Stt Z) {n0 : Nat} {h0 : Heap} {a b : Addr} {cs : List Int32} {cap : Nat} (S : Sb Z h0 a b cs cap) (O : Old Z n0 h0) :
    Con WD Z EL0 n0 (⟨"java/lang/AbstractStringBuilder", "length", "()I"⟩ : MethodName) jdk_68_method_6_code 1 (some .int) (Rm 0 0 0 0) [(.ref a)] h0 [] (fun v h gs => v = some (.int (natI cs.length)) ∧ gs = []) := by
  refine Con.of (a0 := a0) (by first | (exact plainFor_of_name (by first | (simp [plainName, overriddenIn]; done) | decide +kernel)) | decide +kernel) (hEL hw) hWE O (L0 := #[.val (.ref a)]) (fun m => by first | rfl | (simp [entryFrame, mkF, argsToLocals, Value.category]; done)) ?_
  intro K C hh
  refine Own.aloadN C d26_0 rfl rfl ?_
  refine getF_ C (hw _ (List.mem_of_getElem? (i := 74) rfl)) S.2.2.1 d26_1 ?_
  exact retI_ C (gs := []) d26_4 (dle rfl) (dle rfl) (fun _ q => nomatch q) ⟨rfl, rfl⟩
set_option maxRecDepth 65536 in
set_option maxHeartbeats 4000000 in
theorem k_sblen {Z : State} {a0 : Array Value} (hw : ∀ d ∈ tables_1, d.before a0 Z = true) (hs : Stt Z) {n0 : Nat} {h0 : Heap} {a b : Addr} {cs : List Int32} {cap : Nat} (S : Sb Z h0 a b cs cap) (O : Old Z n0 h0) :
    Con WD Z EL0 n0 (⟨"java/lang/StringBuilder", "length", "()I"⟩ : MethodName) jdk_67_method_93_code 1 (some .int) (Rm 1 0 0 12) [(.ref a)] h0 [] (fun v h gs => v = some (.int (natI cs.length)) ∧ gs = []) := by
  refine Con.of (a0 := a0) (by first | (exact plainFor_of_name (by first | (simp [plainName, overriddenIn]; done) | decide +kernel)) | decide +kernel) (hEL hw) hWE O (L0 := #[.val (.ref a)]) (fun m => by first | rfl | (simp [entryFrame, mkF, argsToLocals, Value.category]; done)) ?_
  intro K C hh
  refine Own.aloadN C d25_0 rfl rfl ?_
  refine callU_ C (as' := []) (st := []) (hw _ (List.mem_of_getElem? (i := 147) rfl)) (same_of (x := ⟨"java/lang/AbstractStringBuilder", "ensureCapacityInternal", "(I)V"⟩) rfl (hw _ (List.mem_of_getElem? (i := 142) rfl)) (hw _ (List.mem_of_getElem? (i := 79) rfl)) ⟨by decide, by decide⟩) (hw _ (List.mem_of_getElem? (i := 143) rfl)) (hw _ (List.mem_of_getElem? (i := 61) rfl)) (by decide) (hw _ (List.mem_of_getElem? (i := 43) rfl)) (hw _ (List.mem_of_getElem? (i := 148) rfl)) S.1 pd__28_29I rfl (fun O => k_asblen hw hs S O) (fun _ q => nomatch q) rfl (dle rfl) (dle rfl) (dle rfl) (dle rfl) d25_1 rfl (fun v1 hp1 gs1 K1 Q1 => ?_)
  obtain ⟨rfl, rfl⟩ := Q1
  show Go _ K Z _ n0 _ _ 4 #[.val (.ref a)] [(.int (natI cs.length))] hp1 _ _ _
  exact retI_ C (gs := []) d25_4 (dle rfl) (dle rfl) (fun _ q => nomatch q) ⟨rfl, rfl⟩
set_option maxRecDepth 65536 in
set_option maxHeartbeats 4000000 in
theorem k_asblat {Z : State} {a0 : Array Value} (hw : ∀ d ∈ tables_1, d.before a0 Z = true) (hs : Stt Z) {n0 : Nat} {h0 : Heap} {a b : Addr} {cs : List Int32} {cap : Nat} (S : Sb Z h0 a b cs cap) (O : Old Z n0 h0) :
    Con WD Z EL0 n0 (⟨"java/lang/AbstractStringBuilder", "isLatin1", "()Z"⟩ : MethodName) jdk_68_method_68_code 1 (some .boolean) (Rm 0 0 0 0) [(.ref a)] h0 [] (fun v h gs => v = some (.int 1) ∧ gs = []) := by
  refine Con.of (a0 := a0) (by first | (exact plainFor_of_name (by first | (simp [plainName, overriddenIn]; done) | decide +kernel)) | decide +kernel) (hEL hw) hWE O (L0 := #[.val (.ref a)]) (fun m => by first | rfl | (simp [entryFrame, mkF, argsToLocals, Value.category]; done)) ?_
  intro K C hh
  obtain ⟨cv, hcv, Sc⟩ := st_c hs
  refine getS_ C (hw _ (List.mem_of_getElem? (i := 46) rfl)) Sc d27_0 ?_
  refine if_eq C d27_3 (fun q1 => ?_) (fun q1 => ?_)
  · exact absurd q1 hcv
  · refine Own.aloadN C d27_6 rfl rfl ?_
    refine getF_ C (hw _ (List.mem_of_getElem? (i := 49) rfl)) S.2.2.2.1 d27_7 ?_
    refine if_ne C d27_10 (fun q2 => ?_) (fun q2 => ?_)
    · exact absurd rfl q2
    · refine Own.iconst (v := 1) C d27_13 rfl ?_
      refine Own.goto_ C d27_14 ?_
      exact retZ C (gs := []) d27_18 (dle rfl) (dle rfl) (fun _ q => nomatch q) ⟨rfl, rfl⟩
set_option maxRecDepth 65536 in
set_option maxHeartbeats 4000000 in
theorem k_initAsb {Z : State} {a0 : Array Value} (hw : ∀ d ∈ tables_1, d.before a0 Z = true) (hs : Stt Z) {n0 : Nat} {h0 : Heap} {s a b : Addr} {cs : List Int32} {cap N : Nat} (S : Sb Z h0 a b cs cap) (hN : cs.length ≤ N ∧ N ≤ 4096) {u1 u2 : Value} (E : Exa Z h0 s "java/lang/String") (Fv : Fld Z h0 s "java/lang/String" "value" "[B" u1) (Fc : Fld Z h0 s "java/lang/String" "coder" "B" u2) (O : Old Z n0 h0) :
    Con WD Z EL0 n0 (⟨"java/lang/String", "<init>", "(Ljava/lang/AbstractStringBuilder;Ljava/lang/Void;)V"⟩ : MethodName) jdk_42_method_150_code 5 none (Rm 3 1 (0 + 1 * N) 49) [(.ref s), (.ref a), .null] h0 [s] (fun v h gs => v = none ∧ gs = [] ∧ Str Z h s cs) := by
  refine Con.of (a0 := a0) (by first | (exact plainFor_of_name (by first | (simp [plainName, overriddenIn]; done) | decide +kernel)) | decide +kernel) (hEL hw) hWE O (L0 := #[.val (.ref s), .val (.ref a), .val .null, .unset, .unset]) (fun m => by first | rfl | (simp [entryFrame, mkF, argsToLocals, Value.category]; done)) ?_
  intro K C hh
  have hne := slot_ne (Or.inr (hw _ (List.mem_of_getElem? (i := 24) rfl)) : Laid Z a0 "java/lang/String" "java/lang/String" "value" "[B") (Or.inr (hw _ (List.mem_of_getElem? (i := 26) rfl)) : Laid Z a0 "java/lang/String" "java/lang/String" "coder" "B") (by decide) (t := .array .byte) (t' := .byte) (by decide) (by decide)
  have hle := S.le
  refine Own.aloadN C d23_0 rfl rfl ?_
  refine initO_ C (hw _ (List.mem_of_getElem? (i := 20) rfl)) (hw _ (List.mem_of_getElem? (i := 21) rfl)) (hw _ (List.mem_of_getElem? (i := 22) rfl)) rfl (dle rfl) (dle rfl) d23_1 ?_
  refine Own.aloadN C d23_4 rfl rfl ?_
  refine callV_ C (as' := []) (st := []) (hw _ (List.mem_of_getElem? (i := 136) rfl)) (hw _ (List.mem_of_getElem? (i := 137) rfl)) (fun _ hZ => notFace_of_selects (args := #[]) (mvT hZ (hw _ (List.mem_of_getElem? (i := 139) rfl)))) (hw _ (List.mem_of_getElem? (i := 139) rfl)) (hw _ (List.mem_of_getElem? (i := 138) rfl)) (hw _ (List.mem_of_getElem? (i := 43) rfl)) (hw _ (List.mem_of_getElem? (i := 140) rfl)) ⟨by decide, by decide⟩ S.1 pd__28_29_5bB rfl (fun O => k_getValue hw hs S O) (fun _ q => nomatch q) rfl (dle rfl) (dle rfl) (dle rfl) (by omega) d23_5 rfl (fun v1 hp1 gs1 K1 Q1 => ?_)
  obtain ⟨rfl, rfl⟩ := Q1
  show Go _ K Z _ n0 _ _ 8 #[.val (.ref s), .val (.ref a), .val .null, .unset, .unset] [(.ref b)] hp1 _ _ _
  have Sx1 := S.keep K1 nin0 nin0
  refine Own.astoreN (L' := #[.val (.ref s), .val (.ref a), .val .null, .val (.ref b), .unset]) C d23_8 rfl rfl ?_
  refine Own.aloadN C d23_9 rfl rfl ?_
  refine callV_ C (as' := []) (st := []) (hw _ (List.mem_of_getElem? (i := 141) rfl)) (hw _ (List.mem_of_getElem? (i := 142) rfl)) (fun _ hZ => nf_sel (x := ⟨"java/lang/AbstractStringBuilder", "getValue", "()[B"⟩) rfl (args := #[]) (mvT hZ (hw _ (List.mem_of_getElem? (i := 139) rfl)))) (hw _ (List.mem_of_getElem? (i := 144) rfl)) (hw _ (List.mem_of_getElem? (i := 145) rfl)) (hw _ (List.mem_of_getElem? (i := 35) rfl)) (hw _ (List.mem_of_getElem? (i := 146) rfl)) ⟨by decide, by decide⟩ Sx1.1 pd__28_29I rfl (fun O => k_sblen hw hs Sx1 O) (fun _ q => nomatch q) rfl (dle rfl) (dle rfl) (dle rfl) (by omega) d23_10 rfl (fun v2 hp2 gs2 K2 Q2 => ?_)
  obtain ⟨rfl, rfl⟩ := Q2
  show Go _ K Z _ n0 _ _ 13 #[.val (.ref s), .val (.ref a), .val .null, .val (.ref b), .unset] [(.int (natI cs.length))] hp2 _ _ _
  have Sx2 := Sx1.keep K2 nin0 nin0
  refine Own.istore (L' := #[.val (.ref s), .val (.ref a), .val .null, .val (.ref b), .val (.int (natI cs.length))]) C d23_13 rfl ?_
  refine Own.aloadN C d23_15 rfl rfl ?_
  refine callV_ C (as' := []) (st := []) (hw _ (List.mem_of_getElem? (i := 149) rfl)) (hw _ (List.mem_of_getElem? (i := 150) rfl)) (fun _ hZ => notFace_of_selects (args := #[]) (mvT hZ (hw _ (List.mem_of_getElem? (i := 152) rfl)))) (hw _ (List.mem_of_getElem? (i := 152) rfl)) (hw _ (List.mem_of_getElem? (i := 151) rfl)) (hw _ (List.mem_of_getElem? (i := 43) rfl)) (hw _ (List.mem_of_getElem? (i := 153) rfl)) ⟨by decide, by decide⟩ Sx2.1 pd__28_29Z rfl (fun O => k_asblat hw hs Sx2 O) (fun _ q => nomatch q) rfl (dle rfl) (dle rfl) (dle rfl) (by omega) d23_16 rfl (fun v3 hp3 gs3 K3 Q3 => ?_)
  obtain ⟨rfl, rfl⟩ := Q3
  show Go _ K Z _ n0 _ _ 19 #[.val (.ref s), .val (.ref a), .val .null, .val (.ref b), .val (.int (natI cs.length))] [(.int (1 : Int32))] hp3 _ _ _
  have Sx3 := Sx2.keep K3 nin0 nin0
  have KK := (K1.trans K2 (fun _ q => nomatch q)).trans K3 (fun _ q => nomatch q)
  have Ex1 := E.keep KK
  have Vx1 := Fv.keep KK nin0
  have Cx1 := Fc.keep KK nin0
  refine if_eq C d23_19 (fun q4 => ?_) (fun q4 => ?_)
  · exact absurd q4 (by decide)
  · refine Own.aloadN C d23_22 rfl rfl ?_
    refine Own.iconst (v := 0) C d23_23 rfl ?_
    refine putF_ C (v' := .int (0 : Int32)) (ty := .byte) (hw _ (List.mem_of_getElem? (i := 25) rfl)) Cx1 Ex1 (Or.inr ⟨(hw _ (List.mem_of_getElem? (i := 26) rfl)), rfl, rfl⟩) (hw _ (List.mem_of_getElem? (i := 11) rfl)) (by decide) rfl rfl (by simp) d23_24 (fun hp5 W6 => ?_)
    have Ex2 := Ex1.wr W6
    have Cx2 := Cx1.same W6
    have Vx2 := Vx1.other W6 (Or.inr hne)
    obtain ⟨-, -, -, -, ⟨rest, Bq, hl⟩, hcs, hcap⟩ := Sx3
    have hsb : b ≠ s := fun e => ne_exa Bq.2.1 Ex1 (by decide) e
    have Bx2 := Bq.keep (Keep.of_wr W6) (ninS hsb nin0)
    have hvl : (lat cs ++ rest).length = cap := by rw [List.length_append, lat_len]; omega
    refine Own.aloadN C d23_27 rfl rfl ?_
    refine Own.aloadN C d23_28 rfl rfl ?_
    refine Own.iconst (v := 0) C d23_29 rfl ?_
    refine Own.iload C d23_30 rfl ?_
    refine callS_ C (as := [(.ref b), (.int (0 : Int32)), (.int (natI cs.length))]) (st := [(.ref s)]) (hw _ (List.mem_of_getElem? (i := 154) rfl)) (hw _ (List.mem_of_getElem? (i := 155) rfl)) (hw _ (List.mem_of_getElem? (i := 98) rfl)) (hw _ (List.mem_of_getElem? (i := 156) rfl)) ⟨by decide, by decide⟩ pd__28_5bBII_29_5bB rfl (fun O => k_cor (N := N) hw hs (f := 0) (t := cs.length) ⟨by omega, by omega, by omega, by omega, by omega⟩ Bx2 O) (fun _ q => nomatch q) rfl (dle rfl) (dle rfl) (dle rfl) (by omega) d23_32 rfl (fun v7 hp7 gs7 K7 Q7 => ?_)
    obtain ⟨c, rfl, rfl, hge, Bx4⟩ := Q7
    show Go _ K Z _ n0 _ _ 35 #[.val (.ref s), .val (.ref a), .val .null, .val (.ref b), .val (.int (natI cs.length))] [(.ref c), (.ref s)] hp7 _ _ _
    have Ex3 := Ex2.keep K7
    have Cx3 := Cx2.keep K7 nin0
    have Vx3 := Vx2.keep K7 nin0
    rw [List.drop_zero, Nat.sub_zero, List.take_left' (lat_len cs)] at Bx4
    have hcs2 : c ≠ s := fun e => ne_exa Bx4.2.1 Ex3 (by decide) e
    refine putF_ C (v' := .ref c) (ty := (.array .byte)) (hw _ (List.mem_of_getElem? (i := 23) rfl)) Vx3 Ex3 (Or.inr ⟨(hw _ (List.mem_of_getElem? (i := 24) rfl)), rfl, rfl⟩) (hw _ (List.mem_of_getElem? (i := 11) rfl)) (by decide) rfl rfl (by simp) d23_35 (fun hp8 W9 => ?_)
    refine Own.goto_ C d23_38 ?_
    exact retV C (gs := []) d23_97 (dle rfl) (by omega) (fun _ q => nomatch q) ⟨rfl, rfl, Ex3.wr W9, fun c hc => ⟨(hcs c hc).1, by have := (hcs c hc).2; omega⟩, by omega, c, 0, lat cs, Vx3.same W9, Cx3.other W9 (Or.inr hne.symm), Bx4.1.other W9 hcs2, Or.inl ⟨fun c hc => (hcs c hc).2, rfl, rfl⟩⟩
set_option maxRecDepth 65536 in
set_option maxHeartbeats 4000000 in
theorem k_initSb {Z : State} {a0 : Array Value} (hw : ∀ d ∈ tables_1, d.before a0 Z = true) (hs : Stt Z) {n0 : Nat} {h0 : Heap} {s a b : Addr} {cs : List Int32} {cap N : Nat} (S : Sb Z h0 a b cs cap) (hN : cs.length ≤ N ∧ N ≤ 4096) {u1 u2 : Value} (E : Exa Z h0 s "java/lang/String") (Fv : Fld Z h0 s "java/lang/String" "value" "[B" u1) (Fc : Fld Z h0 s "java/lang/String" "coder" "B" u2) (O : Old Z n0 h0) :
    Con WD Z EL0 n0 (⟨"java/lang/String", "<init>", "(Ljava/lang/StringBuilder;)V"⟩ : MethodName) jdk_42_method_53_code 2 none (Rm 4 1 (0 + 1 * N) 65) [(.ref s), (.ref a)] h0 [s] (fun v h gs => v = none ∧ gs = [] ∧ Str Z h s cs) := by
  refine Con.of (a0 := a0) (by first | (exact plainFor_of_name (by first | (simp [plainName, overriddenIn]; done) | decide +kernel)) | decide +kernel) (hEL hw) hWE O (L0 := #[.val (.ref s), .val (.ref a)]) (fun m => by first | rfl | (simp [entryFrame, mkF, argsToLocals, Value.category]; done)) ?_
  intro K C hh
  refine Own.aloadN C d22_0 rfl rfl ?_
  refine Own.aloadN C d22_1 rfl rfl ?_
  refine Own.aconstNull C d22_2 ?_
  refine callI_ C (as' := [(.ref a), .null]) (st := []) rfl (hw _ (List.mem_of_getElem? (i := 133) rfl)) (hw _ (List.mem_of_getElem? (i := 134) rfl)) (hw _ (List.mem_of_getElem? (i := 3) rfl)) (hw _ (List.mem_of_getElem? (i := 135) rfl)) ⟨by decide, by decide⟩ pd__28Ljava_2flang_2fAbstractStringBuilder_3bLjava_2flang_2fVoid_3b_29V rfl (fun O => k_initAsb (N := N) hw hs S hN E Fv Fc O) (by simp) rfl (dle rfl) (dle rfl) (dle rfl) (by omega) d22_3 rfl (fun v1 hp1 gs1 K1 Q1 => ?_)
  obtain ⟨rfl, rfl, F⟩ := Q1
  show Go _ K Z _ n0 _ _ 6 #[.val (.ref s), .val (.ref a)] [] hp1 _ _ _
  exact retV C (gs := []) d22_6 (dle rfl) (by omega) (fun _ q => nomatch q) ⟨rfl, rfl, F⟩
set_option maxRecDepth 65536 in
set_option maxHeartbeats 4000000 in
theorem k_toString {Z : State} {a0 : Array Value} (hw : ∀ d ∈ tables_1, d.before a0 Z = true) (hs : Stt Z) {n0 : Nat} {h0 : Heap} {a b : Addr} {cs : List Int32} {cap N : Nat} (S : Sb Z h0 a b cs cap) (hN : cs.length ≤ N ∧ N ≤ 4096) (O : Old Z n0 h0) :
    Con WD Z EL0 n0 (⟨"java/lang/StringBuilder", "toString", "()Ljava/lang/String;"⟩ : MethodName) jdk_67_method_42_code 1 (some (.object "java/lang/String")) (Rm 5 2 (4 + 1 * N) 79) [(.ref a)] h0 [] (fun v h gs => gs = [] ∧ ∃ s : Addr, v = some (.ref s) ∧ h0.size ≤ s ∧ Str Z h s cs) := by
  refine Con.of (a0 := a0) (by first | (exact plainFor_of_name (by first | (simp [plainName, overriddenIn]; done) | decide +kernel)) | decide +kernel) (hEL hw) hWE O (L0 := #[.val (.ref a)]) (fun m => by first | rfl | (simp [entryFrame, mkF, argsToLocals, Value.category]; done)) ?_
  intro K C hh
  refine new_ C (hw _ (List.mem_of_getElem? (i := 129) rfl)) (hw _ (List.mem_of_getElem? (i := 11) rfl)) (hw _ (List.mem_of_getElem? (i := 3) rfl)) (dle rfl) (by omega) d21_0 (fun hp1 K1 lt1 le1 ⟨E1, F1⟩ => ?_)
  obtain ⟨s, g1⟩ : ∃ z, z = h0.size := ⟨_, rfl⟩
  rw [← g1] at E1 F1 lt1 le1 ⊢
  have Fv := F1 (Or.inr (hw _ (List.mem_of_getElem? (i := 24) rfl)) : Laid Z a0 "java/lang/String" "java/lang/String" "value" "[B") (ty := .array .byte) (by decide)
  have Fc := F1 (Or.inr (hw _ (List.mem_of_getElem? (i := 26) rfl)) : Laid Z a0 "java/lang/String" "java/lang/String" "coder" "B") (ty := .byte) (by decide)
  refine Own.dup C d21_3 rfl ?_
  refine Own.aloadN C d21_4 rfl rfl ?_
  refine callI_ C (as' := [(.ref a)]) (st := [(.ref s)]) rfl (hw _ (List.mem_of_getElem? (i := 130) rfl)) (hw _ (List.mem_of_getElem? (i := 131) rfl)) (hw _ (List.mem_of_getElem? (i := 3) rfl)) (hw _ (List.mem_of_getElem? (i := 132) rfl)) ⟨by decide, by decide⟩ pd__28Ljava_2flang_2fStringBuilder_3b_29V rfl (fun O => k_initSb (N := N) hw hs (S.keep K1 nin0 nin0) hN E1 Fv Fc O) (by simp) rfl (dle rfl) (dle rfl) (dle rfl) (by omega) d21_5 rfl (fun v2 hp2 gs2 K2 Q2 => ?_)
  obtain ⟨rfl, rfl, F⟩ := Q2
  show Go _ K Z _ n0 _ _ 8 #[.val (.ref a)] [(.ref s)] hp2 _ _ _
  exact retA C (gs := []) rfl rfl d21_8 (dle rfl) (by omega) (fun _ q => nomatch q) ⟨rfl, s, rfl, by omega, F⟩
set_option maxRecDepth 65536 in
set_option maxHeartbeats 4000000 in
theorem k_initBB {Z : State} {a0 : Array Value} (hw : ∀ d ∈ tables_1, d.before a0 Z = true) (hs : Stt Z) {n0 : Nat} {h0 : Heap} {s c : Addr} {cs : List Int32} {u1 u2 : Value} (hcs : ∀ c ∈ cs, isCh c) (hlt : ∀ c ∈ cs, c.toInt < 256) (hl : cs.length ≤ 4096) (A : Ary Z h0 c .byte (lat cs)) (E : Exa Z h0 s "java/lang/String") (Fv : Fld Z h0 s "java/lang/String" "value" "[B" u1) (Fc : Fld Z h0 s "java/lang/String" "coder" "B" u2) (O : Old Z n0 h0) :
    Con WD Z EL0 n0 (⟨"java/lang/String", "<init>", "([BB)V"⟩ : MethodName) jdk_42_method_151_code 3 none (Rm 1 0 0 12) [(.ref s), (.ref c), (.int (0 : Int32))] h0 [s] (fun v h gs => v = none ∧ gs = [] ∧ Str Z h s cs) := by
  refine Con.of (a0 := a0) (by first | (exact plainFor_of_name (by first | (simp [plainName, overriddenIn]; done) | decide +kernel)) | decide +kernel) (hEL hw) hWE O (L0 := #[.val (.ref s), .val (.ref c), .val (.int (0 : Int32))]) (fun m => by first | rfl | (simp [entryFrame, mkF, argsToLocals, Value.category]; done)) ?_
  intro K C hh
  have hne := slot_ne (Or.inr (hw _ (List.mem_of_getElem? (i := 24) rfl)) : Laid Z a0 "java/lang/String" "java/lang/String" "value" "[B") (Or.inr (hw _ (List.mem_of_getElem? (i := 26) rfl)) : Laid Z a0 "java/lang/String" "java/lang/String" "coder" "B") (by decide) (t := .array .byte) (t' := .byte) (by decide) (by decide)
  refine Own.aloadN C d3_0 rfl rfl ?_
  refine initO_ C (hw _ (List.mem_of_getElem? (i := 20) rfl)) (hw _ (List.mem_of_getElem? (i := 21) rfl)) (hw _ (List.mem_of_getElem? (i := 22) rfl)) rfl (dle rfl) (dle rfl) d3_1 ?_
  refine Own.aloadN C d3_4 rfl rfl ?_
  refine Own.aloadN C d3_5 rfl rfl ?_
  refine putF_ C (v' := .ref c) (ty := (.array .byte)) (hw _ (List.mem_of_getElem? (i := 23) rfl)) Fv E (Or.inr ⟨(hw _ (List.mem_of_getElem? (i := 24) rfl)), rfl, rfl⟩) (hw _ (List.mem_of_getElem? (i := 11) rfl)) (by decide) rfl rfl (by simp) d3_6 (fun hp1 W2 => ?_)
  have Ex1 := E.wr W2
  have Vx1 := Fv.same W2
  have Cx1 := Fc.other W2 (Or.inr hne.symm)
  have Ax1 := A.other W2 (A.neX E (hw _ (List.mem_of_getElem? (i := 11) rfl)))
  refine Own.aloadN C d3_9 rfl rfl ?_
  refine Own.iloadN C d3_10 rfl ?_
  refine putF_ C (v' := .int (0 : Int32)) (ty := .byte) (hw _ (List.mem_of_getElem? (i := 25) rfl)) Cx1 Ex1 (Or.inr ⟨(hw _ (List.mem_of_getElem? (i := 26) rfl)), rfl, rfl⟩) (hw _ (List.mem_of_getElem? (i := 11) rfl)) (by decide) rfl rfl (by simp) d3_11 (fun hp3 W4 => ?_)
  have Ex2 := Ex1.wr W4
  have Vx2 := Vx1.other W4 (Or.inr hne)
  have Cx2 := Cx1.same W4
  have Ax2 := Ax1.other W4 (Ax1.neX Ex1 (hw _ (List.mem_of_getElem? (i := 11) rfl)))
  exact retV C (gs := []) d3_14 (dle rfl) (dle rfl) (fun _ q => nomatch q) ⟨rfl, rfl, Ex2, hcs, hl, c, 0, lat cs, Vx2, Cx2, Ax2, Or.inl ⟨hlt, rfl, rfl⟩⟩
set_option maxRecDepth 65536 in
set_option maxHeartbeats 4000000 in
theorem k_canEncode {Z : State} {a0 : Array Value} (hw : ∀ d ∈ tables_1, d.before a0 Z = true) (hs : Stt Z) {n0 : Nat} {h0 : Heap} {c : Int32} (hc : 0 ≤ c.toInt ∧ c.toInt < 256) (O : Old Z n0 h0) :
    Con WD Z EL0 n0 (⟨"java/lang/StringLatin1", "canEncode", "(C)Z"⟩ : MethodName) jdk_43_method_3_code 1 (some .boolean) (Rm 0 0 0 0) [(.int c)] h0 [] (fun v h gs => v = some (.int 1) ∧ gs = []) := by
  refine Con.of (a0 := a0) (by first | (exact plainFor_of_name (by first | (simp [plainName, overriddenIn]; done) | decide +kernel)) | decide +kernel) (hEL hw) hWE O (L0 := #[.val (.int c)]) (fun m => by first | rfl | (simp [entryFrame, mkF, argsToLocals, Value.category]; done)) ?_
  intro K C hh
  have z255 : (255 : Int32).toInt = 255 := rfl
  refine Own.iloadN C d1_0 rfl ?_
  refine Own.sipush (v := 255) C d1_1 rfl ?_
  refine icmp_gt C d1_4 (fun q1 => ?_) (fun q1 => ?_)
  · rw [lt32] at q1
    omega
  · refine Own.iconst (v := 1) C d1_7 rfl ?_
    refine Own.goto_ C d1_8 ?_
    exact retZ C (gs := []) d1_12 (dle rfl) (dle rfl) (fun _ q => nomatch q) ⟨rfl, rfl⟩
set_option maxRecDepth 65536 in
set_option maxHeartbeats 4000000 in
theorem k_toBytesC {Z : State} {a0 : Array Value} (hw : ∀ d ∈ tables_1, d.before a0 Z = true) (hs : Stt Z) {n0 : Nat} {h0 : Heap} {c : Int32} (hc : 0 ≤ c.toInt ∧ c.toInt < 256) (O : Old Z n0 h0) :
    Con WD Z EL0 n0 (⟨"java/lang/StringLatin1", "toBytes", "(C)[B"⟩ : MethodName) jdk_43_method_46_code 1 (some (.array .byte)) (Rm 0 1 1 0) [(.int c)] h0 [] (fun v h gs => gs = [] ∧ ∃ b : Addr, v = some (.ref b) ∧ h0.size ≤ b ∧ Ary Z h b .byte (lat [c])) := by
  refine Con.of (a0 := a0) (by first | (exact plainFor_of_name (by first | (simp [plainName, overriddenIn]; done) | decide +kernel)) | decide +kernel) (hEL hw) hWE O (L0 := #[.val (.int c)]) (fun m => by first | rfl | (simp [entryFrame, mkF, argsToLocals, Value.category]; done)) ?_
  intro K C hh
  refine Own.iconst (v := 1) C d2_0 rfl ?_
  refine newarr C (hw _ (List.mem_of_getElem? (i := 15) rfl)) (by decide) 1 (by decide) (by decide) (dle rfl) (dle rfl) d2_1 (fun hp1 K1 lt1 le1 A1 => ?_)
  obtain ⟨b, g1⟩ : ∃ z, z = h0.size := ⟨_, rfl⟩
  rw [← g1] at A1 lt1 le1 ⊢
  refine Own.dup C d2_3 rfl ?_
  refine Own.iconst (v := 0) C d2_4 rfl ?_
  refine Own.iloadN C d2_5 rfl ?_
  refine Own.i2b C d2_6 ?_
  refine bastore_ C A1 0 (by decide) (dlt rfl) (by simp) d2_7 (fun hp2 W2 A2 => ?_)
  exact retA C (gs := []) rfl rfl d2_8 (dle rfl) (dle rfl) (fun _ q => nomatch q) ⟨rfl, b, rfl, by omega, by have q := A2; rw [narb_idem] at q; exact q⟩
set_option maxRecDepth 65536 in
set_option maxHeartbeats 4000000 in
theorem k_valueOfC {Z : State} {a0 : Array Value} (hw : ∀ d ∈ tables_1, d.before a0 Z = true) (hs : Stt Z) {n0 : Nat} {h0 : Heap} {c : Int32} (hc : 0 ≤ c.toInt ∧ c.toInt < 256) (O : Old Z n0 h0) :
    Con WD Z EL0 n0 (⟨"java/lang/String", "valueOf", "(C)Ljava/lang/String;"⟩ : MethodName) jdk_42_method_139_code 1 (some (.object "java/lang/String")) (Rm 2 2 5 27) [(.int c)] h0 [] (fun v h gs => gs = [] ∧ ∃ s : Addr, v = some (.ref s) ∧ h0.size ≤ s ∧ Str Z h s [c]) := by
  refine Con.of (a0 := a0) (by first | (exact plainFor_of_name (by first | (simp [plainName, overriddenIn]; done) | decide +kernel)) | decide +kernel) (hEL hw) hWE O (L0 := #[.val (.int c)]) (fun m => by first | rfl | (simp [entryFrame, mkF, argsToLocals, Value.category]; done)) ?_
  intro K C hh
  obtain ⟨cv, hcv, Sc⟩ := st_c hs
  refine getS_ C (hw _ (List.mem_of_getElem? (i := 5) rfl)) Sc d0_0 ?_
  refine if_eq C d0_3 (fun q1 => ?_) (fun q1 => ?_)
  · exact absurd q1 hcv
  · refine Own.iloadN C d0_6 rfl ?_
    refine callS_ C (as := [(.int c)]) (st := []) (hw _ (List.mem_of_getElem? (i := 6) rfl)) (hw _ (List.mem_of_getElem? (i := 7) rfl)) (hw _ (List.mem_of_getElem? (i := 8) rfl)) (hw _ (List.mem_of_getElem? (i := 9) rfl)) ⟨by decide, by decide⟩ pd__28C_29Z rfl (fun O => k_canEncode hw hs hc O) (fun _ q => nomatch q) rfl (dle rfl) (dle rfl) (dle rfl) (dle rfl) d0_7 rfl (fun v2 hp2 gs2 K2 Q2 => ?_)
    obtain ⟨rfl, rfl⟩ := Q2
    show Go _ K Z _ n0 _ _ 10 #[.val (.int c)] [(.int (1 : Int32))] hp2 _ _ _
    refine if_eq C d0_10 (fun q3 => ?_) (fun q3 => ?_)
    · exact absurd q3 (by decide)
    · refine new_ C (hw _ (List.mem_of_getElem? (i := 10) rfl)) (hw _ (List.mem_of_getElem? (i := 11) rfl)) (hw _ (List.mem_of_getElem? (i := 3) rfl)) (dle rfl) (dle rfl) d0_13 (fun hp4 K4 lt4 le4 ⟨E4, F4⟩ => ?_)
      obtain ⟨s, g4⟩ : ∃ z, z = hp2.size := ⟨_, rfl⟩
      rw [← g4] at E4 F4 lt4 le4 ⊢
      have Fv := F4 (Or.inr (hw _ (List.mem_of_getElem? (i := 24) rfl)) : Laid Z a0 "java/lang/String" "java/lang/String" "value" "[B") (ty := .array .byte) (by decide)
      have Fc := F4 (Or.inr (hw _ (List.mem_of_getElem? (i := 26) rfl)) : Laid Z a0 "java/lang/String" "java/lang/String" "coder" "B") (ty := .byte) (by decide)
      refine Own.dup C d0_16 rfl ?_
      refine Own.iloadN C d0_17 rfl ?_
      refine callS_ C (as := [(.int c)]) (st := [(.ref s), (.ref s)]) (hw _ (List.mem_of_getElem? (i := 12) rfl)) (hw _ (List.mem_of_getElem? (i := 13) rfl)) (hw _ (List.mem_of_getElem? (i := 8) rfl)) (hw _ (List.mem_of_getElem? (i := 14) rfl)) ⟨by decide, by decide⟩ pd__28C_29_5bB rfl (fun O => k_toBytesC hw hs hc O) (fun _ q => nomatch q) rfl (dle rfl) (dle rfl) (dle rfl) (dle rfl) d0_18 rfl (fun v5 hp5 gs5 K5 Q5 => ?_)
      obtain ⟨rfl, b, rfl, hge, Ax1⟩ := Q5
      show Go _ K Z _ n0 _ _ 21 #[.val (.int c)] [(.ref b), (.ref s), (.ref s)] hp5 _ _ _
      refine Own.iconst (v := 0) C d0_21 rfl ?_
      refine callI_ C (as' := [(.ref b), (.int (0 : Int32))]) (st := [(.ref s)]) rfl (hw _ (List.mem_of_getElem? (i := 16) rfl)) (hw _ (List.mem_of_getElem? (i := 17) rfl)) (hw _ (List.mem_of_getElem? (i := 3) rfl)) (hw _ (List.mem_of_getElem? (i := 19) rfl)) ⟨by decide, by decide⟩ pd__28_5bBB_29V rfl (fun O => k_initBB hw hs (by simp only [List.mem_singleton]; rintro _ rfl; exact ⟨hc.1, by omega⟩) (by simp only [List.mem_singleton]; rintro _ rfl; exact hc.2) (by simp) Ax1 (E4.keep K5) (Fv.keep K5 nin0) (Fc.keep K5 nin0) O) (by simp) rfl (dle rfl) (dle rfl) (dle rfl) (dle rfl) d0_22 rfl (fun v6 hp6 gs6 K6 Q6 => ?_)
      obtain ⟨rfl, rfl, F⟩ := Q6
      show Go _ K Z _ n0 _ _ 25 #[.val (.int c)] [(.ref s)] hp6 _ _ _
      exact retA C (gs := []) rfl rfl d0_25 (dle rfl) (dle rfl) (fun _ q => nomatch q) ⟨rfl, s, rfl, by have := K2.1; omega, F⟩
theorem set_app1 {xs r : List Value} {a v : Value} {n : Nat} (hn : n = xs.length) : (xs ++ a :: r).set n v = (xs ++ [v]) ++ r := by
  subst hn
  induction xs with
  | nil => rfl
  | cons x xs ih => simpa using ih
theorem four {rest : List Value} (h : 4 ≤ rest.length) : ∃ a b c d r, rest = a :: b :: c :: d :: r := by
  match rest, h with
  | a :: b :: c :: d :: r, _ => exact ⟨a, b, c, d, r, rfl⟩
abbrev nul4 : List Int32 := [110, 117, 108, 108]
set_option maxRecDepth 65536 in
set_option maxHeartbeats 4000000 in
theorem k_appendNull {Z : State} {a0 : Array Value} (hw : ∀ d ∈ tables_1, d.before a0 Z = true) (hs : Stt Z) {n0 : Nat} {h0 : Heap} {a b : Addr} {cs : List Int32} {cap N : Nat} (S : Sb Z h0 a b cs cap) (hN : cs.length + 4 ≤ N ∧ 2 * cap + 2 ≤ N ∧ N ≤ 4096) (hc1 : 1 ≤ cap) (O : Old Z n0 h0) :
    Con WD Z EL0 n0 (⟨"java/lang/AbstractStringBuilder", "appendNull", "()Ljava/lang/AbstractStringBuilder;"⟩ : MethodName) jdk_68_method_26_code 3 (some (.object "java/lang/AbstractStringBuilder")) (Rm 4 1 (0 + 1 * N) 62) [(.ref a)] h0 [a, b] (fun v h gs => v = some (.ref a) ∧ ∃ (b' : Addr) (cap' : Nat), gs = [b'] ∧ Sb Z h a b' (cs ++ nul4) cap' ∧ (cap' = cap ∨ cap' = cap + max (cs.length + 4 - cap) (cap + 2))) := by
  refine Con.of (a0 := a0) (by first | (exact plainFor_of_name (by first | (simp [plainName, overriddenIn]; done) | decide +kernel)) | decide +kernel) (hEL hw) hWE O (L0 := #[.val (.ref a), .unset, .unset]) (fun m => by first | rfl | (simp [entryFrame, mkF, argsToLocals, Value.category]; done)) ?_
  intro K C hh
  have hle := S.le
  have hvc := slot_ne (Or.inl (hw _ (List.mem_of_getElem? (i := 48) rfl)) : Laid Z a0 "java/lang/StringBuilder" "java/lang/AbstractStringBuilder" "value" "[B") (Or.inl (hw _ (List.mem_of_getElem? (i := 50) rfl)) : Laid Z a0 "java/lang/StringBuilder" "java/lang/AbstractStringBuilder" "coder" "B") (by decide) (t := .array .byte) (t' := .byte) (by decide) (by decide)
  have hvn := slot_ne (Or.inl (hw _ (List.mem_of_getElem? (i := 48) rfl)) : Laid Z a0 "java/lang/StringBuilder" "java/lang/AbstractStringBuilder" "value" "[B") (Or.inl (hw _ (List.mem_of_getElem? (i := 75) rfl)) : Laid Z a0 "java/lang/StringBuilder" "java/lang/AbstractStringBuilder" "count" "I") (by decide) (t := .array .byte) (t' := .int) (by decide) (by decide)
  have hcn := slot_ne (Or.inl (hw _ (List.mem_of_getElem? (i := 50) rfl)) : Laid Z a0 "java/lang/StringBuilder" "java/lang/AbstractStringBuilder" "coder" "B") (Or.inl (hw _ (List.mem_of_getElem? (i := 75) rfl)) : Laid Z a0 "java/lang/StringBuilder" "java/lang/AbstractStringBuilder" "count" "I") (by decide) (t := .byte) (t' := .int) (by decide) (by decide)
  refine Own.aloadN C d42_0 rfl rfl ?_
  refine Own.aloadN C d42_1 rfl rfl ?_
  refine getF_ C (hw _ (List.mem_of_getElem? (i := 74) rfl)) S.2.2.1 d42_2 ?_
  refine Own.iconst (v := 4) C d42_5 rfl ?_
  refine Own.iadd C d42_6 ?_
  rw [show natI cs.length + 4 = natI (cs.length + 4) from natI_plus (n := 4) (by omega)]
  show Go _ K Z _ n0 _ _ 7 #[.val (.ref a), .unset, .unset] [(.int (natI (cs.length + 4))), (.ref a)] h0 _ _ _
  refine callP_ C (as' := [(.int (natI (cs.length + 4)))]) (st := []) (hw _ (List.mem_of_getElem? (i := 76) rfl)) (hw _ (List.mem_of_getElem? (i := 77) rfl)) (hw _ (List.mem_of_getElem? (i := 79) rfl)) (hw _ (List.mem_of_getElem? (i := 78) rfl)) (hw _ (List.mem_of_getElem? (i := 43) rfl)) (hw _ (List.mem_of_getElem? (i := 80) rfl)) ⟨by decide, by decide⟩ S.1 pd__28I_29V rfl (fun O => k_ensure (N := N) hw hs S (by omega) ⟨by omega, by omega, by omega⟩ (by omega) O) (by simp) rfl (dle rfl) (dle rfl) (dle rfl) (by omega) d42_7 rfl (fun v1 hp1 gs1 K1 Q1 => ?_)
  obtain ⟨rfl, b', cap', rfl, Sx2, hm2, hcap2⟩ := Q1
  show Go _ K Z _ n0 _ _ 10 #[.val (.ref a), .unset, .unset] [] hp1 _ _ _
  have hle2 := Sx2.le
  refine Own.aloadN C d42_10 rfl rfl ?_
  refine getF_ C (hw _ (List.mem_of_getElem? (i := 74) rfl)) Sx2.2.2.1 d42_11 ?_
  refine Own.istoreN (L' := #[.val (.ref a), .val (.int (natI cs.length)), .unset]) C d42_14 rfl ?_
  refine Own.aloadN C d42_15 rfl rfl ?_
  refine getF_ C (hw _ (List.mem_of_getElem? (i := 47) rfl)) Sx2.2.1 d42_16 ?_
  refine Own.astoreN (L' := #[.val (.ref a), .val (.int (natI cs.length)), .val (.ref b')]) C d42_19 rfl rfl ?_
  refine Own.aloadN C d42_20 rfl rfl ?_
  refine callV_ C (as' := []) (st := []) (hw _ (List.mem_of_getElem? (i := 260) rfl)) (hw _ (List.mem_of_getElem? (i := 150) rfl)) (fun _ hZ => notFace_of_selects (args := #[]) (mvT hZ (hw _ (List.mem_of_getElem? (i := 152) rfl)))) (hw _ (List.mem_of_getElem? (i := 152) rfl)) (hw _ (List.mem_of_getElem? (i := 151) rfl)) (hw _ (List.mem_of_getElem? (i := 43) rfl)) (hw _ (List.mem_of_getElem? (i := 153) rfl)) ⟨by decide, by decide⟩ Sx2.1 pd__28_29Z rfl (fun O => k_asblat hw hs Sx2 O) (fun _ q => nomatch q) rfl (dle rfl) (dle rfl) (dle rfl) (by omega) d42_21 rfl (fun v2 hp2 gs2 K2 Q2 => ?_)
  obtain ⟨rfl, rfl⟩ := Q2
  show Go _ K Z _ n0 _ _ 24 #[.val (.ref a), .val (.int (natI cs.length)), .val (.ref b')] [(.int (1 : Int32))] hp2 _ _ _
  have Sx3 := Sx2.keep K2 nin0 nin0
  refine if_eq C d42_24 (fun q3 => ?_) (fun q3 => ?_)
  · exact absurd q3 (by decide)
  · obtain ⟨Ex, Vx, Nx, Cx0, ⟨rest, Bx, hl⟩, hcs, hcap⟩ := Sx3
    obtain ⟨r0, r1, r2, r3, rs, rfl⟩ := four (rest := rest) (by omega)
    have hba : b' ≠ a := fun e => ne_exa Bx.2.1 Ex (by decide) e
    have A0 := Bx.1
    have hlc := lat_len cs
    simp only [List.length_cons] at hl
    have e0_ := natI_succ (i := cs.length + 0) (by omega)
    refine Own.aloadN C d42_27 rfl rfl ?_
    refine Own.iloadN C d42_28 rfl ?_
    refine Own.iinc (L' := #[.val (.ref a), .val (.int (natI (cs.length + 1))), .val (.ref b')]) (y := (natI (cs.length + 1))) C d42_29 rfl e0_ rfl ?_
    refine Own.bipush (v := 110) C d42_32 rfl ?_
    refine bastore_ C A0 (cs.length + 0) (natI_toInt (i := cs.length + 0) (by omega)) (by simp only [List.length_append, List.length_cons, List.length_nil]; omega) (by simp) d42_34 (fun hp4 W4 A4 => ?_)
    rw [set_app1 (by first | omega | (simp only [List.length_append, List.length_cons, List.length_nil]; omega))] at A4
    have e1_ := natI_succ (i := cs.length + 1) (by omega)
    refine Own.aloadN C d42_35 rfl rfl ?_
    refine Own.iloadN C d42_36 rfl ?_
    refine Own.iinc (L' := #[.val (.ref a), .val (.int (natI (cs.length + 2))), .val (.ref b')]) (y := (natI (cs.length + 2))) C d42_37 rfl e1_ rfl ?_
    refine Own.bipush (v := 117) C d42_40 rfl ?_
    refine bastore_ C A4 (cs.length + 1) (natI_toInt (i := cs.length + 1) (by omega)) (by simp only [List.length_append, List.length_cons, List.length_nil]; omega) (by simp) d42_42 (fun hp5 W5 A5 => ?_)
    rw [set_app1 (by first | omega | (simp only [List.length_append, List.length_cons, List.length_nil]; omega))] at A5
    have e2_ := natI_succ (i := cs.length + 2) (by omega)
    refine Own.aloadN C d42_43 rfl rfl ?_
    refine Own.iloadN C d42_44 rfl ?_
    refine Own.iinc (L' := #[.val (.ref a), .val (.int (natI (cs.length + 3))), .val (.ref b')]) (y := (natI (cs.length + 3))) C d42_45 rfl e2_ rfl ?_
    refine Own.bipush (v := 108) C d42_48 rfl ?_
    refine bastore_ C A5 (cs.length + 2) (natI_toInt (i := cs.length + 2) (by omega)) (by simp only [List.length_append, List.length_cons, List.length_nil]; omega) (by simp) d42_50 (fun hp6 W6 A6 => ?_)
    rw [set_app1 (by first | omega | (simp only [List.length_append, List.length_cons, List.length_nil]; omega))] at A6
    have e3_ := natI_succ (i := cs.length + 3) (by omega)
    refine Own.aloadN C d42_51 rfl rfl ?_
    refine Own.iloadN C d42_52 rfl ?_
    refine Own.iinc (L' := #[.val (.ref a), .val (.int (natI (cs.length + 4))), .val (.ref b')]) (y := (natI (cs.length + 4))) C d42_53 rfl e3_ rfl ?_
    refine Own.bipush (v := 108) C d42_56 rfl ?_
    refine bastore_ C A6 (cs.length + 3) (natI_toInt (i := cs.length + 3) (by omega)) (by simp only [List.length_append, List.length_cons, List.length_nil]; omega) (by simp) d42_58 (fun hp7 W7 A7 => ?_)
    rw [set_app1 (by first | omega | (simp only [List.length_append, List.length_cons, List.length_nil]; omega))] at A7
    have KA : Keep _ _ [b'] := ((((Keep.of_wr W4).trans (Keep.of_wr W5) (fun x hx => Or.inl hx)).trans (Keep.of_wr W6) (fun x hx => Or.inl hx)).trans (Keep.of_wr W7) (fun x hx => Or.inl hx))
    have nab : a ∉ [b'] := ninS (fun e => hba e.symm) nin0
    have Ex2 := Ex.keep KA
    have Vx2 := Vx.keep KA nab
    have Nx2 := Nx.keep KA nab
    have Cx2 := Cx0.keep KA nab
    have Ab : Ary Z hp7 b' .byte (lat (cs ++ nul4) ++ rs) := by have q := A7; rw [lat_app]; simpa [lat, List.append_assoc] using q
    have Xb := Bx.2.1.keep KA
    refine Own.goto_ C d42_59 ?_
    refine Own.aloadN C d42_76 rfl rfl ?_
    refine Own.iloadN C d42_77 rfl ?_
    refine putF_ C (v' := .int (natI (cs.length + 4))) (ty := .int) (hw _ (List.mem_of_getElem? (i := 74) rfl)) Nx2 Ex2 (Or.inl (hw _ (List.mem_of_getElem? (i := 75) rfl))) (hw _ (List.mem_of_getElem? (i := 34) rfl)) (by decide) rfl rfl (by simp) d42_78 (fun hp8 W9 => ?_)
    refine Own.aloadN C d42_81 rfl rfl ?_
    exact retA C (gs := [b']) rfl rfl d42_82 (dle rfl) (by omega) (by simp) ⟨rfl, b', cap', rfl, ⟨Ex2.wr W9, Vx2.other W9 (Or.inr hvn), by rw [List.length_append]; exact Nx2.same W9, Cx2.other W9 (Or.inr hcn), ⟨rs, ⟨Ab.keep (Keep.of_wr W9) (ninS hba nin0), Xb.keep (Keep.of_wr W9), fun v hv => by rcases List.mem_append.mp hv with z | z; exact fits_lat v z; exact Bx.2.2 v (List.mem_append_right _ (by simp [z]))⟩, by rw [List.length_append]; simp only [List.length_cons, List.length_nil]; omega⟩, fun c hc => by rcases List.mem_append.mp hc with z | z; exact hcs c z; (simp only [List.mem_cons, List.not_mem_nil, or_false] at z; rcases z with rfl | rfl | rfl | rfl <;> decide), hcap⟩, hcap2⟩
set_option maxRecDepth 65536 in
set_option maxHeartbeats 4000000 in
theorem k_asbapp0 {Z : State} {a0 : Array Value} (hw : ∀ d ∈ tables_1, d.before a0 Z = true) (hs : Stt Z) {n0 : Nat} {h0 : Heap} {a b : Addr} {cs : List Int32} {cap N : Nat} (S : Sb Z h0 a b cs cap) (hN : cs.length + 4 ≤ N ∧ 2 * cap + 2 ≤ N ∧ N ≤ 4096) (hc1 : 1 ≤ cap) (O : Old Z n0 h0) :
    Con WD Z EL0 n0 (⟨"java/lang/AbstractStringBuilder", "append", "(Ljava/lang/String;)Ljava/lang/AbstractStringBuilder;"⟩ : MethodName) jdk_68_method_22_code 3 (some (.object "java/lang/AbstractStringBuilder")) (Rm 5 1 (0 + 1 * N) 76) [(.ref a), .null] h0 [a, b] (fun v h gs => v = some (.ref a) ∧ ∃ (b' : Addr) (cap' : Nat), gs = [b'] ∧ Sb Z h a b' (cs ++ nul4) cap' ∧ (cap' = cap ∨ cap' = cap + max (cs.length + 4 - cap) (cap + 2))) := by
  refine Con.of (a0 := a0) (by first | (exact plainFor_of_name (by first | (simp [plainName, overriddenIn]; done) | decide +kernel)) | decide +kernel) (hEL hw) hWE O (L0 := #[.val (.ref a), .val .null, .unset]) (fun m => by first | rfl | (simp [entryFrame, mkF, argsToLocals, Value.category]; done)) ?_
  intro K C hh
  refine Own.aloadN C d9_0 rfl rfl ?_
  refine ifnonnullN (b := 0) C d9_1 ?_
  refine Own.aloadN C d9_4 rfl rfl ?_
  refine callP_ C (as' := []) (st := []) (hw _ (List.mem_of_getElem? (i := 255) rfl)) (hw _ (List.mem_of_getElem? (i := 256) rfl)) (hw _ (List.mem_of_getElem? (i := 258) rfl)) (hw _ (List.mem_of_getElem? (i := 257) rfl)) (hw _ (List.mem_of_getElem? (i := 43) rfl)) (hw _ (List.mem_of_getElem? (i := 259) rfl)) ⟨by decide, by decide⟩ S.1 pd__28_29Ljava_2flang_2fAbstractStringBuilder_3b rfl (fun O => k_appendNull (N := N) hw hs S hN hc1 O) (by simp) rfl (dle rfl) (dle rfl) (dle rfl) (by omega) d9_5 rfl (fun v1 hp1 gs1 K1 Q1 => ?_)
  obtain ⟨rfl, b', cap', rfl, Sx2, hc2⟩ := Q1
  show Go _ K Z _ n0 _ _ 8 #[.val (.ref a), .val .null, .unset] [(.ref a)] hp1 _ _ _
  exact retA C (gs := [b']) rfl rfl d9_8 (dle rfl) (by omega) (by simp) ⟨rfl, b', cap', rfl, Sx2, hc2⟩
set_option maxRecDepth 65536 in
set_option maxHeartbeats 4000000 in
theorem k_append0 {Z : State} {a0 : Array Value} (hw : ∀ d ∈ tables_1, d.before a0 Z = true) (hs : Stt Z) {n0 : Nat} {h0 : Heap} {a b : Addr} {cs : List Int32} {cap N : Nat} (S : Sb Z h0 a b cs cap) (hN : cs.length + 4 ≤ N ∧ 2 * cap + 2 ≤ N ∧ N ≤ 4096) (hc1 : 1 ≤ cap) (O : Old Z n0 h0) :
    Con WD Z EL0 n0 (⟨"java/lang/StringBuilder", "append", "(Ljava/lang/String;)Ljava/lang/StringBuilder;"⟩ : MethodName) jdk_67_method_7_code 2 (some (.object "java/lang/StringBuilder")) (Rm 6 1 (0 + 1 * N) 90) [(.ref a), .null] h0 [a, b] (fun v h gs => v = some (.ref a) ∧ ∃ (b' : Addr) (cap' : Nat), gs = [b'] ∧ Sb Z h a b' (cs ++ nul4) cap' ∧ (cap' = cap ∨ cap' = cap + max (cs.length + 4 - cap) (cap + 2))) := by
  refine Con.of (a0 := a0) (by first | (exact plainFor_of_name (by first | (simp [plainName, overriddenIn]; done) | decide +kernel)) | decide +kernel) (hEL hw) hWE O (L0 := #[.val (.ref a), .val .null]) (fun m => by first | rfl | (simp [entryFrame, mkF, argsToLocals, Value.category]; done)) ?_
  intro K C hh
  refine Own.aloadN C d8_0 rfl rfl ?_
  refine Own.aloadN C d8_1 rfl rfl ?_
  refine callU_ C (as' := [.null]) (st := []) (hw _ (List.mem_of_getElem? (i := 59) rfl)) (same_of (x := ⟨"java/lang/AbstractStringBuilder", "ensureCapacityInternal", "(I)V"⟩) rfl (hw _ (List.mem_of_getElem? (i := 62) rfl)) (hw _ (List.mem_of_getElem? (i := 79) rfl)) ⟨by decide, by decide⟩) (hw _ (List.mem_of_getElem? (i := 60) rfl)) (hw _ (List.mem_of_getElem? (i := 61) rfl)) (by decide) (hw _ (List.mem_of_getElem? (i := 43) rfl)) (hw _ (List.mem_of_getElem? (i := 63) rfl)) S.1 pd__28Ljava_2flang_2fString_3b_29Ljava_2flang_2fAbstractStringBuilder_3b rfl (fun O => k_asbapp0 (N := N) hw hs S hN hc1 O) (by simp) rfl (dle rfl) (dle rfl) (dle rfl) (by omega) d8_2 rfl (fun v1 hp1 gs1 K1 Q1 => ?_)
  obtain ⟨rfl, b', cap', rfl, Sx2, hc2⟩ := Q1
  show Go _ K Z _ n0 _ _ 5 #[.val (.ref a), .val .null] [(.ref a)] hp1 _ _ _
  refine Own.pop C d8_5 rfl ?_
  refine Own.aloadN C d8_6 rfl rfl ?_
  exact retA C (gs := [b']) rfl rfl d8_7 (dle rfl) (by omega) (by simp) ⟨rfl, b', cap', rfl, Sx2, hc2⟩
set_option maxRecDepth 65536 in
theorem thw {Z : State} {a0 : Array Value} (hw : ∀ d ∈ tables_1, d.before a0 Z = true) : ∀ x ∈ thAtoms "com/example/loadbay/loadbay/Refusal", x.before a0 Z = true := by
  intro d hd
  simp only [thAtoms, List.mem_cons, List.not_mem_nil, or_false] at hd
  rcases hd with rfl | rfl | rfl | rfl | rfl | rfl | rfl | rfl | rfl | rfl | rfl | rfl | rfl | rfl | rfl | rfl | rfl | rfl | rfl | rfl | rfl | rfl | rfl | rfl | rfl | rfl | rfl | rfl | rfl | rfl | rfl
  · exact (hw _ (List.mem_of_getElem? (i := 175) rfl))
  · exact (hw _ (List.mem_of_getElem? (i := 193) rfl))
  · exact (hw _ (List.mem_of_getElem? (i := 188) rfl))
  · exact (hw _ (List.mem_of_getElem? (i := 194) rfl))
  · exact (hw _ (List.mem_of_getElem? (i := 195) rfl))
  · exact (hw _ (List.mem_of_getElem? (i := 196) rfl))
  · exact (hw _ (List.mem_of_getElem? (i := 21) rfl))
  · exact (hw _ (List.mem_of_getElem? (i := 22) rfl))
  · exact (hw _ (List.mem_of_getElem? (i := 177) rfl))
  · exact (hw _ (List.mem_of_getElem? (i := 186) rfl))
  · exact (hw _ (List.mem_of_getElem? (i := 199) rfl))
  · exact (hw _ (List.mem_of_getElem? (i := 178) rfl))
  · exact (hw _ (List.mem_of_getElem? (i := 181) rfl))
  · exact (hw _ (List.mem_of_getElem? (i := 184) rfl))
  · exact (hw _ (List.mem_of_getElem? (i := 180) rfl))
  · exact (hw _ (List.mem_of_getElem? (i := 206) rfl))
  · exact (hw _ (List.mem_of_getElem? (i := 183) rfl))
  · exact (hw _ (List.mem_of_getElem? (i := 207) rfl))
  · exact (hw _ (List.mem_of_getElem? (i := 204) rfl))
  · exact (hw _ (List.mem_of_getElem? (i := 191) rfl))
  · exact (hw _ (List.mem_of_getElem? (i := 192) rfl))
  · exact (hw _ (List.mem_of_getElem? (i := 190) rfl))
  · exact (hw _ (List.mem_of_getElem? (i := 187) rfl))
  · exact (hw _ (List.mem_of_getElem? (i := 189) rfl))
  · exact (hw _ (List.mem_of_getElem? (i := 208) rfl))
  · exact (hw _ (List.mem_of_getElem? (i := 179) rfl))
  · exact (hw _ (List.mem_of_getElem? (i := 182) rfl))
  · exact (hw _ (List.mem_of_getElem? (i := 185) rfl))
  · exact (hw _ (List.mem_of_getElem? (i := 209) rfl))
  · exact (hw _ (List.mem_of_getElem? (i := 210) rfl))
  · exact (hw _ (List.mem_of_getElem? (i := 211) rfl))
def cs34 : List Int32 := [(110 : Int32), (111 : Int32), (116 : Int32), (32 : Int32), (97 : Int32), (110 : Int32), (32 : Int32), (101 : Int32), (110 : Int32), (99 : Int32), (111 : Int32), (100 : Int32), (105 : Int32), (110 : Int32), (103 : Int32), (32 : Int32), (116 : Int32), (104 : Int32), (101 : Int32), (32 : Int32), (115 : Int32), (101 : Int32), (114 : Int32), (118 : Int32), (101 : Int32), (114 : Int32), (32 : Int32), (116 : Int32), (97 : Int32), (107 : Int32), (101 : Int32), (115 : Int32), (58 : Int32), (32 : Int32)]
theorem cs34_lt : ∀ c ∈ cs34, 0 ≤ c.toInt ∧ c.toInt < 128 := by decide +kernel
theorem cs34_len : cs34.length = 34 := rfl
theorem lat_ascii {cs : List Int32} (h : ∀ c ∈ cs, 0 ≤ c.toInt ∧ c.toInt < 128) : lat cs = cs.map Value.int := List.map_congr_left fun c hc => by rw [narb_id ⟨by have := (h c hc).1; omega, (h c hc).2⟩]
theorem lat34 : lat cs34 = [.int 110, .int 111, .int 116, .int 32, .int 97, .int 110, .int 32, .int 101, .int 110, .int 99, .int 111, .int 100, .int 105, .int 110, .int 103, .int 32, .int 116, .int 104, .int 101, .int 32, .int 115, .int 101, .int 114, .int 118, .int 101, .int 114, .int 32, .int 116, .int 97, .int 107, .int 101, .int 115, .int 58, .int 32] := (lat_ascii cs34_lt).trans rfl
set_option maxRecDepth 65536 in
set_option maxHeartbeats 4000000 in
theorem k_thr {Z : State} {a0 : Array Value} (hw : ∀ d ∈ tables_1, d.before a0 Z = true) (hs : Stt Z) {n0 : Nat} {h0 : Heap} {a s : Addr} (E : Exa Z h0 a "com/example/loadbay/loadbay/Refusal") (N : Unt h0 a) (FB : (Fld Z h0 a "java/lang/Throwable" "backtrace" "Ljava/lang/Object;" .null)) (O : Old Z n0 h0) :
    Con WD Z EL0 n0 (⟨"java/lang/Throwable", "<init>", "(Ljava/lang/String;)V"⟩ : MethodName) jdk_78_method_2_code 2 none (Rm 3 1 2752 42) [(.ref a), (.ref s)] h0 [a] (fun v h gs => v = none ∧ gs = [] ∧ Exa Z h a "com/example/loadbay/loadbay/Refusal" ∧ Knw h a) := by
  refine Con.of (a0 := a0) (by first | (exact plainFor_of_name (by first | (simp [plainName, overriddenIn]; done) | decide +kernel)) | decide +kernel) (hEL hw) hWE O (L0 := #[.val (.ref a), .val (.ref s)]) (fun m => by first | rfl | (simp [entryFrame, mkF, argsToLocals, Value.category]; done)) ?_
  intro K C hh
  obtain ⟨x0, Su0⟩ := st_u hs
  obtain ⟨y0, Ss0⟩ := st_s hs
  have nbc := slot_ne (Or.inl (hw _ (List.mem_of_getElem? (i := 210) rfl)) : Laid Z a0 "com/example/loadbay/loadbay/Refusal" "java/lang/Throwable" "backtrace" "Ljava/lang/Object;") (Or.inl (hw _ (List.mem_of_getElem? (i := 179) rfl)) : Laid Z a0 "com/example/loadbay/loadbay/Refusal" "java/lang/Throwable" "cause" "Ljava/lang/Throwable;") (by decide) (t := .object "java/lang/Object") (t' := .object "java/lang/Throwable") (by decide) (by decide)
  have nbs := slot_ne (Or.inl (hw _ (List.mem_of_getElem? (i := 210) rfl)) : Laid Z a0 "com/example/loadbay/loadbay/Refusal" "java/lang/Throwable" "backtrace" "Ljava/lang/Object;") (Or.inl (hw _ (List.mem_of_getElem? (i := 182) rfl)) : Laid Z a0 "com/example/loadbay/loadbay/Refusal" "java/lang/Throwable" "stackTrace" "[Ljava/lang/StackTraceElement;") (by decide) (t := .object "java/lang/Object") (t' := .array (.object "java/lang/StackTraceElement")) (by decide) (by decide)
  have nbp := slot_ne (Or.inl (hw _ (List.mem_of_getElem? (i := 210) rfl)) : Laid Z a0 "com/example/loadbay/loadbay/Refusal" "java/lang/Throwable" "backtrace" "Ljava/lang/Object;") (Or.inl (hw _ (List.mem_of_getElem? (i := 185) rfl)) : Laid Z a0 "com/example/loadbay/loadbay/Refusal" "java/lang/Throwable" "suppressedExceptions" "Ljava/util/List;") (by decide) (t := .object "java/lang/Object") (t' := .object "java/util/List") (by decide) (by decide)
  have nsp := slot_ne (Or.inl (hw _ (List.mem_of_getElem? (i := 182) rfl)) : Laid Z a0 "com/example/loadbay/loadbay/Refusal" "java/lang/Throwable" "stackTrace" "[Ljava/lang/StackTraceElement;") (Or.inl (hw _ (List.mem_of_getElem? (i := 185) rfl)) : Laid Z a0 "com/example/loadbay/loadbay/Refusal" "java/lang/Throwable" "suppressedExceptions" "Ljava/util/List;") (by decide) (t := .array (.object "java/lang/StackTraceElement")) (t' := .object "java/util/List") (by decide) (by decide)
  refine Own.aloadN C d33_0 rfl rfl ?_
  refine initO_ C (hw _ (List.mem_of_getElem? (i := 177) rfl)) (hw _ (List.mem_of_getElem? (i := 21) rfl)) (hw _ (List.mem_of_getElem? (i := 22) rfl)) rfl (dle rfl) (dle rfl) d33_1 ?_
  refine Own.aloadN C d33_4 rfl rfl ?_
  refine Own.aloadN C d33_5 rfl rfl ?_
  obtain ⟨ov1, Ov1⟩ := fld_laid E N.known (hw _ (List.mem_of_getElem? (i := 32) rfl)) (Or.inl (hw _ (List.mem_of_getElem? (i := 179) rfl)) : Laid Z a0 "com/example/loadbay/loadbay/Refusal" "java/lang/Throwable" "cause" "Ljava/lang/Throwable;")
  refine putF_ C (v' := .ref a) (ty := (.object "java/lang/Throwable")) (hw _ (List.mem_of_getElem? (i := 178) rfl)) Ov1 E (Or.inl (hw _ (List.mem_of_getElem? (i := 179) rfl))) (hw _ (List.mem_of_getElem? (i := 32) rfl)) (by decide) rfl rfl (by simp) d33_6 (fun hp1 W2 => ?_)
  have Ex1 := E.wr W2
  have Nx1 := Unt.wr W2 N
  have Bx1 := FB.other W2 (Or.inr nbc)
  refine Own.aloadN C d33_9 rfl rfl ?_
  refine getS_ C (hw _ (List.mem_of_getElem? (i := 180) rfl)) Su0 d33_10 ?_
  obtain ⟨ov2, Ov2⟩ := fld_laid Ex1 Nx1.known (hw _ (List.mem_of_getElem? (i := 32) rfl)) (Or.inl (hw _ (List.mem_of_getElem? (i := 182) rfl)) : Laid Z a0 "com/example/loadbay/loadbay/Refusal" "java/lang/Throwable" "stackTrace" "[Ljava/lang/StackTraceElement;")
  refine putF_ C (v' := .ref x0) (ty := (.array (.object "java/lang/StackTraceElement"))) (hw _ (List.mem_of_getElem? (i := 181) rfl)) Ov2 Ex1 (Or.inl (hw _ (List.mem_of_getElem? (i := 182) rfl))) (hw _ (List.mem_of_getElem? (i := 32) rfl)) (by decide) rfl rfl (by simp) d33_13 (fun hp3 W4 => ?_)
  have Ex2 := Ex1.wr W4
  have Nx2 := Unt.wr W4 Nx1
  have Bx2 := Bx1.other W4 (Or.inr nbs)
  have Sx2 := Ov2.same W4
  refine Own.aloadN C d33_16 rfl rfl ?_
  refine getS_ C (hw _ (List.mem_of_getElem? (i := 183) rfl)) Ss0 d33_17 ?_
  obtain ⟨ov3, Ov3⟩ := fld_laid Ex2 Nx2.known (hw _ (List.mem_of_getElem? (i := 32) rfl)) (Or.inl (hw _ (List.mem_of_getElem? (i := 185) rfl)) : Laid Z a0 "com/example/loadbay/loadbay/Refusal" "java/lang/Throwable" "suppressedExceptions" "Ljava/util/List;")
  refine putF_ C (v' := .ref y0) (ty := (.object "java/util/List")) (hw _ (List.mem_of_getElem? (i := 184) rfl)) Ov3 Ex2 (Or.inl (hw _ (List.mem_of_getElem? (i := 185) rfl))) (hw _ (List.mem_of_getElem? (i := 32) rfl)) (by decide) rfl rfl (by simp) d33_20 (fun hp5 W6 => ?_)
  have Ex3 := Ex2.wr W6
  have Nx3 := Unt.wr W6 Nx2
  have Bx3 := Bx2.other W6 (Or.inr nbp)
  have Sx3 := Sx2.other W6 (Or.inr nsp)
  refine Own.aloadN C d33_23 rfl rfl ?_
  refine fill_ C (hh ▸ O.2) (thw hw) (hw _ (List.mem_of_getElem? (i := 32) rfl)) Ex3 Nx3 Su0 Sx3 Bx3 (by simp) rfl (dle rfl) (dle rfl) (dle rfl) (dle rfl) d33_24 (fun hp7 K7 => ?_)
  have Ex4 := Ex3.keep K7
  have Kn4 := Knw.keep Nx3.known K7
  refine Own.pop C d33_27 rfl ?_
  refine Own.aloadN C d33_28 rfl rfl ?_
  refine Own.aloadN C d33_29 rfl rfl ?_
  obtain ⟨ov4, Ov4⟩ := fld_laid Ex4 Kn4 (hw _ (List.mem_of_getElem? (i := 32) rfl)) (Or.inl (hw _ (List.mem_of_getElem? (i := 209) rfl)) : Laid Z a0 "com/example/loadbay/loadbay/Refusal" "java/lang/Throwable" "detailMessage" "Ljava/lang/String;")
  refine putF_ C (v' := .ref s) (ty := (.object "java/lang/String")) (hw _ (List.mem_of_getElem? (i := 213) rfl)) Ov4 Ex4 (Or.inl (hw _ (List.mem_of_getElem? (i := 209) rfl))) (hw _ (List.mem_of_getElem? (i := 32) rfl)) (by decide) rfl rfl (by simp) d33_30 (fun hp8 W9 => ?_)
  exact retV C (gs := []) d33_33 (dle rfl) (dle rfl) (fun _ q => nomatch q) ⟨rfl, rfl, Ex4.wr W9, Kn4.keep (Keep.of_wr W9)⟩
set_option maxRecDepth 65536 in
set_option maxHeartbeats 4000000 in
theorem k_exc {Z : State} {a0 : Array Value} (hw : ∀ d ∈ tables_1, d.before a0 Z = true) (hs : Stt Z) {n0 : Nat} {h0 : Heap} {a s : Addr} (E : Exa Z h0 a "com/example/loadbay/loadbay/Refusal") (N : Unt h0 a) (FB : (Fld Z h0 a "java/lang/Throwable" "backtrace" "Ljava/lang/Object;" .null)) (O : Old Z n0 h0) :
    Con WD Z EL0 n0 (⟨"java/lang/Exception", "<init>", "(Ljava/lang/String;)V"⟩ : MethodName) jdk_59_method_2_code 2 none (Rm 4 1 2752 55) [(.ref a), (.ref s)] h0 [a] (fun v h gs => v = none ∧ gs = [] ∧ Exa Z h a "com/example/loadbay/loadbay/Refusal" ∧ Knw h a) := by
  refine Con.of (a0 := a0) (by first | (exact plainFor_of_name (by first | (simp [plainName, overriddenIn]; done) | decide +kernel)) | decide +kernel) (hEL hw) hWE O (L0 := #[.val (.ref a), .val (.ref s)]) (fun m => by first | rfl | (simp [entryFrame, mkF, argsToLocals, Value.category]; done)) ?_
  intro K C hh
  refine Own.aloadN C d32_0 rfl rfl ?_
  refine Own.aloadN C d32_1 rfl rfl ?_
  refine callI_ C (as' := [(.ref s)]) (st := []) rfl (hw _ (List.mem_of_getElem? (i := 171) rfl)) (hw _ (List.mem_of_getElem? (i := 172) rfl)) (hw _ (List.mem_of_getElem? (i := 175) rfl)) (hw _ (List.mem_of_getElem? (i := 176) rfl)) ⟨by decide, by decide⟩ pd__28Ljava_2flang_2fString_3b_29V rfl (fun O => k_thr hw hs E N FB O) (by simp) rfl (dle rfl) (dle rfl) (dle rfl) (dle rfl) d32_2 rfl (fun v1 hp1 gs1 K1 Q1 => ?_)
  obtain ⟨rfl, rfl, Ex1, Kn1⟩ := Q1
  show Go _ K Z _ n0 _ _ 5 #[.val (.ref a), .val (.ref s)] [] hp1 _ _ _
  exact retV C (gs := []) d32_5 (dle rfl) (dle rfl) (fun _ q => nomatch q) ⟨rfl, rfl, Ex1, Kn1⟩
set_option maxRecDepth 65536 in
set_option maxHeartbeats 4000000 in
theorem k_rinit {Z : State} {a0 : Array Value} (hw : ∀ d ∈ tables_1, d.before a0 Z = true) (hs : Stt Z) {n0 : Nat} {h0 : Heap} {a s : Addr} (E : Exa Z h0 a "com/example/loadbay/loadbay/Refusal") (N : Unt h0 a) (FB : (Fld Z h0 a "java/lang/Throwable" "backtrace" "Ljava/lang/Object;" .null)) {p q : Int32} (O : Old Z n0 h0) :
    Con WD Z EL0 n0 (⟨"com/example/loadbay/loadbay/Refusal", "<init>", "(IILjava/lang/String;)V"⟩ : MethodName) prog_5_method_1_code 4 none (Rm 5 1 2752 68) [(.ref a), (.int p), (.int q), (.ref s)] h0 [a] (fun v h gs => v = none ∧ gs = [] ∧ Exa Z h a "com/example/loadbay/loadbay/Refusal" ∧ (Fld Z h a "com/example/loadbay/loadbay/Refusal" "httpStatus" "I" (.int p)) ∧ (Fld Z h a "com/example/loadbay/loadbay/Refusal" "agileStatus" "I" (.int q))) := by
  refine Con.of (a0 := a0) (by first | (exact plainFor_of_name (by first | (simp [plainName, overriddenIn]; done) | decide +kernel)) | decide +kernel) (hEL hw) hWE O (L0 := #[.val (.ref a), .val (.int p), .val (.int q), .val (.ref s)]) (fun m => by first | rfl | (simp [entryFrame, mkF, argsToLocals, Value.category]; done)) ?_
  intro K C hh
  have hha := slot_ne (Or.inr (hw _ (List.mem_of_getElem? (i := 215) rfl)) : Laid Z a0 "com/example/loadbay/loadbay/Refusal" "com/example/loadbay/loadbay/Refusal" "httpStatus" "I") (Or.inr (hw _ (List.mem_of_getElem? (i := 217) rfl)) : Laid Z a0 "com/example/loadbay/loadbay/Refusal" "com/example/loadbay/loadbay/Refusal" "agileStatus" "I") (by decide) (t := .int) (t' := .int) (by decide) (by decide)
  refine Own.aloadN C d31_0 rfl rfl ?_
  refine Own.aloadN C d31_1 rfl rfl ?_
  refine callI_ C (as' := [(.ref s)]) (st := []) rfl (hw _ (List.mem_of_getElem? (i := 166) rfl)) (hw _ (List.mem_of_getElem? (i := 167) rfl)) (hw _ (List.mem_of_getElem? (i := 169) rfl)) (hw _ (List.mem_of_getElem? (i := 170) rfl)) ⟨by decide, by decide⟩ pd__28Ljava_2flang_2fString_3b_29V rfl (fun O => k_exc hw hs E N FB O) (by simp) rfl (dle rfl) (dle rfl) (dle rfl) (dle rfl) d31_2 rfl (fun v1 hp1 gs1 K1 Q1 => ?_)
  obtain ⟨rfl, rfl, Ex1, Kn1⟩ := Q1
  show Go _ K Z _ n0 _ _ 5 #[.val (.ref a), .val (.int p), .val (.int q), .val (.ref s)] [] hp1 _ _ _
  refine Own.aloadN C d31_5 rfl rfl ?_
  refine Own.iloadN C d31_6 rfl ?_
  obtain ⟨ov1, Ov1⟩ := fld_laid Ex1 Kn1 (hw _ (List.mem_of_getElem? (i := 32) rfl)) (Or.inr (hw _ (List.mem_of_getElem? (i := 215) rfl)) : Laid Z a0 "com/example/loadbay/loadbay/Refusal" "com/example/loadbay/loadbay/Refusal" "httpStatus" "I")
  refine putF_ C (v' := .int p) (ty := .int) (hw _ (List.mem_of_getElem? (i := 214) rfl)) Ov1 Ex1 (Or.inr ⟨(hw _ (List.mem_of_getElem? (i := 215) rfl)), rfl, rfl⟩) (hw _ (List.mem_of_getElem? (i := 32) rfl)) (by decide) rfl rfl (by simp) d31_7 (fun hp2 W3 => ?_)
  have Ex2 := Ex1.wr W3
  have Hx2 := Ov1.same W3
  have Kn2 := Kn1.keep (Keep.of_wr W3)
  refine Own.aloadN C d31_10 rfl rfl ?_
  refine Own.iloadN C d31_11 rfl ?_
  obtain ⟨ov2, Ov2⟩ := fld_laid Ex2 Kn2 (hw _ (List.mem_of_getElem? (i := 32) rfl)) (Or.inr (hw _ (List.mem_of_getElem? (i := 217) rfl)) : Laid Z a0 "com/example/loadbay/loadbay/Refusal" "com/example/loadbay/loadbay/Refusal" "agileStatus" "I")
  refine putF_ C (v' := .int q) (ty := .int) (hw _ (List.mem_of_getElem? (i := 216) rfl)) Ov2 Ex2 (Or.inr ⟨(hw _ (List.mem_of_getElem? (i := 217) rfl)), rfl, rfl⟩) (hw _ (List.mem_of_getElem? (i := 32) rfl)) (by decide) rfl rfl (by simp) d31_12 (fun hp4 W5 => ?_)
  exact retV C (gs := []) d31_15 (dle rfl) (dle rfl) (fun _ q => nomatch q) ⟨rfl, rfl, Ex2.wr W5, Hx2.other W5 (Or.inr hha), Ov2.same W5⟩
set_option maxRecDepth 65536 in
set_option maxHeartbeats 4000000 in
theorem k_httpStatus {Z : State} {a0 : Array Value} (hw : ∀ d ∈ tables_1, d.before a0 Z = true) (hs : Stt Z) {n0 : Nat} {h0 : Heap} {a : Addr} {p : Int32} (Ff : (Fld Z h0 a "com/example/loadbay/loadbay/Refusal" "httpStatus" "I" (.int p))) (O : Old Z n0 h0) :
    Con WD Z EL0 n0 (⟨"com/example/loadbay/loadbay/Refusal", "httpStatus", "()I"⟩ : MethodName) prog_5_method_26_code 1 (some .int) (Rm 0 0 0 0) [(.ref a)] h0 [] (fun v h gs => v = some (.int p) ∧ gs = []) := by
  refine Con.of (a0 := a0) (by first | (exact plainFor_of_name (by first | (simp [plainName, overriddenIn]; done) | decide +kernel)) | decide +kernel) (hEL hw) hWE O (L0 := #[.val (.ref a)]) (fun m => by first | rfl | (simp [entryFrame, mkF, argsToLocals, Value.category]; done)) ?_
  intro K C hh
  refine Own.aloadN C d35_0 rfl rfl ?_
  refine getF_ C (hw _ (List.mem_of_getElem? (i := 214) rfl)) Ff d35_1 ?_
  exact retI_ C (gs := []) d35_4 (dle rfl) (dle rfl) (fun _ q => nomatch q) ⟨rfl, rfl⟩
set_option maxRecDepth 65536 in
set_option maxHeartbeats 4000000 in
theorem k_agileStatus {Z : State} {a0 : Array Value} (hw : ∀ d ∈ tables_1, d.before a0 Z = true) (hs : Stt Z) {n0 : Nat} {h0 : Heap} {a : Addr} {p : Int32} (Ff : (Fld Z h0 a "com/example/loadbay/loadbay/Refusal" "agileStatus" "I" (.int p))) (O : Old Z n0 h0) :
    Con WD Z EL0 n0 (⟨"com/example/loadbay/loadbay/Refusal", "agileStatus", "()I"⟩ : MethodName) prog_5_method_27_code 1 (some .int) (Rm 0 0 0 0) [(.ref a)] h0 [] (fun v h gs => v = some (.int p) ∧ gs = []) := by
  refine Con.of (a0 := a0) (by first | (exact plainFor_of_name (by first | (simp [plainName, overriddenIn]; done) | decide +kernel)) | decide +kernel) (hEL hw) hWE O (L0 := #[.val (.ref a)]) (fun m => by first | rfl | (simp [entryFrame, mkF, argsToLocals, Value.category]; done)) ?_
  intro K C hh
  refine Own.aloadN C d36_0 rfl rfl ?_
  refine getF_ C (hw _ (List.mem_of_getElem? (i := 216) rfl)) Ff d36_1 ?_
  exact retI_ C (gs := []) d36_4 (dle rfl) (dle rfl) (fun _ q => nomatch q) ⟨rfl, rfl⟩
set_option maxRecDepth 65536 in
set_option maxHeartbeats 4000000 in
theorem k_bad {Z : State} {a0 : Array Value} (hw : ∀ d ∈ tables_1, d.before a0 Z = true) (hs : Stt Z) {n0 : Nat} {h0 : Heap} {s : Addr} {ds : List Int32} (F : Str Z h0 s ds) (hds : ∀ c ∈ ds, c.toInt < 256) (hd3 : ds.length ≤ 3) (O : Old Z n0 h0) :
    Con WD Z EL0 n0 (⟨"com/example/loadbay/loadbay/Refusal", "badEncoding", "(Ljava/lang/String;)Lcom/example/loadbay/loadbay/Refusal;"⟩ : MethodName) prog_5_method_9_code 1 (some (.object "com/example/loadbay/loadbay/Refusal")) (Rm 6 10 3244 95) [(.ref s)] h0 [] (fun v h gs => gs = [] ∧ ∃ r : Addr, v = some (.ref r) ∧ Exa Z h r "com/example/loadbay/loadbay/Refusal" ∧ (Fld Z h r "com/example/loadbay/loadbay/Refusal" "httpStatus" "I" (.int 400)) ∧ (Fld Z h r "com/example/loadbay/loadbay/Refusal" "agileStatus" "I" (.int (-51)))) := by
  refine Con.of (a0 := a0) (by first | (exact plainFor_of_name (by first | (simp [plainName, overriddenIn]; done) | decide +kernel)) | decide +kernel) (hEL hw) hWE O (L0 := #[.val (.ref s)]) (fun m => by first | rfl | (simp [entryFrame, mkF, argsToLocals, Value.category]; done)) ?_
  intro K C hh
  refine newU_ C (hw _ (List.mem_of_getElem? (i := 31) rfl)) (hw _ (List.mem_of_getElem? (i := 32) rfl)) (hw _ (List.mem_of_getElem? (i := 29) rfl)) (dle rfl) (dle rfl) d5_0 (fun hp1 K1 lt1 le1 ⟨E1, F1, U1⟩ => ?_)
  obtain ⟨r, g1⟩ : ∃ z, z = h0.size := ⟨_, rfl⟩
  rw [← g1] at E1 U1 F1 lt1 le1 ⊢
  have FB := F1 (Or.inl (hw _ (List.mem_of_getElem? (i := 210) rfl)) : Laid Z a0 "com/example/loadbay/loadbay/Refusal" "java/lang/Throwable" "backtrace" "Ljava/lang/Object;") (ty := .object "java/lang/Object") (by decide)
  have Er1 := E1
  have Nr1 := U1
  have Fx1 := F.keep K1
  refine Own.dup C d5_3 rfl ?_
  refine Own.sipush (v := 400) C d5_4 rfl ?_
  refine Own.bipush (v := -51) C d5_7 rfl ?_
  refine new_ C (hw _ (List.mem_of_getElem? (i := 33) rfl)) (hw _ (List.mem_of_getElem? (i := 34) rfl)) (hw _ (List.mem_of_getElem? (i := 35) rfl)) (dle rfl) (dle rfl) d5_9 (fun hp2 K2 lt2 le2 ⟨E2, F2⟩ => ?_)
  obtain ⟨sb, g2⟩ : ∃ z, z = hp1.size := ⟨_, rfl⟩
  rw [← g2] at E2 F2 lt2 le2 ⊢
  have Fv := F2 (Or.inl (hw _ (List.mem_of_getElem? (i := 48) rfl)) : Laid Z a0 "java/lang/StringBuilder" "java/lang/AbstractStringBuilder" "value" "[B") (ty := .array .byte) (by decide)
  have Fc := F2 (Or.inl (hw _ (List.mem_of_getElem? (i := 50) rfl)) : Laid Z a0 "java/lang/StringBuilder" "java/lang/AbstractStringBuilder" "coder" "B") (ty := .byte) (by decide)
  have Fn := F2 (Or.inl (hw _ (List.mem_of_getElem? (i := 75) rfl)) : Laid Z a0 "java/lang/StringBuilder" "java/lang/AbstractStringBuilder" "count" "I") (ty := .int) (by decide)
  have Er2 := Er1.keep K2
  have nrs : r ∉ [sb] := ninS (ne_exa Er2 E2 (by decide)) nin0
  refine Own.dup C d5_12 rfl ?_
  have Fx2 := Fx1.keep K2
  refine callI_ C (as' := []) (st := [(.ref sb), (.int (-51 : Int32)), (.int (400 : Int32)), (.ref r), (.ref r)]) rfl (hw _ (List.mem_of_getElem? (i := 36) rfl)) (hw _ (List.mem_of_getElem? (i := 37) rfl)) (hw _ (List.mem_of_getElem? (i := 35) rfl)) (hw _ (List.mem_of_getElem? (i := 38) rfl)) ⟨by decide, by decide⟩ pd__28_29V rfl (fun O => k_sb hw hs E2 Fv Fc Fn O) (by simp) rfl (dle rfl) (dle rfl) (dle rfl) (dle rfl) d5_13 rfl (fun v3 hp3 gs3 K3 Q3 => ?_)
  obtain ⟨rfl, b, rfl, S⟩ := Q3
  show Go _ K Z _ n0 _ _ 16 #[.val (.ref s)] [(.ref sb), (.int (-51 : Int32)), (.int (400 : Int32)), (.ref r), (.ref r)] hp3 _ _ _
  have Er3 := Er2.keep K3
  have Fx3 := Fx2.keepX K3 E2 (by decide) (hw _ (List.mem_of_getElem? (i := 34) rfl))
  refine ldcS_ rfl C (text := "not an encoding the server takes: ") (vs := [.int 110, .int 111, .int 116, .int 32, .int 97, .int 110, .int 32, .int 101, .int 110, .int 99, .int 111, .int 100, .int 105, .int 110, .int 103, .int 32, .int 116, .int 104, .int 101, .int 32, .int 115, .int 101, .int 114, .int 118, .int 101, .int 114, .int 32, .int 116, .int 97, .int 107, .int 101, .int 115, .int 58, .int 32]) (z := 34) (nn := 136) (hw _ (List.mem_of_getElem? (i := 51) rfl)) (wS hw) (by simp) ⟨by decide +kernel, by decide +kernel⟩ (by decide) (by decide) (by decide +kernel) (by decide) (dle rfl) (dle rfl) d5_16 (fun hp4 s4 b4 K4 E4 C4 V4 A4 ne4 => ?_)
  have G : Str Z hp4 s4 cs34 := ⟨E4, fun c hc => ⟨(cs34_lt c hc).1, by have := (cs34_lt c hc).2; omega⟩, by decide, b4, 0, lat cs34, V4, C4, by rw [lat34]; exact A4, Or.inl ⟨fun c hc => by have := (cs34_lt c hc).2; omega, rfl, rfl⟩⟩
  have Sx1 := S.keep K4 nin0 nin0
  have Er4 := Er3.keep K4
  have Fx4 := Fx3.keep K4
  obtain ⟨rest0, Bq0, hlq0⟩ := id Sx1.2.2.2.2.1
  have hsa : NotIn Z hp4 s4 sb := NotIn.of (ne_exa E4 Sx1.1 (by decide)) V4 (A4.neX Sx1.1 (hw _ (List.mem_of_getElem? (i := 34) rfl)))
  have hsb : NotIn Z hp4 s4 b := NotIn.of (fun e => ne_exa E4 Bq0.2.1 (by decide) e) V4 (fun e => by subst e; have t := congrArg List.length (A4.fn Bq0.1); rw [List.length_append, lat_len, hlq0] at t; exact absurd t (by decide))
  have nr4 : r ∉ [sb, b] := ninS (ne_exa Er4 Sx1.1 (by decide)) (ninS (Bq0.1.neX Er4 (hw _ (List.mem_of_getElem? (i := 32) rfl))).symm nin0)
  refine callV_ C (as' := [(.ref s4)]) (st := [(.int (-51 : Int32)), (.int (400 : Int32)), (.ref r), (.ref r)]) (hw _ (List.mem_of_getElem? (i := 54) rfl)) (hw _ (List.mem_of_getElem? (i := 55) rfl)) (fun _ hZ => notFace_of_selects (args := #[]) (mvT hZ (hw _ (List.mem_of_getElem? (i := 57) rfl)))) (hw _ (List.mem_of_getElem? (i := 57) rfl)) (hw _ (List.mem_of_getElem? (i := 56) rfl)) (hw _ (List.mem_of_getElem? (i := 35) rfl)) (hw _ (List.mem_of_getElem? (i := 58) rfl)) ⟨by decide, by decide⟩ Sx1.1 pd__28Ljava_2flang_2fString_3b_29Ljava_2flang_2fStringBuilder_3b rfl (fun O => k_append (N := 64) hw hs Sx1 G (fun c hc => by have := (cs34_lt c hc).2; omega) hsa hsb ⟨by decide, by decide, by decide⟩ (by decide) O) (by simp) rfl (dle rfl) (dle rfl) (dle rfl) (dle rfl) d5_18 rfl (fun v5 hp5 gs5 K5 Q5 => ?_)
  obtain ⟨rfl, b', cap', rfl, Sx2, hcap2⟩ := Q5
  rw [List.nil_append] at Sx2
  have hle2 := Sx2.le
  rw [cs34_len] at hle2
  have hcap3 : cap' = 34 := by rw [cs34_len, List.length_nil] at hcap2; omega
  subst hcap3
  show Go _ K Z _ n0 _ _ 21 #[.val (.ref s)] [(.ref sb), (.int (-51 : Int32)), (.int (400 : Int32)), (.ref r), (.ref r)] hp5 _ _ _
  have Er5 := Er4.keep K5
  obtain ⟨rest1, Bq1, hlq1⟩ := id Sx2.2.2.2.2.1
  have nr5 : r ∉ [sb, b'] := ninS (ne_exa Er5 Sx2.1 (by decide)) (ninS (Bq1.1.neX Er5 (hw _ (List.mem_of_getElem? (i := 32) rfl))).symm nin0)
  refine Own.aloadN C d5_21 rfl rfl ?_
  have lF := F.2.2.1
  have Fx5 : Str Z hp5 s ds := Fx4.keep2 K5 (by obtain ⟨E9, -, -, c9, z9, vs9, V9, -, A9, -⟩ := Fx4; exact NotIn.of (ne_exa E9 Sx1.1 (by decide)) V9 (A9.neX Sx1.1 (hw _ (List.mem_of_getElem? (i := 34) rfl)))) (by obtain ⟨E9, -, -, c9, z9, vs9, V9, -, A9, B9⟩ := Fx4; exact NotIn.of (fun e => ne_exa E9 Bq0.2.1 (by decide) e) V9 (fun e => by subst e; have t := congrArg List.length (A9.fn Bq0.1); rw [List.length_append, lat_len, hlq0] at t; rcases B9.length with ⟨-, u⟩ | ⟨-, u⟩ <;> omega))
  have hsa2 : NotIn Z hp5 s sb := by obtain ⟨E9, -, -, c9, z9, vs9, V9, -, A9, -⟩ := Fx5; exact NotIn.of (ne_exa E9 Sx2.1 (by decide)) V9 (A9.neX Sx2.1 (hw _ (List.mem_of_getElem? (i := 34) rfl)))
  have hsb2 : NotIn Z hp5 s b' := by obtain ⟨E9, -, -, c9, z9, vs9, V9, -, A9, B9⟩ := Fx5; exact NotIn.of (fun e => ne_exa E9 Bq1.2.1 (by decide) e) V9 (fun e => by subst e; have t := congrArg List.length (A9.fn Bq1.1); rw [List.length_append, lat_len, hlq1] at t; rcases B9.length with ⟨-, u⟩ | ⟨-, u⟩ <;> omega)
  refine callV_ C (as' := [(.ref s)]) (st := [(.int (-51 : Int32)), (.int (400 : Int32)), (.ref r), (.ref r)]) (hw _ (List.mem_of_getElem? (i := 54) rfl)) (hw _ (List.mem_of_getElem? (i := 55) rfl)) (fun _ hZ => notFace_of_selects (args := #[]) (mvT hZ (hw _ (List.mem_of_getElem? (i := 57) rfl)))) (hw _ (List.mem_of_getElem? (i := 57) rfl)) (hw _ (List.mem_of_getElem? (i := 56) rfl)) (hw _ (List.mem_of_getElem? (i := 35) rfl)) (hw _ (List.mem_of_getElem? (i := 58) rfl)) ⟨by decide, by decide⟩ Sx2.1 pd__28Ljava_2flang_2fString_3b_29Ljava_2flang_2fStringBuilder_3b rfl (fun O => k_append (N := 128) hw hs Sx2 Fx5 hds hsa2 hsb2 ⟨by rw [cs34_len]; omega, by decide, by decide⟩ (by decide) O) (by simp) rfl (dle rfl) (dle rfl) (dle rfl) (dle rfl) d5_22 rfl (fun v6 hp6 gs6 K6 Q6 => ?_)
  have hlen : (cs34 ++ ds).length ≤ 128 := by rw [List.length_append, cs34_len]; omega
  obtain ⟨rfl, b'', cap'', rfl, Sx3, -⟩ := Q6
  show Go _ K Z _ n0 _ _ 25 #[.val (.ref s)] [(.ref sb), (.int (-51 : Int32)), (.int (400 : Int32)), (.ref r), (.ref r)] hp6 _ _ _
  have Er6 := Er5.keep K6
  refine callV_ C (as' := []) (st := [(.int (-51 : Int32)), (.int (400 : Int32)), (.ref r), (.ref r)]) (hw _ (List.mem_of_getElem? (i := 124) rfl)) (hw _ (List.mem_of_getElem? (i := 125) rfl)) (fun _ hZ => notFace_of_selects (args := #[]) (mvT hZ (hw _ (List.mem_of_getElem? (i := 127) rfl)))) (hw _ (List.mem_of_getElem? (i := 127) rfl)) (hw _ (List.mem_of_getElem? (i := 126) rfl)) (hw _ (List.mem_of_getElem? (i := 35) rfl)) (hw _ (List.mem_of_getElem? (i := 128) rfl)) ⟨by decide, by decide⟩ Sx3.1 pd__28_29Ljava_2flang_2fString_3b rfl (fun O => k_toString (N := 128) hw hs Sx3 ⟨hlen, by decide⟩ O) (fun _ q => nomatch q) rfl (dle rfl) (dle rfl) (dle rfl) (dle rfl) d5_25 rfl (fun v7 hp7 gs7 K7 Q7 => ?_)
  obtain ⟨rfl, t, rfl, -, T⟩ := Q7
  show Go _ K Z _ n0 _ _ 28 #[.val (.ref s)] [(.ref t), (.int (-51 : Int32)), (.int (400 : Int32)), (.ref r), (.ref r)] hp7 _ _ _
  have Er7 := Er6.keep K7
  have FB7 := ((((((FB.keep K2 nin0).keep K3 nrs).keep K4 nin0).keep K5 nr4).keep K6 nr5).keep K7 nin0)
  have Nr7 := (untKeep (untKeep (untKeep (untKeep (untKeep (untKeep Nr1 K2 nin0) K3 nrs) K4 nin0) K5 nr4) K6 nr5) K7 nin0)
  refine callI_ C (as' := [(.int (400 : Int32)), (.int (-51 : Int32)), (.ref t)]) (st := [(.ref r)]) rfl (hw _ (List.mem_of_getElem? (i := 163) rfl)) (hw _ (List.mem_of_getElem? (i := 164) rfl)) (hw _ (List.mem_of_getElem? (i := 29) rfl)) (hw _ (List.mem_of_getElem? (i := 165) rfl)) ⟨by decide, by decide⟩ pd__28IILjava_2flang_2fString_3b_29V rfl (fun O => k_rinit hw hs Er7 Nr7 FB7 O) (by simp) rfl (dle rfl) (dle rfl) (dle rfl) (dle rfl) d5_28 rfl (fun v8 hp8 gs8 K8 Q8 => ?_)
  obtain ⟨rfl, rfl, Er8, Hx, Ax⟩ := Q8
  show Go _ K Z _ n0 _ _ 31 #[.val (.ref s)] [(.ref r)] hp8 _ _ _
  exact retA C (gs := []) rfl rfl d5_31 (dle rfl) (dle rfl) (fun _ q => nomatch q) ⟨rfl, r, rfl, Er8, Hx, Ax⟩
set_option maxRecDepth 65536 in
set_option maxHeartbeats 4000000 in
theorem k_bad0 {Z : State} {a0 : Array Value} (hw : ∀ d ∈ tables_1, d.before a0 Z = true) (hs : Stt Z) {n0 : Nat} {h0 : Heap}  (O : Old Z n0 h0) :
    Con WD Z EL0 n0 (⟨"com/example/loadbay/loadbay/Refusal", "badEncoding", "(Ljava/lang/String;)Lcom/example/loadbay/loadbay/Refusal;"⟩ : MethodName) prog_5_method_9_code 1 (some (.object "com/example/loadbay/loadbay/Refusal")) (Rm 7 10 3244 107) [.null] h0 [] (fun v h gs => gs = [] ∧ ∃ r : Addr, v = some (.ref r) ∧ Exa Z h r "com/example/loadbay/loadbay/Refusal" ∧ (Fld Z h r "com/example/loadbay/loadbay/Refusal" "httpStatus" "I" (.int 400)) ∧ (Fld Z h r "com/example/loadbay/loadbay/Refusal" "agileStatus" "I" (.int (-51)))) := by
  refine Con.of (a0 := a0) (by first | (exact plainFor_of_name (by first | (simp [plainName, overriddenIn]; done) | decide +kernel)) | decide +kernel) (hEL hw) hWE O (L0 := #[.val .null]) (fun m => by first | rfl | (simp [entryFrame, mkF, argsToLocals, Value.category]; done)) ?_
  intro K C hh
  refine newU_ C (hw _ (List.mem_of_getElem? (i := 31) rfl)) (hw _ (List.mem_of_getElem? (i := 32) rfl)) (hw _ (List.mem_of_getElem? (i := 29) rfl)) (dle rfl) (dle rfl) d5_0 (fun hp1 K1 lt1 le1 ⟨E1, F1, U1⟩ => ?_)
  obtain ⟨r, g1⟩ : ∃ z, z = h0.size := ⟨_, rfl⟩
  rw [← g1] at E1 U1 F1 lt1 le1 ⊢
  have FB := F1 (Or.inl (hw _ (List.mem_of_getElem? (i := 210) rfl)) : Laid Z a0 "com/example/loadbay/loadbay/Refusal" "java/lang/Throwable" "backtrace" "Ljava/lang/Object;") (ty := .object "java/lang/Object") (by decide)
  have Er1 := E1
  have Nr1 := U1
  refine Own.dup C d5_3 rfl ?_
  refine Own.sipush (v := 400) C d5_4 rfl ?_
  refine Own.bipush (v := -51) C d5_7 rfl ?_
  refine new_ C (hw _ (List.mem_of_getElem? (i := 33) rfl)) (hw _ (List.mem_of_getElem? (i := 34) rfl)) (hw _ (List.mem_of_getElem? (i := 35) rfl)) (dle rfl) (dle rfl) d5_9 (fun hp2 K2 lt2 le2 ⟨E2, F2⟩ => ?_)
  obtain ⟨sb, g2⟩ : ∃ z, z = hp1.size := ⟨_, rfl⟩
  rw [← g2] at E2 F2 lt2 le2 ⊢
  have Fv := F2 (Or.inl (hw _ (List.mem_of_getElem? (i := 48) rfl)) : Laid Z a0 "java/lang/StringBuilder" "java/lang/AbstractStringBuilder" "value" "[B") (ty := .array .byte) (by decide)
  have Fc := F2 (Or.inl (hw _ (List.mem_of_getElem? (i := 50) rfl)) : Laid Z a0 "java/lang/StringBuilder" "java/lang/AbstractStringBuilder" "coder" "B") (ty := .byte) (by decide)
  have Fn := F2 (Or.inl (hw _ (List.mem_of_getElem? (i := 75) rfl)) : Laid Z a0 "java/lang/StringBuilder" "java/lang/AbstractStringBuilder" "count" "I") (ty := .int) (by decide)
  have Er2 := Er1.keep K2
  have nrs : r ∉ [sb] := ninS (ne_exa Er2 E2 (by decide)) nin0
  refine Own.dup C d5_12 rfl ?_
  refine callI_ C (as' := []) (st := [(.ref sb), (.int (-51 : Int32)), (.int (400 : Int32)), (.ref r), (.ref r)]) rfl (hw _ (List.mem_of_getElem? (i := 36) rfl)) (hw _ (List.mem_of_getElem? (i := 37) rfl)) (hw _ (List.mem_of_getElem? (i := 35) rfl)) (hw _ (List.mem_of_getElem? (i := 38) rfl)) ⟨by decide, by decide⟩ pd__28_29V rfl (fun O => k_sb hw hs E2 Fv Fc Fn O) (by simp) rfl (dle rfl) (dle rfl) (dle rfl) (dle rfl) d5_13 rfl (fun v3 hp3 gs3 K3 Q3 => ?_)
  obtain ⟨rfl, b, rfl, S⟩ := Q3
  show Go _ K Z _ n0 _ _ 16 #[.val .null] [(.ref sb), (.int (-51 : Int32)), (.int (400 : Int32)), (.ref r), (.ref r)] hp3 _ _ _
  have Er3 := Er2.keep K3
  refine ldcS_ rfl C (text := "not an encoding the server takes: ") (vs := [.int 110, .int 111, .int 116, .int 32, .int 97, .int 110, .int 32, .int 101, .int 110, .int 99, .int 111, .int 100, .int 105, .int 110, .int 103, .int 32, .int 116, .int 104, .int 101, .int 32, .int 115, .int 101, .int 114, .int 118, .int 101, .int 114, .int 32, .int 116, .int 97, .int 107, .int 101, .int 115, .int 58, .int 32]) (z := 34) (nn := 136) (hw _ (List.mem_of_getElem? (i := 51) rfl)) (wS hw) (by simp) ⟨by decide +kernel, by decide +kernel⟩ (by decide) (by decide) (by decide +kernel) (by decide) (dle rfl) (dle rfl) d5_16 (fun hp4 s4 b4 K4 E4 C4 V4 A4 ne4 => ?_)
  have G : Str Z hp4 s4 cs34 := ⟨E4, fun c hc => ⟨(cs34_lt c hc).1, by have := (cs34_lt c hc).2; omega⟩, by decide, b4, 0, lat cs34, V4, C4, by rw [lat34]; exact A4, Or.inl ⟨fun c hc => by have := (cs34_lt c hc).2; omega, rfl, rfl⟩⟩
  have Sx1 := S.keep K4 nin0 nin0
  have Er4 := Er3.keep K4
  obtain ⟨rest0, Bq0, hlq0⟩ := id Sx1.2.2.2.2.1
  have hsa : NotIn Z hp4 s4 sb := NotIn.of (ne_exa E4 Sx1.1 (by decide)) V4 (A4.neX Sx1.1 (hw _ (List.mem_of_getElem? (i := 34) rfl)))
  have hsb : NotIn Z hp4 s4 b := NotIn.of (fun e => ne_exa E4 Bq0.2.1 (by decide) e) V4 (fun e => by subst e; have t := congrArg List.length (A4.fn Bq0.1); rw [List.length_append, lat_len, hlq0] at t; exact absurd t (by decide))
  have nr4 : r ∉ [sb, b] := ninS (ne_exa Er4 Sx1.1 (by decide)) (ninS (Bq0.1.neX Er4 (hw _ (List.mem_of_getElem? (i := 32) rfl))).symm nin0)
  refine callV_ C (as' := [(.ref s4)]) (st := [(.int (-51 : Int32)), (.int (400 : Int32)), (.ref r), (.ref r)]) (hw _ (List.mem_of_getElem? (i := 54) rfl)) (hw _ (List.mem_of_getElem? (i := 55) rfl)) (fun _ hZ => notFace_of_selects (args := #[]) (mvT hZ (hw _ (List.mem_of_getElem? (i := 57) rfl)))) (hw _ (List.mem_of_getElem? (i := 57) rfl)) (hw _ (List.mem_of_getElem? (i := 56) rfl)) (hw _ (List.mem_of_getElem? (i := 35) rfl)) (hw _ (List.mem_of_getElem? (i := 58) rfl)) ⟨by decide, by decide⟩ Sx1.1 pd__28Ljava_2flang_2fString_3b_29Ljava_2flang_2fStringBuilder_3b rfl (fun O => k_append (N := 64) hw hs Sx1 G (fun c hc => by have := (cs34_lt c hc).2; omega) hsa hsb ⟨by decide, by decide, by decide⟩ (by decide) O) (by simp) rfl (dle rfl) (dle rfl) (dle rfl) (dle rfl) d5_18 rfl (fun v5 hp5 gs5 K5 Q5 => ?_)
  obtain ⟨rfl, b', cap', rfl, Sx2, hcap2⟩ := Q5
  rw [List.nil_append] at Sx2
  have hle2 := Sx2.le
  rw [cs34_len] at hle2
  have hcap3 : cap' = 34 := by rw [cs34_len, List.length_nil] at hcap2; omega
  subst hcap3
  show Go _ K Z _ n0 _ _ 21 #[.val .null] [(.ref sb), (.int (-51 : Int32)), (.int (400 : Int32)), (.ref r), (.ref r)] hp5 _ _ _
  have Er5 := Er4.keep K5
  obtain ⟨rest1, Bq1, hlq1⟩ := id Sx2.2.2.2.2.1
  have nr5 : r ∉ [sb, b'] := ninS (ne_exa Er5 Sx2.1 (by decide)) (ninS (Bq1.1.neX Er5 (hw _ (List.mem_of_getElem? (i := 32) rfl))).symm nin0)
  refine Own.aloadN C d5_21 rfl rfl ?_
  refine callV_ C (as' := [.null]) (st := [(.int (-51 : Int32)), (.int (400 : Int32)), (.ref r), (.ref r)]) (hw _ (List.mem_of_getElem? (i := 54) rfl)) (hw _ (List.mem_of_getElem? (i := 55) rfl)) (fun _ hZ => notFace_of_selects (args := #[]) (mvT hZ (hw _ (List.mem_of_getElem? (i := 57) rfl)))) (hw _ (List.mem_of_getElem? (i := 57) rfl)) (hw _ (List.mem_of_getElem? (i := 56) rfl)) (hw _ (List.mem_of_getElem? (i := 35) rfl)) (hw _ (List.mem_of_getElem? (i := 58) rfl)) ⟨by decide, by decide⟩ Sx2.1 pd__28Ljava_2flang_2fString_3b_29Ljava_2flang_2fStringBuilder_3b rfl (fun O => k_append0 (N := 128) hw hs Sx2 ⟨by decide, by decide, by decide⟩ (by decide) O) (by simp) rfl (dle rfl) (dle rfl) (dle rfl) (dle rfl) d5_22 rfl (fun v6 hp6 gs6 K6 Q6 => ?_)
  have hlen : (cs34 ++ nul4).length ≤ 128 := by decide
  obtain ⟨rfl, b'', cap'', rfl, Sx3, -⟩ := Q6
  show Go _ K Z _ n0 _ _ 25 #[.val .null] [(.ref sb), (.int (-51 : Int32)), (.int (400 : Int32)), (.ref r), (.ref r)] hp6 _ _ _
  have Er6 := Er5.keep K6
  refine callV_ C (as' := []) (st := [(.int (-51 : Int32)), (.int (400 : Int32)), (.ref r), (.ref r)]) (hw _ (List.mem_of_getElem? (i := 124) rfl)) (hw _ (List.mem_of_getElem? (i := 125) rfl)) (fun _ hZ => notFace_of_selects (args := #[]) (mvT hZ (hw _ (List.mem_of_getElem? (i := 127) rfl)))) (hw _ (List.mem_of_getElem? (i := 127) rfl)) (hw _ (List.mem_of_getElem? (i := 126) rfl)) (hw _ (List.mem_of_getElem? (i := 35) rfl)) (hw _ (List.mem_of_getElem? (i := 128) rfl)) ⟨by decide, by decide⟩ Sx3.1 pd__28_29Ljava_2flang_2fString_3b rfl (fun O => k_toString (N := 128) hw hs Sx3 ⟨hlen, by decide⟩ O) (fun _ q => nomatch q) rfl (dle rfl) (dle rfl) (dle rfl) (dle rfl) d5_25 rfl (fun v7 hp7 gs7 K7 Q7 => ?_)
  obtain ⟨rfl, t, rfl, -, T⟩ := Q7
  show Go _ K Z _ n0 _ _ 28 #[.val .null] [(.ref t), (.int (-51 : Int32)), (.int (400 : Int32)), (.ref r), (.ref r)] hp7 _ _ _
  have Er7 := Er6.keep K7
  have FB7 := ((((((FB.keep K2 nin0).keep K3 nrs).keep K4 nin0).keep K5 nr4).keep K6 nr5).keep K7 nin0)
  have Nr7 := (untKeep (untKeep (untKeep (untKeep (untKeep (untKeep Nr1 K2 nin0) K3 nrs) K4 nin0) K5 nr4) K6 nr5) K7 nin0)
  refine callI_ C (as' := [(.int (400 : Int32)), (.int (-51 : Int32)), (.ref t)]) (st := [(.ref r)]) rfl (hw _ (List.mem_of_getElem? (i := 163) rfl)) (hw _ (List.mem_of_getElem? (i := 164) rfl)) (hw _ (List.mem_of_getElem? (i := 29) rfl)) (hw _ (List.mem_of_getElem? (i := 165) rfl)) ⟨by decide, by decide⟩ pd__28IILjava_2flang_2fString_3b_29V rfl (fun O => k_rinit hw hs Er7 Nr7 FB7 O) (by simp) rfl (dle rfl) (dle rfl) (dle rfl) (dle rfl) d5_28 rfl (fun v8 hp8 gs8 K8 Q8 => ?_)
  obtain ⟨rfl, rfl, Er8, Hx, Ax⟩ := Q8
  show Go _ K Z _ n0 _ _ 31 #[.val .null] [(.ref r)] hp8 _ _ _
  exact retA C (gs := []) rfl rfl d5_31 (dle rfl) (dle rfl) (fun _ q => nomatch q) ⟨rfl, r, rfl, Er8, Hx, Ax⟩
theorem r8 (x : Int32) : 0 ≤ (nar .char (x &&& 255)).toInt ∧ (nar .char (x &&& 255)).toInt < 256 := by
  have m := mask8 x
  rw [narc_id (by unfold isCh; omega)]; omega
set_option maxRecDepth 65536 in
set_option maxHeartbeats 4000000 in
theorem k_law {Z : State} {a0 : Array Value} (hw : ∀ d ∈ tables_1, d.before a0 Z = true) (hs : Stt Z) {n0 : Nat} {h0 : Heap} {x y z m : Int32} (O : Old Z n0 h0) :
    Con WD Z EL0 n0 (⟨"com/example/loadbay/loadbay/RefusalBadEncodingPinLaw", "law", "(IIII)Z"⟩ : MethodName) code 8 (some .boolean) (Rm 11 40 8000 240) [(.int x), (.int y), (.int z), (.int m)] h0 [] (fun v h gs => v = some (.int 1)) := by
  refine Con.of (a0 := a0) (by first | (exact plainFor_of_name (by first | (simp [plainName, overriddenIn]; done) | decide +kernel)) | decide +kernel) (hEL hw) hWE O (L0 := #[.val (.int x), .val (.int y), .val (.int z), .val (.int m), .unset, .unset, .unset, .unset]) (fun m => by first | rfl | (simp [entryFrame, mkF, argsToLocals, Value.category]; done)) ?_
  intro K C hh
  have hr0 := r8 x
  have hi0 := narc_ch (x &&& 255)
  have hr1 := r8 y
  have hi1 := narc_ch (y &&& 255)
  have hr2 := r8 z
  have hi2 := narc_ch (z &&& 255)
  refine Own.iconst (v := 3) C d43_0 rfl ?_
  refine newarr C (hw _ (List.mem_of_getElem? (i := 0) rfl)) (by decide) 3 (by decide) (by decide) (dle rfl) (dle rfl) d43_1 (fun hp1 K1 lt1 le1 A1 => ?_)
  obtain ⟨arr, g1⟩ : ∃ z, z = h0.size := ⟨_, rfl⟩
  rw [← g1] at A1 lt1 le1 ⊢
  refine Own.astore (L' := #[.val (.int x), .val (.int y), .val (.int z), .val (.int m), .val (.ref arr), .unset, .unset, .unset]) C d43_3 rfl rfl ?_
  refine Own.aload C d43_5 rfl rfl ?_
  refine Own.iconst (v := 0) C d43_7 rfl ?_
  refine Own.iloadN C d43_8 rfl ?_
  refine Own.sipush (v := 255) C d43_9 rfl ?_
  refine Own.iand C d43_12 ?_
  refine Own.i2c C d43_13 ?_
  refine castore_ C A1 0 (by decide) (dlt rfl) (by simp) d43_14 (fun hp2 W2 A2 => ?_)
  refine Own.aload C d43_15 rfl rfl ?_
  refine Own.iconst (v := 1) C d43_17 rfl ?_
  refine Own.iloadN C d43_18 rfl ?_
  refine Own.sipush (v := 255) C d43_19 rfl ?_
  refine Own.iand C d43_22 ?_
  refine Own.i2c C d43_23 ?_
  refine castore_ C A2 1 (by decide) (dlt rfl) (by simp) d43_24 (fun hp3 W3 A3 => ?_)
  refine Own.aload C d43_25 rfl rfl ?_
  refine Own.iconst (v := 2) C d43_27 rfl ?_
  refine Own.iloadN C d43_28 rfl ?_
  refine Own.sipush (v := 255) C d43_29 rfl ?_
  refine Own.iand C d43_32 ?_
  refine Own.i2c C d43_33 ?_
  refine castore_ C A3 2 (by decide) (dlt rfl) (by simp) d43_34 (fun hp4 W4 A4 => ?_)
  refine Own.iloadN C d43_35 rfl ?_
  refine Own.iconst (v := 3) C d43_36 rfl ?_
  refine Own.iand C d43_37 ?_
  refine Own.istore (L' := #[.val (.int x), .val (.int y), .val (.int z), .val (.int m), .val (.ref arr), .unset, .val (.int (m &&& (3 : Int32))), .unset]) C d43_38 rfl ?_
  generalize (m &&& 3) = mode
  show Go _ K Z _ n0 _ _ 40 #[.val (.int x), .val (.int y), .val (.int z), .val (.int m), .val (.ref arr), .unset, .val (.int mode), .unset] [] hp4 _ _ _
  have A : Ary Z hp4 arr .char (chs [nar .char (x &&& 255), nar .char (y &&& 255), nar .char (z &&& 255)]) := by have q := A4; simp only [narc_id hi0, narc_id hi1, narc_id hi2] at q; exact q
  generalize nar .char (x &&& 255) = c0 at hr0 hi0 A
  generalize nar .char (y &&& 255) = c1 at hr1 hi1 A
  generalize nar .char (z &&& 255) = c2 at hr2 hi2 A
  refine Own.iload C d43_40 rfl ?_
  refine if_ne C d43_42 (fun q5 => ?_) (fun q5 => ?_)
  · refine Own.iload C d43_59 rfl ?_
    refine Own.iconst (v := 1) C d43_61 rfl ?_
    refine icmp_ne C d43_62 (fun q6 => ?_) (fun q6 => ?_)
    · refine Own.iload C d43_77 rfl ?_
      refine Own.iconst (v := 2) C d43_79 rfl ?_
      refine icmp_ne C d43_80 (fun q7 => ?_) (fun q7 => ?_)
      · refine Own.aconstNull C d43_90 ?_
        refine Own.astore (L' := #[.val (.int x), .val (.int y), .val (.int z), .val (.int m), .val (.ref arr), .val .null, .val (.int mode), .unset]) C d43_91 rfl rfl ?_
        refine Own.aload C d43_93 rfl rfl ?_
        refine callS_ C (as := [.null]) (st := []) (hw _ (List.mem_of_getElem? (i := 27) rfl)) (hw _ (List.mem_of_getElem? (i := 28) rfl)) (hw _ (List.mem_of_getElem? (i := 29) rfl)) (hw _ (List.mem_of_getElem? (i := 30) rfl)) ⟨by decide, by decide⟩ pd__28Ljava_2flang_2fString_3b_29Lcom_2fexample_2floadbay_2floadbay_2fRefusal_3b rfl (fun O => k_bad0 hw hs O) (fun _ q => nomatch q) rfl (dle rfl) (dle rfl) (dle rfl) (dle rfl) d43_95 rfl (fun v8 hp8 gs8 K8 Q8 => ?_)
        obtain ⟨rfl, r, rfl, Er, Hx, Ax⟩ := Q8
        show Go _ K Z _ n0 _ _ 98 #[.val (.int x), .val (.int y), .val (.int z), .val (.int m), .val (.ref arr), .val .null, .val (.int mode), .unset] [(.ref r)] hp8 _ _ _
        refine Own.astore (L' := #[.val (.int x), .val (.int y), .val (.int z), .val (.int m), .val (.ref arr), .val .null, .val (.int mode), .val (.ref r)]) C d43_98 rfl rfl ?_
        refine Own.aload C d43_100 rfl rfl ?_
        refine ifnonnullY C d43_102 ?_
        refine Own.aload C d43_107 rfl rfl ?_
        refine callV_ C (as' := []) (st := []) (hw _ (List.mem_of_getElem? (i := 218) rfl)) (hw _ (List.mem_of_getElem? (i := 219) rfl)) (fun _ hZ => notFace_of_selects (args := #[]) (mvT hZ (hw _ (List.mem_of_getElem? (i := 221) rfl)))) (hw _ (List.mem_of_getElem? (i := 221) rfl)) (hw _ (List.mem_of_getElem? (i := 220) rfl)) (hw _ (List.mem_of_getElem? (i := 29) rfl)) (hw _ (List.mem_of_getElem? (i := 222) rfl)) ⟨by decide, by decide⟩ Er pd__28_29I rfl (fun O => k_httpStatus hw hs Hx O) (fun _ q => nomatch q) rfl (dle rfl) (dle rfl) (dle rfl) (dle rfl) d43_109 rfl (fun v9 hp9 gs9 K9 Q9 => ?_)
        obtain ⟨rfl, rfl⟩ := Q9
        show Go _ K Z _ n0 _ _ 112 #[.val (.int x), .val (.int y), .val (.int z), .val (.int m), .val (.ref arr), .val .null, .val (.int mode), .val (.ref r)] [(.int (400 : Int32))] hp9 _ _ _
        refine Own.sipush (v := 400) C d43_112 rfl ?_
        refine icmp_ne C d43_115 (fun q10 => ?_) (fun q10 => ?_)
        · exact absurd rfl q10
        · refine Own.aload C d43_118 rfl rfl ?_
          refine callV_ C (as' := []) (st := []) (hw _ (List.mem_of_getElem? (i := 223) rfl)) (hw _ (List.mem_of_getElem? (i := 224) rfl)) (fun _ hZ => notFace_of_selects (args := #[]) (mvT hZ (hw _ (List.mem_of_getElem? (i := 226) rfl)))) (hw _ (List.mem_of_getElem? (i := 226) rfl)) (hw _ (List.mem_of_getElem? (i := 225) rfl)) (hw _ (List.mem_of_getElem? (i := 29) rfl)) (hw _ (List.mem_of_getElem? (i := 227) rfl)) ⟨by decide, by decide⟩ (Er.keep K9) pd__28_29I rfl (fun O => k_agileStatus hw hs (Ax.keep K9 nin0) O) (fun _ q => nomatch q) rfl (dle rfl) (dle rfl) (dle rfl) (dle rfl) d43_120 rfl (fun v11 hp11 gs11 K11 Q11 => ?_)
          obtain ⟨rfl, rfl⟩ := Q11
          show Go _ K Z _ n0 _ _ 123 #[.val (.int x), .val (.int y), .val (.int z), .val (.int m), .val (.ref arr), .val .null, .val (.int mode), .val (.ref r)] [(.int (-51 : Int32))] hp11 _ _ _
          have KK := K9.trans K11 (fun _ q => nomatch q)
          refine Own.bipush (v := -51) C d43_123 rfl ?_
          refine icmp_ne C d43_125 (fun q12 => ?_) (fun q12 => ?_)
          · exact absurd rfl q12
          · refine Own.aload C d43_128 rfl rfl ?_
            refine callV_ C (as' := []) (st := []) (hw _ (List.mem_of_getElem? (i := 223) rfl)) (hw _ (List.mem_of_getElem? (i := 224) rfl)) (fun _ hZ => notFace_of_selects (args := #[]) (mvT hZ (hw _ (List.mem_of_getElem? (i := 226) rfl)))) (hw _ (List.mem_of_getElem? (i := 226) rfl)) (hw _ (List.mem_of_getElem? (i := 225) rfl)) (hw _ (List.mem_of_getElem? (i := 29) rfl)) (hw _ (List.mem_of_getElem? (i := 227) rfl)) ⟨by decide, by decide⟩ (Er.keep KK) pd__28_29I rfl (fun O => k_agileStatus hw hs (Ax.keep KK nin0) O) (fun _ q => nomatch q) rfl (dle rfl) (dle rfl) (dle rfl) (dle rfl) d43_130 rfl (fun v13 hp13 gs13 K13 Q13 => ?_)
            obtain ⟨rfl, rfl⟩ := Q13
            show Go _ K Z _ n0 _ _ 133 #[.val (.int x), .val (.int y), .val (.int z), .val (.int m), .val (.ref arr), .val .null, .val (.int mode), .val (.ref r)] [(.int (-51 : Int32))] hp13 _ _ _
            refine Own.bipush (v := -51) C d43_133 rfl ?_
            refine icmp_ne C d43_135 (fun q14 => ?_) (fun q14 => ?_)
            · exact absurd rfl q14
            · refine Own.iconst (v := 1) C d43_138 rfl ?_
              refine Own.goto_ C d43_139 ?_
              exact retZ C (gs := []) d43_143 (dle rfl) (dle rfl) (fun _ q => nomatch q) rfl
      · refine ldcS_ rfl C (text := "") (vs := []) (z := 0) (nn := 0) (hw _ (List.mem_of_getElem? (i := 228) rfl)) (wS hw) (by simp) ⟨by decide +kernel, by decide +kernel⟩ (by decide) (by decide) (by decide +kernel) (by decide) (dle rfl) (dle rfl) d43_83 (fun hp15 s15 b15 K15 E15 C15 V15 A15 ne15 => ?_)
        have G : Str Z hp15 s15 [] := ⟨E15, by simp, by simp, b15, 0, [], V15, C15, A15, Or.inl ⟨by simp, rfl, rfl⟩⟩
        refine Own.astore (L' := #[.val (.int x), .val (.int y), .val (.int z), .val (.int m), .val (.ref arr), .val (.ref s15), .val (.int mode), .unset]) C d43_85 rfl rfl ?_
        refine Own.goto_ C d43_87 ?_
        refine Own.aload C d43_93 rfl rfl ?_
        refine callS_ C (as := [(.ref s15)]) (st := []) (hw _ (List.mem_of_getElem? (i := 27) rfl)) (hw _ (List.mem_of_getElem? (i := 28) rfl)) (hw _ (List.mem_of_getElem? (i := 29) rfl)) (hw _ (List.mem_of_getElem? (i := 30) rfl)) ⟨by decide, by decide⟩ pd__28Ljava_2flang_2fString_3b_29Lcom_2fexample_2floadbay_2floadbay_2fRefusal_3b rfl (fun O => k_bad hw hs G (by simp) (dle rfl) O) (fun _ q => nomatch q) rfl (dle rfl) (dle rfl) (dle rfl) (dle rfl) d43_95 rfl (fun v16 hp16 gs16 K16 Q16 => ?_)
        obtain ⟨rfl, r, rfl, Er, Hx, Ax⟩ := Q16
        show Go _ K Z _ n0 _ _ 98 #[.val (.int x), .val (.int y), .val (.int z), .val (.int m), .val (.ref arr), .val (.ref s15), .val (.int mode), .unset] [(.ref r)] hp16 _ _ _
        refine Own.astore (L' := #[.val (.int x), .val (.int y), .val (.int z), .val (.int m), .val (.ref arr), .val (.ref s15), .val (.int mode), .val (.ref r)]) C d43_98 rfl rfl ?_
        refine Own.aload C d43_100 rfl rfl ?_
        refine ifnonnullY C d43_102 ?_
        refine Own.aload C d43_107 rfl rfl ?_
        refine callV_ C (as' := []) (st := []) (hw _ (List.mem_of_getElem? (i := 218) rfl)) (hw _ (List.mem_of_getElem? (i := 219) rfl)) (fun _ hZ => notFace_of_selects (args := #[]) (mvT hZ (hw _ (List.mem_of_getElem? (i := 221) rfl)))) (hw _ (List.mem_of_getElem? (i := 221) rfl)) (hw _ (List.mem_of_getElem? (i := 220) rfl)) (hw _ (List.mem_of_getElem? (i := 29) rfl)) (hw _ (List.mem_of_getElem? (i := 222) rfl)) ⟨by decide, by decide⟩ Er pd__28_29I rfl (fun O => k_httpStatus hw hs Hx O) (fun _ q => nomatch q) rfl (dle rfl) (dle rfl) (dle rfl) (dle rfl) d43_109 rfl (fun v17 hp17 gs17 K17 Q17 => ?_)
        obtain ⟨rfl, rfl⟩ := Q17
        show Go _ K Z _ n0 _ _ 112 #[.val (.int x), .val (.int y), .val (.int z), .val (.int m), .val (.ref arr), .val (.ref s15), .val (.int mode), .val (.ref r)] [(.int (400 : Int32))] hp17 _ _ _
        refine Own.sipush (v := 400) C d43_112 rfl ?_
        refine icmp_ne C d43_115 (fun q18 => ?_) (fun q18 => ?_)
        · exact absurd rfl q18
        · refine Own.aload C d43_118 rfl rfl ?_
          refine callV_ C (as' := []) (st := []) (hw _ (List.mem_of_getElem? (i := 223) rfl)) (hw _ (List.mem_of_getElem? (i := 224) rfl)) (fun _ hZ => notFace_of_selects (args := #[]) (mvT hZ (hw _ (List.mem_of_getElem? (i := 226) rfl)))) (hw _ (List.mem_of_getElem? (i := 226) rfl)) (hw _ (List.mem_of_getElem? (i := 225) rfl)) (hw _ (List.mem_of_getElem? (i := 29) rfl)) (hw _ (List.mem_of_getElem? (i := 227) rfl)) ⟨by decide, by decide⟩ (Er.keep K17) pd__28_29I rfl (fun O => k_agileStatus hw hs (Ax.keep K17 nin0) O) (fun _ q => nomatch q) rfl (dle rfl) (dle rfl) (dle rfl) (dle rfl) d43_120 rfl (fun v19 hp19 gs19 K19 Q19 => ?_)
          obtain ⟨rfl, rfl⟩ := Q19
          show Go _ K Z _ n0 _ _ 123 #[.val (.int x), .val (.int y), .val (.int z), .val (.int m), .val (.ref arr), .val (.ref s15), .val (.int mode), .val (.ref r)] [(.int (-51 : Int32))] hp19 _ _ _
          have KK := K17.trans K19 (fun _ q => nomatch q)
          refine Own.bipush (v := -51) C d43_123 rfl ?_
          refine icmp_ne C d43_125 (fun q20 => ?_) (fun q20 => ?_)
          · exact absurd rfl q20
          · refine Own.aload C d43_128 rfl rfl ?_
            refine callV_ C (as' := []) (st := []) (hw _ (List.mem_of_getElem? (i := 223) rfl)) (hw _ (List.mem_of_getElem? (i := 224) rfl)) (fun _ hZ => notFace_of_selects (args := #[]) (mvT hZ (hw _ (List.mem_of_getElem? (i := 226) rfl)))) (hw _ (List.mem_of_getElem? (i := 226) rfl)) (hw _ (List.mem_of_getElem? (i := 225) rfl)) (hw _ (List.mem_of_getElem? (i := 29) rfl)) (hw _ (List.mem_of_getElem? (i := 227) rfl)) ⟨by decide, by decide⟩ (Er.keep KK) pd__28_29I rfl (fun O => k_agileStatus hw hs (Ax.keep KK nin0) O) (fun _ q => nomatch q) rfl (dle rfl) (dle rfl) (dle rfl) (dle rfl) d43_130 rfl (fun v21 hp21 gs21 K21 Q21 => ?_)
            obtain ⟨rfl, rfl⟩ := Q21
            show Go _ K Z _ n0 _ _ 133 #[.val (.int x), .val (.int y), .val (.int z), .val (.int m), .val (.ref arr), .val (.ref s15), .val (.int mode), .val (.ref r)] [(.int (-51 : Int32))] hp21 _ _ _
            refine Own.bipush (v := -51) C d43_133 rfl ?_
            refine icmp_ne C d43_135 (fun q22 => ?_) (fun q22 => ?_)
            · exact absurd rfl q22
            · refine Own.iconst (v := 1) C d43_138 rfl ?_
              refine Own.goto_ C d43_139 ?_
              exact retZ C (gs := []) d43_143 (dle rfl) (dle rfl) (fun _ q => nomatch q) rfl
    · refine Own.aload C d43_65 rfl rfl ?_
      refine Own.iconst (v := 0) C d43_67 rfl ?_
      refine caload_ C (v := .int c0) A 0 rfl rfl d43_68 ?_
      refine callS_ C (as := [(.int c0)]) (st := []) (hw _ (List.mem_of_getElem? (i := 1) rfl)) (hw _ (List.mem_of_getElem? (i := 2) rfl)) (hw _ (List.mem_of_getElem? (i := 3) rfl)) (hw _ (List.mem_of_getElem? (i := 4) rfl)) ⟨by decide, by decide⟩ pd__28C_29Ljava_2flang_2fString_3b rfl (fun O => k_valueOfC hw hs hr0 O) (fun _ q => nomatch q) rfl (dle rfl) (dle rfl) (dle rfl) (dle rfl) d43_69 rfl (fun v23 hp23 gs23 K23 Q23 => ?_)
      obtain ⟨rfl, a1, rfl, -, G⟩ := Q23
      show Go _ K Z _ n0 _ _ 72 #[.val (.int x), .val (.int y), .val (.int z), .val (.int m), .val (.ref arr), .unset, .val (.int mode), .unset] [(.ref a1)] hp23 _ _ _
      refine Own.astore (L' := #[.val (.int x), .val (.int y), .val (.int z), .val (.int m), .val (.ref arr), .val (.ref a1), .val (.int mode), .unset]) C d43_72 rfl rfl ?_
      refine Own.goto_ C d43_74 ?_
      refine Own.aload C d43_93 rfl rfl ?_
      refine callS_ C (as := [(.ref a1)]) (st := []) (hw _ (List.mem_of_getElem? (i := 27) rfl)) (hw _ (List.mem_of_getElem? (i := 28) rfl)) (hw _ (List.mem_of_getElem? (i := 29) rfl)) (hw _ (List.mem_of_getElem? (i := 30) rfl)) ⟨by decide, by decide⟩ pd__28Ljava_2flang_2fString_3b_29Lcom_2fexample_2floadbay_2floadbay_2fRefusal_3b rfl (fun O => k_bad hw hs G (by simp only [List.mem_singleton]; rintro _ rfl; exact hr0.2) (dle rfl) O) (fun _ q => nomatch q) rfl (dle rfl) (dle rfl) (dle rfl) (dle rfl) d43_95 rfl (fun v24 hp24 gs24 K24 Q24 => ?_)
      obtain ⟨rfl, r, rfl, Er, Hx, Ax⟩ := Q24
      show Go _ K Z _ n0 _ _ 98 #[.val (.int x), .val (.int y), .val (.int z), .val (.int m), .val (.ref arr), .val (.ref a1), .val (.int mode), .unset] [(.ref r)] hp24 _ _ _
      refine Own.astore (L' := #[.val (.int x), .val (.int y), .val (.int z), .val (.int m), .val (.ref arr), .val (.ref a1), .val (.int mode), .val (.ref r)]) C d43_98 rfl rfl ?_
      refine Own.aload C d43_100 rfl rfl ?_
      refine ifnonnullY C d43_102 ?_
      refine Own.aload C d43_107 rfl rfl ?_
      refine callV_ C (as' := []) (st := []) (hw _ (List.mem_of_getElem? (i := 218) rfl)) (hw _ (List.mem_of_getElem? (i := 219) rfl)) (fun _ hZ => notFace_of_selects (args := #[]) (mvT hZ (hw _ (List.mem_of_getElem? (i := 221) rfl)))) (hw _ (List.mem_of_getElem? (i := 221) rfl)) (hw _ (List.mem_of_getElem? (i := 220) rfl)) (hw _ (List.mem_of_getElem? (i := 29) rfl)) (hw _ (List.mem_of_getElem? (i := 222) rfl)) ⟨by decide, by decide⟩ Er pd__28_29I rfl (fun O => k_httpStatus hw hs Hx O) (fun _ q => nomatch q) rfl (dle rfl) (dle rfl) (dle rfl) (dle rfl) d43_109 rfl (fun v25 hp25 gs25 K25 Q25 => ?_)
      obtain ⟨rfl, rfl⟩ := Q25
      show Go _ K Z _ n0 _ _ 112 #[.val (.int x), .val (.int y), .val (.int z), .val (.int m), .val (.ref arr), .val (.ref a1), .val (.int mode), .val (.ref r)] [(.int (400 : Int32))] hp25 _ _ _
      refine Own.sipush (v := 400) C d43_112 rfl ?_
      refine icmp_ne C d43_115 (fun q26 => ?_) (fun q26 => ?_)
      · exact absurd rfl q26
      · refine Own.aload C d43_118 rfl rfl ?_
        refine callV_ C (as' := []) (st := []) (hw _ (List.mem_of_getElem? (i := 223) rfl)) (hw _ (List.mem_of_getElem? (i := 224) rfl)) (fun _ hZ => notFace_of_selects (args := #[]) (mvT hZ (hw _ (List.mem_of_getElem? (i := 226) rfl)))) (hw _ (List.mem_of_getElem? (i := 226) rfl)) (hw _ (List.mem_of_getElem? (i := 225) rfl)) (hw _ (List.mem_of_getElem? (i := 29) rfl)) (hw _ (List.mem_of_getElem? (i := 227) rfl)) ⟨by decide, by decide⟩ (Er.keep K25) pd__28_29I rfl (fun O => k_agileStatus hw hs (Ax.keep K25 nin0) O) (fun _ q => nomatch q) rfl (dle rfl) (dle rfl) (dle rfl) (dle rfl) d43_120 rfl (fun v27 hp27 gs27 K27 Q27 => ?_)
        obtain ⟨rfl, rfl⟩ := Q27
        show Go _ K Z _ n0 _ _ 123 #[.val (.int x), .val (.int y), .val (.int z), .val (.int m), .val (.ref arr), .val (.ref a1), .val (.int mode), .val (.ref r)] [(.int (-51 : Int32))] hp27 _ _ _
        have KK := K25.trans K27 (fun _ q => nomatch q)
        refine Own.bipush (v := -51) C d43_123 rfl ?_
        refine icmp_ne C d43_125 (fun q28 => ?_) (fun q28 => ?_)
        · exact absurd rfl q28
        · refine Own.aload C d43_128 rfl rfl ?_
          refine callV_ C (as' := []) (st := []) (hw _ (List.mem_of_getElem? (i := 223) rfl)) (hw _ (List.mem_of_getElem? (i := 224) rfl)) (fun _ hZ => notFace_of_selects (args := #[]) (mvT hZ (hw _ (List.mem_of_getElem? (i := 226) rfl)))) (hw _ (List.mem_of_getElem? (i := 226) rfl)) (hw _ (List.mem_of_getElem? (i := 225) rfl)) (hw _ (List.mem_of_getElem? (i := 29) rfl)) (hw _ (List.mem_of_getElem? (i := 227) rfl)) ⟨by decide, by decide⟩ (Er.keep KK) pd__28_29I rfl (fun O => k_agileStatus hw hs (Ax.keep KK nin0) O) (fun _ q => nomatch q) rfl (dle rfl) (dle rfl) (dle rfl) (dle rfl) d43_130 rfl (fun v29 hp29 gs29 K29 Q29 => ?_)
          obtain ⟨rfl, rfl⟩ := Q29
          show Go _ K Z _ n0 _ _ 133 #[.val (.int x), .val (.int y), .val (.int z), .val (.int m), .val (.ref arr), .val (.ref a1), .val (.int mode), .val (.ref r)] [(.int (-51 : Int32))] hp29 _ _ _
          refine Own.bipush (v := -51) C d43_133 rfl ?_
          refine icmp_ne C d43_135 (fun q30 => ?_) (fun q30 => ?_)
          · exact absurd rfl q30
          · refine Own.iconst (v := 1) C d43_138 rfl ?_
            refine Own.goto_ C d43_139 ?_
            exact retZ C (gs := []) d43_143 (dle rfl) (dle rfl) (fun _ q => nomatch q) rfl
  · refine new_ C (hw _ (List.mem_of_getElem? (i := 238) rfl)) (hw _ (List.mem_of_getElem? (i := 11) rfl)) (hw _ (List.mem_of_getElem? (i := 3) rfl)) (dle rfl) (dle rfl) d43_45 (fun hp31 K31 lt31 le31 ⟨E31, F31⟩ => ?_)
    obtain ⟨a1, g31⟩ : ∃ z, z = hp4.size := ⟨_, rfl⟩
    rw [← g31] at E31 F31 lt31 le31 ⊢
    have Fv := F31 (Or.inr (hw _ (List.mem_of_getElem? (i := 24) rfl)) : Laid Z a0 "java/lang/String" "java/lang/String" "value" "[B") (ty := .array .byte) (by decide)
    have Fc := F31 (Or.inr (hw _ (List.mem_of_getElem? (i := 26) rfl)) : Laid Z a0 "java/lang/String" "java/lang/String" "coder" "B") (ty := .byte) (by decide)
    refine Own.dup C d43_48 rfl ?_
    refine Own.aload C d43_49 rfl rfl ?_
    refine callI_ C (as' := [(.ref arr)]) (st := [(.ref a1)]) rfl (hw _ (List.mem_of_getElem? (i := 239) rfl)) (hw _ (List.mem_of_getElem? (i := 240) rfl)) (hw _ (List.mem_of_getElem? (i := 3) rfl)) (hw _ (List.mem_of_getElem? (i := 241) rfl)) ⟨by decide, by decide⟩ pd__28_5bC_29V rfl (fun O => k_init (N := 3) hw hs (by simp; exact ⟨hi0, hi1, hi2⟩) (dle rfl) ⟨dle rfl, by decide⟩ (by simp; exact ⟨hr0.2, hr1.2, hr2.2⟩) (by simp) (A.keep K31 nin0) E31 Fv Fc O) (by simp) rfl (dle rfl) (dle rfl) (dle rfl) (dle rfl) d43_51 rfl (fun v32 hp32 gs32 K32 Q32 => ?_)
    obtain ⟨rfl, rfl, G⟩ := Q32
    show Go _ K Z _ n0 _ _ 54 #[.val (.int x), .val (.int y), .val (.int z), .val (.int m), .val (.ref arr), .unset, .val (.int mode), .unset] [(.ref a1)] hp32 _ _ _
    refine Own.astore (L' := #[.val (.int x), .val (.int y), .val (.int z), .val (.int m), .val (.ref arr), .val (.ref a1), .val (.int mode), .unset]) C d43_54 rfl rfl ?_
    refine Own.goto_ C d43_56 ?_
    refine Own.aload C d43_93 rfl rfl ?_
    refine callS_ C (as := [(.ref a1)]) (st := []) (hw _ (List.mem_of_getElem? (i := 27) rfl)) (hw _ (List.mem_of_getElem? (i := 28) rfl)) (hw _ (List.mem_of_getElem? (i := 29) rfl)) (hw _ (List.mem_of_getElem? (i := 30) rfl)) ⟨by decide, by decide⟩ pd__28Ljava_2flang_2fString_3b_29Lcom_2fexample_2floadbay_2floadbay_2fRefusal_3b rfl (fun O => k_bad hw hs G (by simp; exact ⟨hr0.2, hr1.2, hr2.2⟩) (dle rfl) O) (fun _ q => nomatch q) rfl (dle rfl) (dle rfl) (dle rfl) (dle rfl) d43_95 rfl (fun v33 hp33 gs33 K33 Q33 => ?_)
    obtain ⟨rfl, r, rfl, Er, Hx, Ax⟩ := Q33
    show Go _ K Z _ n0 _ _ 98 #[.val (.int x), .val (.int y), .val (.int z), .val (.int m), .val (.ref arr), .val (.ref a1), .val (.int mode), .unset] [(.ref r)] hp33 _ _ _
    refine Own.astore (L' := #[.val (.int x), .val (.int y), .val (.int z), .val (.int m), .val (.ref arr), .val (.ref a1), .val (.int mode), .val (.ref r)]) C d43_98 rfl rfl ?_
    refine Own.aload C d43_100 rfl rfl ?_
    refine ifnonnullY C d43_102 ?_
    refine Own.aload C d43_107 rfl rfl ?_
    refine callV_ C (as' := []) (st := []) (hw _ (List.mem_of_getElem? (i := 218) rfl)) (hw _ (List.mem_of_getElem? (i := 219) rfl)) (fun _ hZ => notFace_of_selects (args := #[]) (mvT hZ (hw _ (List.mem_of_getElem? (i := 221) rfl)))) (hw _ (List.mem_of_getElem? (i := 221) rfl)) (hw _ (List.mem_of_getElem? (i := 220) rfl)) (hw _ (List.mem_of_getElem? (i := 29) rfl)) (hw _ (List.mem_of_getElem? (i := 222) rfl)) ⟨by decide, by decide⟩ Er pd__28_29I rfl (fun O => k_httpStatus hw hs Hx O) (fun _ q => nomatch q) rfl (dle rfl) (dle rfl) (dle rfl) (dle rfl) d43_109 rfl (fun v34 hp34 gs34 K34 Q34 => ?_)
    obtain ⟨rfl, rfl⟩ := Q34
    show Go _ K Z _ n0 _ _ 112 #[.val (.int x), .val (.int y), .val (.int z), .val (.int m), .val (.ref arr), .val (.ref a1), .val (.int mode), .val (.ref r)] [(.int (400 : Int32))] hp34 _ _ _
    refine Own.sipush (v := 400) C d43_112 rfl ?_
    refine icmp_ne C d43_115 (fun q35 => ?_) (fun q35 => ?_)
    · exact absurd rfl q35
    · refine Own.aload C d43_118 rfl rfl ?_
      refine callV_ C (as' := []) (st := []) (hw _ (List.mem_of_getElem? (i := 223) rfl)) (hw _ (List.mem_of_getElem? (i := 224) rfl)) (fun _ hZ => notFace_of_selects (args := #[]) (mvT hZ (hw _ (List.mem_of_getElem? (i := 226) rfl)))) (hw _ (List.mem_of_getElem? (i := 226) rfl)) (hw _ (List.mem_of_getElem? (i := 225) rfl)) (hw _ (List.mem_of_getElem? (i := 29) rfl)) (hw _ (List.mem_of_getElem? (i := 227) rfl)) ⟨by decide, by decide⟩ (Er.keep K34) pd__28_29I rfl (fun O => k_agileStatus hw hs (Ax.keep K34 nin0) O) (fun _ q => nomatch q) rfl (dle rfl) (dle rfl) (dle rfl) (dle rfl) d43_120 rfl (fun v36 hp36 gs36 K36 Q36 => ?_)
      obtain ⟨rfl, rfl⟩ := Q36
      show Go _ K Z _ n0 _ _ 123 #[.val (.int x), .val (.int y), .val (.int z), .val (.int m), .val (.ref arr), .val (.ref a1), .val (.int mode), .val (.ref r)] [(.int (-51 : Int32))] hp36 _ _ _
      have KK := K34.trans K36 (fun _ q => nomatch q)
      refine Own.bipush (v := -51) C d43_123 rfl ?_
      refine icmp_ne C d43_125 (fun q37 => ?_) (fun q37 => ?_)
      · exact absurd rfl q37
      · refine Own.aload C d43_128 rfl rfl ?_
        refine callV_ C (as' := []) (st := []) (hw _ (List.mem_of_getElem? (i := 223) rfl)) (hw _ (List.mem_of_getElem? (i := 224) rfl)) (fun _ hZ => notFace_of_selects (args := #[]) (mvT hZ (hw _ (List.mem_of_getElem? (i := 226) rfl)))) (hw _ (List.mem_of_getElem? (i := 226) rfl)) (hw _ (List.mem_of_getElem? (i := 225) rfl)) (hw _ (List.mem_of_getElem? (i := 29) rfl)) (hw _ (List.mem_of_getElem? (i := 227) rfl)) ⟨by decide, by decide⟩ (Er.keep KK) pd__28_29I rfl (fun O => k_agileStatus hw hs (Ax.keep KK nin0) O) (fun _ q => nomatch q) rfl (dle rfl) (dle rfl) (dle rfl) (dle rfl) d43_130 rfl (fun v38 hp38 gs38 K38 Q38 => ?_)
        obtain ⟨rfl, rfl⟩ := Q38
        show Go _ K Z _ n0 _ _ 133 #[.val (.int x), .val (.int y), .val (.int z), .val (.int m), .val (.ref arr), .val (.ref a1), .val (.int mode), .val (.ref r)] [(.int (-51 : Int32))] hp38 _ _ _
        refine Own.bipush (v := -51) C d43_133 rfl ?_
        refine icmp_ne C d43_135 (fun q39 => ?_) (fun q39 => ?_)
        · exact absurd rfl q39
        · refine Own.iconst (v := 1) C d43_138 rfl ?_
          refine Own.goto_ C d43_139 ?_
          exact retZ C (gs := []) d43_143 (dle rfl) (dle rfl) (fun _ q => nomatch q) rfl
set_option maxRecDepth 65536 in
set_option maxHeartbeats 4000000 in
theorem comes_1 {Post : Tables → Env → Array Value → State → Outcome → State → Prop} (hpost : ∀ tb e args s v u, (limb_1_1.after args s (.returned v) u = true ∧ limb_1_2.after args s (.returned v) u = true ∧ True) → ReturnedEndW s (.returned v) u (Jvm.fieldLocs frame_1_writes args s ++ Jvm.arrayLocs frame_1_arrays args s ++ Jvm.staticLocs frame_1_statics s) 40 8000 → Post tb e args s (.returned v) u) :
    ArmFor flags0 classFile x code maxLocals ret World_1 tables_1 room_1 Calls_1 rest_1 Pre_1 Post := by
  intro l hfl _ _ p e ha hc hk s m args below hf hA hF happ hP
  obtain ⟨hcalls, hrest, hpre⟩ := hP
  obtain ⟨-, -, -, hnamed, -, -, -, hat⟩ := (Spec.applies_iff hf).mp happ
  obtain ⟨hg, hn⟩ := and_e (Cond.before_iff.mp (show (Jvm.Cond.and given_1 narrow_1).before args s = true from hpre))
  obtain ⟨h1, h2⟩ := and_e hg
  obtain ⟨j0, h2⟩ := and_e h2
  obtain ⟨j1, h2⟩ := and_e h2
  obtain ⟨j2, h2⟩ := and_e h2
  have j3 := h2
  obtain ⟨w0, w1, w2, w3, rfl⟩ : ∃ w0 w1 w2 w3 : Value, args = #[w0, w1, w2, w3] := by
    have hs : args.size = 4 := by simpa [Cond.value, given_1] using h1
    obtain ⟨L⟩ := args
    match L, hs with
    | [w0, w1, w2, w3], _ => exact ⟨w0, w1, w2, w3, rfl⟩
  have hw := fun d (hd : d ∈ tables_1) => atoms_spec (ws := Jvm.Cond.code x code maxLocals ret :: tables_1) hat d (List.mem_cons_of_mem _ hd)
  obtain ⟨hsets, hown0⟩ := atoms_of _ (rest_1_c_eq ▸ (show rest_1_c.before _ s = true from hrest))
  obtain ⟨x0, f0⟩ := is_v j0
  obtain rfl : w0 = (.int x0) := Option.some.inj f0
  obtain ⟨x1, f1⟩ := is_v j1
  obtain rfl : w1 = (.int x1) := Option.some.inj f1
  obtain ⟨x2, f2⟩ := is_v j2
  obtain rfl : w2 = (.int x2) := Option.some.inj f2
  obtain ⟨x3, f3⟩ := is_v j3
  obtain rfl : w3 = (.int x3) := Option.some.inj f3
  have n0 := not_v (Cond.before_iff.mp (hsets _ (List.mem_of_getElem? (i := 2) rfl)))
  obtain ⟨i0, e0⟩ := is_v (Cond.before_iff.mp (hsets _ (List.mem_of_getElem? (i := 1) rfl)))
  have S0 : Sta s s.heap "java/lang/String" "COMPACT_STRINGS" "Z" (.int i0) := Sta.start e0 (Or.inl (hsets _ (List.mem_of_getElem? (i := 0) rfl)))
  have c0 : ¬ (i0 = (0 : Int32)) := gotF (Cond.eq_ints e0 (Term.int_eval (0))) n0
  obtain ⟨v1, e1, r1⟩ := isR_v (Cond.before_iff.mp (hsets _ (List.mem_of_getElem? (i := 8) rfl)))
  have S1 : Sta s s.heap "jdk/internal/util/Preconditions" "SIOOBE_FORMATTER" "Ljava/util/function/BiFunction;" v1 := Sta.start e1 (Or.inl (hsets _ (List.mem_of_getElem? (i := 7) rfl)))
  obtain ⟨v2, e2, q2⟩ := isR_v (Cond.before_iff.mp (hsets _ (List.mem_of_getElem? (i := 16) rfl)))
  obtain ⟨r2, rfl⟩ : ∃ r, v2 = .ref r := by
    rcases ref_cases q2 with rfl | ⟨r, rfl⟩
    · exact absurd (Cond.before_iff.mp (hsets _ (List.mem_of_getElem? (i := 17) rfl))) (by simp [Cond.value, e2])
    · exact ⟨r, rfl⟩
  have S2 : Sta s s.heap "java/lang/Throwable" "UNASSIGNED_STACK" "[Ljava/lang/StackTraceElement;" (.ref r2) := Sta.start e2 (Or.inl (hsets _ (List.mem_of_getElem? (i := 15) rfl)))
  obtain ⟨r3, -, -, -, e3, -⟩ := Cond.exactly_spec (hsets _ (List.mem_of_getElem? (i := 22) rfl))
  have S3 : Sta s s.heap "java/lang/Throwable" "SUPPRESSED_SENTINEL" "Ljava/util/List;" (.ref r3) := Sta.start e3 (Or.inl (hsets _ (List.mem_of_getElem? (i := 20) rfl)))
  have hCH : CHv s EL0 s.vm s.heap := CHv.start (hEL hw) (fun p hp => (show Jvm.Lit.constHeld s p.1 p.2 from hcalls.2.2.1 p hp)) (show Jvm.Lit.compactW.before _ s = true from (hsets _ (List.mem_of_getElem? (i := 2) rfl))) (hw _ (List.mem_of_getElem? (i := 15) rfl)) (hw _ (List.mem_of_getElem? (i := 11) rfl))
  obtain ⟨n, o, h1, h2, h3, v, L, gs, rfl, rfl, N, -, -, -, -, hq⟩ := k_law hw ⟨⟨i0, c0, S0⟩, ⟨v1, r1, S1⟩, ⟨r2, S2⟩, ⟨r3, S3⟩, trivial⟩ (x := x0) (y := x1) (z := x2) (m := x3) (Old.start s) l (by show (!l.flags.contains noTraceFlag) = true; rw [hfl]; decide) tables_1 p e ha hc hk s m _ below hf ((Spec.applies_iff_loose hf).mp happ).1 ⟨rfl, State.Warmed39.refl s, rfl, hCH, fun _ hx => absurd hx List.not_mem_nil⟩ ⟨MethodsKnown_of_tablesKnown hcalls.2.1, FramesKnown_of_framesKnown hcalls.1 hf⟩
  refine ⟨n, _, h1, h2, h3, hpost _ _ _ _ _ _ ⟨Cond.after_iff.mpr rfl, Cond.after_iff.mpr (eq_i res_at (Term.int_eval (1)) rfl), trivial⟩ ⟨hq.1, hq.2.1, hq.2.2.1, (hq.2.2.2.sift fun y hy => Or.inr (N y hy)).mono (by decide) (by decide)⟩⟩
theorem main_1_1 : Claimed_1_1 := comes_1 fun _ _ _ _ _ _ h hF => ⟨h.1, hF⟩
theorem main_1_2 : Claimed_1_2 := comes_1 fun _ _ _ _ _ _ h hF => ⟨h.2.1, hF⟩
end Jvm.Pilot.@@N@@
namespace Jvm.Pilot.@@N@@
open Jvm Jvm.ClassFile Sem Op Lib Jvm.Free Jvm.Stand Jvm.Pilot.@@N@@.Jvm.D
/-! MADE BY PROGRAM (witnessworld.py) out of the Statement's table words and the real class files: 41 classes; the members and pool entries that the words name. The judged class is class 1, her method 1. -/
namespace start1
open Jvm.ClassFile
def u (s : String) : CpInfo := .utf8 (stringToUtf16 s)
/-- a pool by its gaps: so many unusable entries, then the entry; so many at the end -/
def gap : Nat → List CpInfo → List CpInfo
  | 0, r => r
  | n + 1, r => .unusable :: gap n r
def poolList (es : List (Nat × CpInfo)) (last : Nat) : List CpInfo := es.foldr (fun e r => gap e.1 (e.2 :: r)) (gap last [])
def pool (es : List (Nat × CpInfo)) (last : Nat) : Array CpInfo := ⟨poolList es last⟩
def fileOf (pool : Array CpInfo) (this : Nat) (attrs : Array Attribute := #[]) (ms : Array MethodInfo := #[]) (fl : Nat := 33) (sup : Nat := 0) (ifs : Array Nat := #[]) (fds : Array FieldInfo := #[]) : ClassFile where
  minorVersion := 0
  majorVersion := 65
  constantPool := pool
  accessFlags := fl
  thisClass := this
  superClass := sup
  interfaces := ifs
  fields := fds
  methods := ms
  attributes := attrs
def plain (name : String) (sup : Option ClassId) : Class where
  name := name
  kind := .ordinary
  loader := none
  accessFlags := 33
  super := sup
  interfaces := #[]
  cf := none
  fields := #[]
  methods := #[]
  instanceTypes := #[]
  staticTypes := #[]
  resolved := #[]
  callSites := []
  init := .initialized
  statics := none
  mirror := none

def pool0 : Array CpInfo := pool [(5, u "<init>"), (0, u "()V"), (1, .class_ 10), (1, u "java/lang/Object"), (85, u "clone"), (0, u "()Ljava/lang/Object;")] 26

def k0c0 : Code := { maxStack := 0, maxLocals := 1, code := object_method_1_code, exceptionTable := #[], attributes := #[] }
def k0m0 : Method := { name := "<init>", desc := "()V", sig := { parameters := [], returnType := none }, accessFlags := 1, code := some k0c0 }
def k0m1 : Method := { name := "clone", desc := "()Ljava/lang/Object;", sig := { parameters := [], returnType := some (.object "java/lang/Object") }, accessFlags := 260, code := none }
/-- java/lang/Object -/
def k0 : Class := { plain "java/lang/Object" none with
  accessFlags := 33
  interfaces := #[]
  cf := some (fileOf pool0 8 #[] #[{ accessFlags := 1, nameIndex := 5, descriptorIndex := 6, attributes := #[] }, { accessFlags := 260, nameIndex := 96, descriptorIndex := 97, attributes := #[] }] 33 0 #[] #[])
  fields := #[]
  methods := #[k0m0, k0m1]
  instanceTypes := #[]
  staticTypes := #[]
  resolved := Array.replicate 124 none
  statics := none }

def pool1 : Array CpInfo := pool [(2, .class_ 4), (1, u "java/lang/Object"), (0, u "<init>"), (0, u "()V"), (0, .class_ 8), (0, u "java/lang/String"), (0, .methodref 7 10), (0, .nameAndType 5 11), (0, u "([C)V"), (0, .methodref 7 13), (0, .nameAndType 14 15), (0, u "valueOf"), (0, u "(C)Ljava/lang/String;"), (0, .string 17), (0, u ""), (0, .methodref 19 20), (0, .class_ 21), (0, .nameAndType 22 23), (0, u "com/example/loadbay/loadbay/Refusal"), (0, u "badEncoding"), (0, u "(Ljava/lang/String;)Lcom/example/loadbay/loadbay/Refusal;"), (0, .methodref 19 25), (0, .nameAndType 26 27), (0, u "httpStatus"), (0, u "()I"), (0, .methodref 19 29), (0, .nameAndType 30 27), (0, u "agileStatus"), (0, .class_ 32), (0, u "com/example/loadbay/loadbay/RefusalBadEncodingPinLaw"), (2, u "law"), (0, u "(IIII)Z")] 5

def k1m0 : Method := { name := "<init>", desc := "()V", sig := { parameters := [], returnType := none }, accessFlags := 1, code := none }
def k1c1 : Code := { maxStack := 4, maxLocals := 8, code := code, exceptionTable := #[], attributes := #[] }
def k1m1 : Method := { name := "law", desc := "(IIII)Z", sig := { parameters := [.int, .int, .int, .int], returnType := some .boolean }, accessFlags := 9, code := some k1c1 }
/-- com/example/loadbay/loadbay/RefusalBadEncodingPinLaw -/
def k1 : Class := { plain "com/example/loadbay/loadbay/RefusalBadEncodingPinLaw" (some 0) with
  accessFlags := 49
  interfaces := #[]
  cf := some (fileOf pool1 31 #[] #[{ accessFlags := 1, nameIndex := 5, descriptorIndex := 6, attributes := #[] }, { accessFlags := 9, nameIndex := 35, descriptorIndex := 36, attributes := #[] }] 49 2 #[] #[])
  fields := #[]
  methods := #[k1m0, k1m1]
  instanceTypes := #[]
  staticTypes := #[]
  resolved := Array.replicate 42 none
  statics := none }

def pool2 : Array CpInfo := pool [(1, .class_ 2), (0, u "java/io/Serializable"), (0, .class_ 4), (0, u "java/lang/Object")] 2

/-- java/io/Serializable -/
def k2 : Class := { plain "java/io/Serializable" (some 0) with
  accessFlags := 1537
  interfaces := #[]
  cf := some (fileOf pool2 1 #[] #[] 1537 3 #[] #[])
  fields := #[]
  methods := #[]
  instanceTypes := #[]
  staticTypes := #[]
  resolved := Array.replicate 7 none
  statics := none }

def pool3 : Array CpInfo := pool [(1, .class_ 2), (0, u "java/lang/Comparable"), (0, .class_ 4), (0, u "java/lang/Object")] 7

/-- java/lang/Comparable -/
def k3 : Class := { plain "java/lang/Comparable" (some 0) with
  accessFlags := 1537
  interfaces := #[]
  cf := some (fileOf pool3 1 #[] #[] 1537 3 #[] #[])
  fields := #[]
  methods := #[]
  instanceTypes := #[]
  staticTypes := #[]
  resolved := Array.replicate 12 none
  statics := none }

def pool4 : Array CpInfo := pool [(2, .class_ 4), (1, u "java/lang/CharSequence"), (42, .class_ 48), (0, u "java/lang/CharSequence$1CodePointIterator"), (10, .class_ 60), (0, u "java/lang/CharSequence$1CharIterator"), (5, .class_ 67), (0, u "java/lang/Object")] 63

/-- java/lang/CharSequence -/
def k4 : Class := { plain "java/lang/CharSequence" (some 0) with
  accessFlags := 1537
  interfaces := #[]
  cf := some (fileOf pool4 2 #[.nestMembers #[47, 59]] #[] 1537 66 #[] #[])
  fields := #[]
  methods := #[]
  instanceTypes := #[]
  staticTypes := #[]
  resolved := Array.replicate 131 none
  statics := none }

def pool5 : Array CpInfo := pool [(1, .class_ 2), (0, u "java/lang/constant/Constable"), (0, .class_ 4), (0, u "java/lang/Object")] 6

/-- java/lang/constant/Constable -/
def k5 : Class := { plain "java/lang/constant/Constable" (some 0) with
  accessFlags := 1537
  interfaces := #[]
  cf := some (fileOf pool5 1 #[] #[] 1537 3 #[] #[])
  fields := #[]
  methods := #[]
  instanceTypes := #[]
  staticTypes := #[]
  resolved := Array.replicate 11 none
  statics := none }

def pool6 : Array CpInfo := pool [(1, .class_ 2), (0, u "java/lang/constant/ConstantDesc"), (0, .class_ 4), (0, u "java/lang/Object")] 32

/-- java/lang/constant/ConstantDesc -/
def k6 : Class := { plain "java/lang/constant/ConstantDesc" (some 0) with
  accessFlags := 1537
  interfaces := #[]
  cf := some (fileOf pool6 1 #[] #[] 1537 3 #[] #[])
  fields := #[]
  methods := #[]
  instanceTypes := #[]
  staticTypes := #[]
  resolved := Array.replicate 37 none
  statics := none }

def pool7 : Array CpInfo := pool [(1, .methodref 2 3), (0, .class_ 4), (0, .nameAndType 5 6), (0, u "java/lang/Object"), (0, u "<init>"), (0, u "()V"), (2, .fieldref 10 11), (0, .class_ 12), (0, .nameAndType 13 14), (0, u "java/lang/String"), (0, u "value"), (0, u "[B"), (0, .fieldref 10 16), (0, .nameAndType 17 18), (0, u "coder"), (0, u "B"), (2, u "hash"), (0, u "I"), (2, u "hashIsZero"), (0, u "Z"), (0, .methodref 10 28), (0, .nameAndType 5 29), (0, u "([CIILjava/lang/Void;)V"), (8, .fieldref 10 39), (0, .nameAndType 40 26), (0, u "COMPACT_STRINGS"), (1, .class_ 44), (1, u "java/lang/StringUTF16"), (0, u "compress"), (1, .methodref 42 48), (0, .nameAndType 49 50), (0, u "coderFromArrayLen"), (0, u "([BI)B"), (2, u "toBytes"), (0, .methodref 55 56), (0, .class_ 57), (0, .nameAndType 58 59), (0, u "java/util/Arrays"), (0, u "copyOfRange"), (0, u "([BII)[B"), (47, .class_ 109), (1, u "java/lang/StringLatin1"), (32, u "()Z"), (34, .methodref 42 178), (0, .nameAndType 45 179), (0, u "([CII)[B"), (13, .class_ 195), (1, u "java/lang/System"), (13, .methodref 10 210), (0, .nameAndType 5 211), (0, u "([BB)V"), (0, .methodref 193 213), (0, .nameAndType 214 215), (0, u "arraycopy"), (0, u "(Ljava/lang/Object;ILjava/lang/Object;II)V"), (118, u "()I"), (0, .methodref 10 336), (0, .nameAndType 17 337), (0, u "()B"), (2, u "()[B"), (28, u "(C)Z"), (119, .methodref 10 490), (0, .nameAndType 5 491), (0, u "(Ljava/lang/AbstractStringBuilder;Ljava/lang/Void;)V"), (1, .nameAndType 494 142), (0, u "isLatin1"), (11, .nameAndType 507 334), (0, u "length"), (24, u "getBytes"), (16, .methodref 550 506), (0, .class_ 551), (0, u "java/lang/AbstractStringBuilder"), (0, .methodref 550 553), (0, .nameAndType 554 340), (0, u "getValue"), (20, .class_ 576), (0, u "java/lang/CharSequence"), (22, u "CASE_INSENSITIVE_ORDER"), (0, u "Ljava/util/Comparator;"), (181, u "valueOf"), (0, u "(C)Ljava/lang/String;"), (37, u "([BIB)V"), (188, u "([C)V"), (4, .methodref 107 1016), (0, .nameAndType 1017 369), (0, u "canEncode"), (0, .methodref 107 1019), (0, .nameAndType 53 1020), (0, u "(C)[B"), (26, .methodref 550 493), (53, u "serialPersistentFields"), (0, u "[Ljava/io/ObjectStreamField;"), (0, .class_ 1104), (0, u "java/lang/String$CaseInsensitiveComparator"), (1, .class_ 1107), (0, u "java/io/Serializable"), (0, .class_ 1109), (0, u "java/lang/Comparable"), (0, .class_ 1111), (0, u "java/lang/constant/Constable"), (0, .class_ 1113), (0, u "java/lang/constant/ConstantDesc"), (2, u "serialVersionUID"), (0, u "J"), (3, u "REPL"), (0, u "C"), (2, u "LATIN1"), (1, u "UTF16"), (105, u "(Ljava/lang/StringBuilder;)V")] 217

def k7m0 : Method := { name := "<init>", desc := "()V", sig := { parameters := [], returnType := none }, accessFlags := 1, code := none }
def k7c1 : Code := { maxStack := 5, maxLocals := 2, code := jdk_42_method_3_code, exceptionTable := #[], attributes := #[] }
def k7m1 : Method := { name := "<init>", desc := "([C)V", sig := { parameters := [(.array .char)], returnType := none }, accessFlags := 1, code := some k7c1 }
def k7c2 : Code := { maxStack := 3, maxLocals := 2, code := jdk_42_method_53_code, exceptionTable := #[], attributes := #[] }
def k7m2 : Method := { name := "<init>", desc := "(Ljava/lang/StringBuilder;)V", sig := { parameters := [(.object "java/lang/StringBuilder")], returnType := none }, accessFlags := 1, code := some k7c2 }
def k7c3 : Code := { maxStack := 2, maxLocals := 1, code := jdk_42_method_54_code, exceptionTable := #[], attributes := #[] }
def k7m3 : Method := { name := "length", desc := "()I", sig := { parameters := [], returnType := some .int }, accessFlags := 1, code := some k7c3 }
def k7c4 : Code := { maxStack := 4, maxLocals := 1, code := jdk_42_method_139_code, exceptionTable := #[], attributes := #[] }
def k7m4 : Method := { name := "valueOf", desc := "(C)Ljava/lang/String;", sig := { parameters := [.char], returnType := some (.object "java/lang/String") }, accessFlags := 9, code := some k7c4 }
def k7c5 : Code := { maxStack := 5, maxLocals := 4, code := jdk_42_method_147_code, exceptionTable := #[], attributes := #[] }
def k7m5 : Method := { name := "getBytes", desc := "([BIB)V", sig := { parameters := [(.array .byte), .int, .byte], returnType := none }, accessFlags := 0, code := some k7c5 }
def k7c6 : Code := { maxStack := 4, maxLocals := 6, code := jdk_42_method_149_code, exceptionTable := #[], attributes := #[] }
def k7m6 : Method := { name := "<init>", desc := "([CIILjava/lang/Void;)V", sig := { parameters := [(.array .char), .int, .int, (.object "java/lang/Void")], returnType := none }, accessFlags := 2, code := some k7c6 }
def k7c7 : Code := { maxStack := 5, maxLocals := 5, code := jdk_42_method_150_code, exceptionTable := #[], attributes := #[] }
def k7m7 : Method := { name := "<init>", desc := "(Ljava/lang/AbstractStringBuilder;Ljava/lang/Void;)V", sig := { parameters := [(.object "java/lang/AbstractStringBuilder"), (.object "java/lang/Void")], returnType := none }, accessFlags := 0, code := some k7c7 }
def k7c8 : Code := { maxStack := 2, maxLocals := 3, code := jdk_42_method_151_code, exceptionTable := #[], attributes := #[] }
def k7m8 : Method := { name := "<init>", desc := "([BB)V", sig := { parameters := [(.array .byte), .byte], returnType := none }, accessFlags := 0, code := some k7c8 }
def k7c9 : Code := { maxStack := 1, maxLocals := 1, code := jdk_42_method_152_code, exceptionTable := #[], attributes := #[] }
def k7m9 : Method := { name := "coder", desc := "()B", sig := { parameters := [], returnType := some .byte }, accessFlags := 0, code := some k7c9 }
/-- java/lang/String -/
def k7 : Class := { plain "java/lang/String" (some 0) with
  accessFlags := 49
  interfaces := #[2, 3, 4, 5, 6]
  cf := some (fileOf pool7 10 #[.nestMembers #[1103]] #[{ accessFlags := 1, nameIndex := 5, descriptorIndex := 6, attributes := #[] }, { accessFlags := 1, nameIndex := 5, descriptorIndex := 1010, attributes := #[] }, { accessFlags := 1, nameIndex := 5, descriptorIndex := 1233, attributes := #[] }, { accessFlags := 1, nameIndex := 507, descriptorIndex := 334, attributes := #[] }, { accessFlags := 9, nameIndex := 782, descriptorIndex := 783, attributes := #[] }, { accessFlags := 0, nameIndex := 532, descriptorIndex := 821, attributes := #[] }, { accessFlags := 2, nameIndex := 5, descriptorIndex := 29, attributes := #[] }, { accessFlags := 0, nameIndex := 5, descriptorIndex := 491, attributes := #[] }, { accessFlags := 0, nameIndex := 5, descriptorIndex := 211, attributes := #[] }, { accessFlags := 0, nameIndex := 17, descriptorIndex := 337, attributes := #[] }] 49 2 #[1106, 1108, 575, 1110, 1112] #[{ accessFlags := 18, nameIndex := 13, descriptorIndex := 14, attributes := #[] }, { accessFlags := 18, nameIndex := 17, descriptorIndex := 18, attributes := #[] }, { accessFlags := 2, nameIndex := 21, descriptorIndex := 22, attributes := #[] }, { accessFlags := 2, nameIndex := 25, descriptorIndex := 26, attributes := #[] }, { accessFlags := 26, nameIndex := 1116, descriptorIndex := 1117, attributes := #[] }, { accessFlags := 24, nameIndex := 40, descriptorIndex := 26, attributes := #[] }, { accessFlags := 26, nameIndex := 1101, descriptorIndex := 1102, attributes := #[] }, { accessFlags := 26, nameIndex := 1121, descriptorIndex := 1122, attributes := #[] }, { accessFlags := 25, nameIndex := 599, descriptorIndex := 600, attributes := #[] }, { accessFlags := 24, nameIndex := 1125, descriptorIndex := 18, attributes := #[] }, { accessFlags := 24, nameIndex := 1127, descriptorIndex := 18, attributes := #[] }])
  fields := #[{ name := "value", type := (.array .byte), accessFlags := 18, slot := 0, constantValue := 0 }, { name := "coder", type := .byte, accessFlags := 18, slot := 1, constantValue := 0 }, { name := "hash", type := .int, accessFlags := 2, slot := 2, constantValue := 0 }, { name := "hashIsZero", type := .boolean, accessFlags := 2, slot := 3, constantValue := 0 }, { name := "serialVersionUID", type := .long, accessFlags := 26, slot := 0, constantValue := 0 }, { name := "COMPACT_STRINGS", type := .boolean, accessFlags := 24, slot := 1, constantValue := 0 }, { name := "serialPersistentFields", type := (.array (.object "java/io/ObjectStreamField")), accessFlags := 26, slot := 2, constantValue := 0 }, { name := "REPL", type := .char, accessFlags := 26, slot := 3, constantValue := 0 }, { name := "CASE_INSENSITIVE_ORDER", type := (.object "java/util/Comparator"), accessFlags := 25, slot := 4, constantValue := 0 }, { name := "LATIN1", type := .byte, accessFlags := 24, slot := 5, constantValue := 0 }, { name := "UTF16", type := .byte, accessFlags := 24, slot := 6, constantValue := 0 }]
  methods := #[k7m0, k7m1, k7m2, k7m3, k7m4, k7m5, k7m6, k7m7, k7m8, k7m9]
  instanceTypes := #[(.array .byte), .byte, .int, .boolean]
  staticTypes := #[.long, .boolean, (.array (.object "java/io/ObjectStreamField")), .char, (.object "java/util/Comparator"), .byte, .byte]
  resolved := Array.replicate 1451 none
  statics := some 0 }

def pool8 : Array CpInfo := pool [(4, .class_ 6), (1, u "java/lang/Object"), (0, u "<init>"), (0, u "()V"), (5, .class_ 16), (1, u "java/lang/StringLatin1"), (73, u "canEncode"), (14, u "(C)Z"), (15, u "$assertionsDisabled"), (0, u "Z"), (98, .class_ 223), (1, u "java/lang/StringLatin1$LinesSpliterator"), (156, u "toBytes"), (1, u "(C)[B"), (7, .class_ 391), (0, u "java/lang/StringLatin1$CharsSpliterator")] 3

def k8m0 : Method := { name := "<init>", desc := "()V", sig := { parameters := [], returnType := none }, accessFlags := 0, code := none }
def k8c1 : Code := { maxStack := 2, maxLocals := 1, code := jdk_43_method_3_code, exceptionTable := #[], attributes := #[] }
def k8m1 : Method := { name := "canEncode", desc := "(C)Z", sig := { parameters := [.char], returnType := some .boolean }, accessFlags := 9, code := some k8c1 }
def k8c2 : Code := { maxStack := 4, maxLocals := 1, code := jdk_43_method_46_code, exceptionTable := #[], attributes := #[] }
def k8m2 : Method := { name := "toBytes", desc := "(C)[B", sig := { parameters := [.char], returnType := some (.array .byte) }, accessFlags := 9, code := some k8c2 }
/-- java/lang/StringLatin1 -/
def k8 : Class := { plain "java/lang/StringLatin1" (some 0) with
  accessFlags := 48
  interfaces := #[]
  cf := some (fileOf pool8 14 #[.nestMembers #[390, 221]] #[{ accessFlags := 0, nameIndex := 7, descriptorIndex := 8, attributes := #[] }, { accessFlags := 9, nameIndex := 90, descriptorIndex := 105, attributes := #[] }, { accessFlags := 9, nameIndex := 380, descriptorIndex := 382, attributes := #[] }] 48 4 #[] #[{ accessFlags := 4120, nameIndex := 121, descriptorIndex := 122, attributes := #[] }])
  fields := #[{ name := "$assertionsDisabled", type := .boolean, accessFlags := 4120, slot := 0, constantValue := 0 }]
  methods := #[k8m0, k8m1, k8m2]
  instanceTypes := #[]
  staticTypes := #[.boolean]
  resolved := Array.replicate 395 none
  statics := none }

def pool9 : Array CpInfo := pool [(1, .methodref 2 3), (0, .class_ 4), (0, .nameAndType 5 6), (0, u "java/lang/Object"), (0, u "<init>"), (0, u "()V"), (0, .fieldref 8 9), (0, .class_ 10), (0, .nameAndType 11 12), (0, u "java/lang/Throwable"), (0, u "cause"), (0, u "Ljava/lang/Throwable;"), (0, .fieldref 8 14), (0, .nameAndType 15 16), (0, u "UNASSIGNED_STACK"), (0, u "[Ljava/lang/StackTraceElement;"), (0, .fieldref 8 18), (0, .nameAndType 19 16), (0, u "stackTrace"), (0, .fieldref 8 21), (0, .nameAndType 22 23), (0, u "SUPPRESSED_SENTINEL"), (0, u "Ljava/util/List;"), (0, .fieldref 8 25), (0, .nameAndType 26 23), (0, u "suppressedExceptions"), (0, .methodref 8 28), (0, .nameAndType 29 30), (0, u "fillInStackTrace"), (0, u "()Ljava/lang/Throwable;"), (0, .fieldref 8 32), (0, .nameAndType 33 34), (0, u "detailMessage"), (0, u "Ljava/lang/String;"), (58, .class_ 94), (0, u "java/lang/Throwable$WrappedPrintStream"), (6, .class_ 103), (1, u "java/lang/Throwable$PrintStreamOrWriter"), (61, u "$assertionsDisabled"), (0, u "Z"), (26, .class_ 194), (0, u "java/lang/Throwable$WrappedPrintWriter"), (3, .fieldref 8 199), (0, .nameAndType 200 201), (0, u "backtrace"), (0, u "Ljava/lang/Object;"), (0, .methodref 8 203), (0, .nameAndType 29 204), (0, u "(I)Ljava/lang/Throwable;"), (6, u "depth"), (0, u "I"), (10, u "(Ljava/lang/String;)V"), (45, .class_ 271), (1, u "java/lang/Throwable$SentinelHolder"), (32, u "EMPTY_THROWABLE_ARRAY"), (0, u "[Ljava/lang/Throwable;"), (12, .class_ 319), (0, u "java/io/Serializable"), (0, u "serialVersionUID"), (0, u "J"), (5, u "NULL_CAUSE_MESSAGE"), (0, u "SELF_SUPPRESSION_MESSAGE"), (0, u "CAUSE_CAPTION"), (0, u "SUPPRESSED_CAPTION")] 73

def k9c0 : Code := { maxStack := 2, maxLocals := 1, code := jdk_78_method_1_code, exceptionTable := #[], attributes := #[] }
def k9m0 : Method := { name := "<init>", desc := "()V", sig := { parameters := [], returnType := none }, accessFlags := 1, code := some k9c0 }
def k9c1 : Code := { maxStack := 2, maxLocals := 2, code := jdk_78_method_2_code, exceptionTable := #[], attributes := #[] }
def k9m1 : Method := { name := "<init>", desc := "(Ljava/lang/String;)V", sig := { parameters := [(.object "java/lang/String")], returnType := none }, accessFlags := 1, code := some k9c1 }
def k9c2 : Code := { maxStack := 2, maxLocals := 1, code := ⟨#[0x2a, 0xb4, 0x00, 0x11, 0xc7, 0x00, 0x0a, 0x2a, 0xb4, 0x00, 0xc6, 0xc6, 0x00, 0x10, 0x2a, 0x03, 0xb6, 0x00, 0xca, 0x57, 0x2a, 0xb2, 0x00, 0x0d, 0xb5, 0x00, 0x11, 0x2a, 0xb0]⟩, exceptionTable := #[], attributes := #[] }
def k9m2 : Method := { name := "fillInStackTrace", desc := "()Ljava/lang/Throwable;", sig := { parameters := [], returnType := some (.object "java/lang/Throwable") }, accessFlags := 33, code := some k9c2 }
def k9m3 : Method := { name := "fillInStackTrace", desc := "(I)Ljava/lang/Throwable;", sig := { parameters := [.int], returnType := some (.object "java/lang/Throwable") }, accessFlags := 258, code := none }
/-- java/lang/Throwable -/
def k9 : Class := { plain "java/lang/Throwable" (some 0) with
  accessFlags := 33
  interfaces := #[2]
  cf := some (fileOf pool9 8 #[.nestMembers #[193, 93, 101, 269]] #[{ accessFlags := 1, nameIndex := 5, descriptorIndex := 6, attributes := #[] }, { accessFlags := 1, nameIndex := 5, descriptorIndex := 223, attributes := #[] }, { accessFlags := 33, nameIndex := 29, descriptorIndex := 30, attributes := #[] }, { accessFlags := 258, nameIndex := 29, descriptorIndex := 204, attributes := #[] }] 33 2 #[318] #[{ accessFlags := 26, nameIndex := 320, descriptorIndex := 321, attributes := #[] }, { accessFlags := 130, nameIndex := 200, descriptorIndex := 201, attributes := #[] }, { accessFlags := 2, nameIndex := 33, descriptorIndex := 34, attributes := #[] }, { accessFlags := 26, nameIndex := 15, descriptorIndex := 16, attributes := #[] }, { accessFlags := 2, nameIndex := 11, descriptorIndex := 12, attributes := #[] }, { accessFlags := 2, nameIndex := 19, descriptorIndex := 16, attributes := #[] }, { accessFlags := 130, nameIndex := 211, descriptorIndex := 212, attributes := #[] }, { accessFlags := 26, nameIndex := 22, descriptorIndex := 23, attributes := #[] }, { accessFlags := 2, nameIndex := 26, descriptorIndex := 23, attributes := #[] }, { accessFlags := 26, nameIndex := 327, descriptorIndex := 34, attributes := #[] }, { accessFlags := 26, nameIndex := 328, descriptorIndex := 34, attributes := #[] }, { accessFlags := 26, nameIndex := 329, descriptorIndex := 34, attributes := #[] }, { accessFlags := 26, nameIndex := 330, descriptorIndex := 34, attributes := #[] }, { accessFlags := 26, nameIndex := 304, descriptorIndex := 305, attributes := #[] }, { accessFlags := 4120, nameIndex := 165, descriptorIndex := 166, attributes := #[] }])
  fields := #[{ name := "serialVersionUID", type := .long, accessFlags := 26, slot := 0, constantValue := 0 }, { name := "backtrace", type := (.object "java/lang/Object"), accessFlags := 130, slot := 0, constantValue := 0 }, { name := "detailMessage", type := (.object "java/lang/String"), accessFlags := 2, slot := 1, constantValue := 0 }, { name := "UNASSIGNED_STACK", type := (.array (.object "java/lang/StackTraceElement")), accessFlags := 26, slot := 1, constantValue := 0 }, { name := "cause", type := (.object "java/lang/Throwable"), accessFlags := 2, slot := 2, constantValue := 0 }, { name := "stackTrace", type := (.array (.object "java/lang/StackTraceElement")), accessFlags := 2, slot := 3, constantValue := 0 }, { name := "depth", type := .int, accessFlags := 130, slot := 4, constantValue := 0 }, { name := "SUPPRESSED_SENTINEL", type := (.object "java/util/List"), accessFlags := 26, slot := 2, constantValue := 0 }, { name := "suppressedExceptions", type := (.object "java/util/List"), accessFlags := 2, slot := 5, constantValue := 0 }, { name := "NULL_CAUSE_MESSAGE", type := (.object "java/lang/String"), accessFlags := 26, slot := 3, constantValue := 0 }, { name := "SELF_SUPPRESSION_MESSAGE", type := (.object "java/lang/String"), accessFlags := 26, slot := 4, constantValue := 0 }, { name := "CAUSE_CAPTION", type := (.object "java/lang/String"), accessFlags := 26, slot := 5, constantValue := 0 }, { name := "SUPPRESSED_CAPTION", type := (.object "java/lang/String"), accessFlags := 26, slot := 6, constantValue := 0 }, { name := "EMPTY_THROWABLE_ARRAY", type := (.array (.object "java/lang/Throwable")), accessFlags := 26, slot := 7, constantValue := 0 }, { name := "$assertionsDisabled", type := .boolean, accessFlags := 4120, slot := 8, constantValue := 0 }]
  methods := #[k9m0, k9m1, k9m2, k9m3]
  instanceTypes := #[(.object "java/lang/Object"), (.object "java/lang/String"), (.object "java/lang/Throwable"), (.array (.object "java/lang/StackTraceElement")), .int, (.object "java/util/List")]
  staticTypes := #[.long, (.array (.object "java/lang/StackTraceElement")), (.object "java/util/List"), (.object "java/lang/String"), (.object "java/lang/String"), (.object "java/lang/String"), (.object "java/lang/String"), (.array (.object "java/lang/Throwable")), .boolean]
  resolved := Array.replicate 404 none
  statics := some 1 }

def pool10 : Array CpInfo := pool [(2, .class_ 4), (1, u "java/lang/Throwable"), (0, u "<init>"), (0, u "()V"), (0, .methodref 2 8), (0, .nameAndType 5 9), (0, u "(Ljava/lang/String;)V"), (9, .class_ 20), (0, u "java/lang/Exception"), (0, u "serialVersionUID"), (0, u "J")] 17

def k10m0 : Method := { name := "<init>", desc := "()V", sig := { parameters := [], returnType := none }, accessFlags := 1, code := none }
def k10c1 : Code := { maxStack := 2, maxLocals := 2, code := jdk_59_method_2_code, exceptionTable := #[], attributes := #[] }
def k10m1 : Method := { name := "<init>", desc := "(Ljava/lang/String;)V", sig := { parameters := [(.object "java/lang/String")], returnType := none }, accessFlags := 1, code := some k10c1 }
/-- java/lang/Exception -/
def k10 : Class := { plain "java/lang/Exception" (some 9) with
  accessFlags := 33
  interfaces := #[]
  cf := some (fileOf pool10 19 #[] #[{ accessFlags := 1, nameIndex := 5, descriptorIndex := 6, attributes := #[] }, { accessFlags := 1, nameIndex := 5, descriptorIndex := 9, attributes := #[] }] 33 2 #[] #[{ accessFlags := 24, nameIndex := 21, descriptorIndex := 22, attributes := #[] }])
  fields := #[{ name := "serialVersionUID", type := .long, accessFlags := 24, slot := 0, constantValue := 0 }]
  methods := #[k10m0, k10m1]
  instanceTypes := #[(.object "java/lang/Object"), (.object "java/lang/String"), (.object "java/lang/Throwable"), (.array (.object "java/lang/StackTraceElement")), .int, (.object "java/util/List")]
  staticTypes := #[.long]
  resolved := Array.replicate 40 none
  statics := none }

def pool11 : Array CpInfo := pool [(1, .methodref 2 3), (0, .class_ 4), (0, .nameAndType 5 6), (0, u "java/lang/Exception"), (0, u "<init>"), (0, u "(Ljava/lang/String;)V"), (0, .fieldref 8 9), (0, .class_ 10), (0, .nameAndType 11 12), (0, u "com/example/loadbay/loadbay/Refusal"), (0, u "httpStatus"), (0, u "I"), (0, .fieldref 8 14), (0, .nameAndType 15 12), (0, u "agileStatus"), (2, .methodref 8 19), (0, .nameAndType 5 20), (0, u "(IILjava/lang/String;)V"), (2, .class_ 24), (0, u "java/lang/StringBuilder"), (0, .methodref 23 26), (0, .nameAndType 5 27), (0, u "()V"), (2, .methodref 23 31), (0, .nameAndType 32 33), (0, u "append"), (0, u "(Ljava/lang/String;)Ljava/lang/StringBuilder;"), (0, .methodref 23 35), (0, .nameAndType 36 37), (0, u "toString"), (0, u "()Ljava/lang/String;"), (4, .string 43), (0, u "not an encoding the server takes: "), (42, u "serialVersionUID"), (0, u "J"), (3, u "NOT_AUTHORIZED"), (1, u "NO_SUCH_FOLDER"), (1, u "BAD_NAME"), (1, u "CHECKSUM_MISMATCH"), (1, u "BAD_MTIME"), (1, u "BAD_RECURSIVE"), (1, u "BAD_ENCODING"), (1, u "UNKNOWN_UPLOAD"), (1, u "BAD_PART_NUMBER"), (0, u "NO_PIECES"), (1, u "MISSING_PIECE"), (1, u "UPLOAD_COMPLETED"), (0, u "TOO_MANY_PIECES"), (1, u "PIECE_TOO_LARGE"), (1, u "UPLOAD_TOO_LARGE"), (1, u "TOO_MANY_UPLOADS"), (1, u "UPLOAD_ABORTED"), (1, u "NO_UPLOAD_FOLDER"), (1, u "NO_FILE"), (1, u "MANY_FILES"), (1, u "EMPTY_FILE"), (0, u "BAD_EXPOSE_EGRESS"), (1, u "NO_CODE"), (7, u "(Ljava/lang/String;)Lcom/example/loadbay/loadbay/Refusal;"), (4, u "badEncoding"), (18, u "()I")] 2

def k11c0 : Code := { maxStack := 2, maxLocals := 4, code := prog_5_method_1_code, exceptionTable := #[], attributes := #[] }
def k11m0 : Method := { name := "<init>", desc := "(IILjava/lang/String;)V", sig := { parameters := [.int, .int, (.object "java/lang/String")], returnType := none }, accessFlags := 2, code := some k11c0 }
def k11c1 : Code := { maxStack := 6, maxLocals := 1, code := prog_5_method_9_code, exceptionTable := #[], attributes := #[] }
def k11m1 : Method := { name := "badEncoding", desc := "(Ljava/lang/String;)Lcom/example/loadbay/loadbay/Refusal;", sig := { parameters := [(.object "java/lang/String")], returnType := some (.object "com/example/loadbay/loadbay/Refusal") }, accessFlags := 8, code := some k11c1 }
def k11c2 : Code := { maxStack := 1, maxLocals := 1, code := prog_5_method_26_code, exceptionTable := #[], attributes := #[] }
def k11m2 : Method := { name := "httpStatus", desc := "()I", sig := { parameters := [], returnType := some .int }, accessFlags := 0, code := some k11c2 }
def k11c3 : Code := { maxStack := 1, maxLocals := 1, code := prog_5_method_27_code, exceptionTable := #[], attributes := #[] }
def k11m3 : Method := { name := "agileStatus", desc := "()I", sig := { parameters := [], returnType := some .int }, accessFlags := 0, code := some k11c3 }
/-- com/example/loadbay/loadbay/Refusal -/
def k11 : Class := { plain "com/example/loadbay/loadbay/Refusal" (some 10) with
  accessFlags := 48
  interfaces := #[]
  cf := some (fileOf pool11 8 #[] #[{ accessFlags := 2, nameIndex := 5, descriptorIndex := 20, attributes := #[] }, { accessFlags := 8, nameIndex := 145, descriptorIndex := 140, attributes := #[] }, { accessFlags := 0, nameIndex := 11, descriptorIndex := 164, attributes := #[] }, { accessFlags := 0, nameIndex := 15, descriptorIndex := 164, attributes := #[] }] 48 2 #[] #[{ accessFlags := 26, nameIndex := 86, descriptorIndex := 87, attributes := #[] }, { accessFlags := 24, nameIndex := 91, descriptorIndex := 12, attributes := #[] }, { accessFlags := 24, nameIndex := 93, descriptorIndex := 12, attributes := #[] }, { accessFlags := 24, nameIndex := 95, descriptorIndex := 12, attributes := #[] }, { accessFlags := 24, nameIndex := 97, descriptorIndex := 12, attributes := #[] }, { accessFlags := 24, nameIndex := 99, descriptorIndex := 12, attributes := #[] }, { accessFlags := 24, nameIndex := 101, descriptorIndex := 12, attributes := #[] }, { accessFlags := 24, nameIndex := 103, descriptorIndex := 12, attributes := #[] }, { accessFlags := 24, nameIndex := 105, descriptorIndex := 12, attributes := #[] }, { accessFlags := 24, nameIndex := 107, descriptorIndex := 12, attributes := #[] }, { accessFlags := 24, nameIndex := 108, descriptorIndex := 12, attributes := #[] }, { accessFlags := 24, nameIndex := 110, descriptorIndex := 12, attributes := #[] }, { accessFlags := 24, nameIndex := 112, descriptorIndex := 12, attributes := #[] }, { accessFlags := 24, nameIndex := 113, descriptorIndex := 12, attributes := #[] }, { accessFlags := 24, nameIndex := 115, descriptorIndex := 12, attributes := #[] }, { accessFlags := 24, nameIndex := 117, descriptorIndex := 12, attributes := #[] }, { accessFlags := 24, nameIndex := 119, descriptorIndex := 12, attributes := #[] }, { accessFlags := 24, nameIndex := 121, descriptorIndex := 12, attributes := #[] }, { accessFlags := 24, nameIndex := 123, descriptorIndex := 12, attributes := #[] }, { accessFlags := 24, nameIndex := 125, descriptorIndex := 12, attributes := #[] }, { accessFlags := 24, nameIndex := 127, descriptorIndex := 12, attributes := #[] }, { accessFlags := 24, nameIndex := 129, descriptorIndex := 12, attributes := #[] }, { accessFlags := 24, nameIndex := 130, descriptorIndex := 12, attributes := #[] }, { accessFlags := 24, nameIndex := 132, descriptorIndex := 12, attributes := #[] }, { accessFlags := 18, nameIndex := 11, descriptorIndex := 12, attributes := #[] }, { accessFlags := 18, nameIndex := 15, descriptorIndex := 12, attributes := #[] }])
  fields := #[{ name := "serialVersionUID", type := .long, accessFlags := 26, slot := 0, constantValue := 0 }, { name := "NOT_AUTHORIZED", type := .int, accessFlags := 24, slot := 1, constantValue := 0 }, { name := "NO_SUCH_FOLDER", type := .int, accessFlags := 24, slot := 2, constantValue := 0 }, { name := "BAD_NAME", type := .int, accessFlags := 24, slot := 3, constantValue := 0 }, { name := "CHECKSUM_MISMATCH", type := .int, accessFlags := 24, slot := 4, constantValue := 0 }, { name := "BAD_MTIME", type := .int, accessFlags := 24, slot := 5, constantValue := 0 }, { name := "BAD_RECURSIVE", type := .int, accessFlags := 24, slot := 6, constantValue := 0 }, { name := "BAD_ENCODING", type := .int, accessFlags := 24, slot := 7, constantValue := 0 }, { name := "UNKNOWN_UPLOAD", type := .int, accessFlags := 24, slot := 8, constantValue := 0 }, { name := "BAD_PART_NUMBER", type := .int, accessFlags := 24, slot := 9, constantValue := 0 }, { name := "NO_PIECES", type := .int, accessFlags := 24, slot := 10, constantValue := 0 }, { name := "MISSING_PIECE", type := .int, accessFlags := 24, slot := 11, constantValue := 0 }, { name := "UPLOAD_COMPLETED", type := .int, accessFlags := 24, slot := 12, constantValue := 0 }, { name := "TOO_MANY_PIECES", type := .int, accessFlags := 24, slot := 13, constantValue := 0 }, { name := "PIECE_TOO_LARGE", type := .int, accessFlags := 24, slot := 14, constantValue := 0 }, { name := "UPLOAD_TOO_LARGE", type := .int, accessFlags := 24, slot := 15, constantValue := 0 }, { name := "TOO_MANY_UPLOADS", type := .int, accessFlags := 24, slot := 16, constantValue := 0 }, { name := "UPLOAD_ABORTED", type := .int, accessFlags := 24, slot := 17, constantValue := 0 }, { name := "NO_UPLOAD_FOLDER", type := .int, accessFlags := 24, slot := 18, constantValue := 0 }, { name := "NO_FILE", type := .int, accessFlags := 24, slot := 19, constantValue := 0 }, { name := "MANY_FILES", type := .int, accessFlags := 24, slot := 20, constantValue := 0 }, { name := "EMPTY_FILE", type := .int, accessFlags := 24, slot := 21, constantValue := 0 }, { name := "BAD_EXPOSE_EGRESS", type := .int, accessFlags := 24, slot := 22, constantValue := 0 }, { name := "NO_CODE", type := .int, accessFlags := 24, slot := 23, constantValue := 0 }, { name := "httpStatus", type := .int, accessFlags := 18, slot := 6, constantValue := 0 }, { name := "agileStatus", type := .int, accessFlags := 18, slot := 7, constantValue := 0 }]
  methods := #[k11m0, k11m1, k11m2, k11m3]
  instanceTypes := #[(.object "java/lang/Object"), (.object "java/lang/String"), (.object "java/lang/Throwable"), (.array (.object "java/lang/StackTraceElement")), .int, (.object "java/util/List"), .int, .int]
  staticTypes := #[.long, .int, .int, .int, .int, .int, .int, .int, .int, .int, .int, .int, .int, .int, .int, .int, .int, .int, .int, .int, .int, .int, .int, .int]
  resolved := Array.replicate 167 none
  statics := none }

def pool12 : Array CpInfo := pool [(1, .class_ 2), (0, u "java/lang/Appendable"), (0, .class_ 4), (0, u "java/lang/Object")] 9

/-- java/lang/Appendable -/
def k12 : Class := { plain "java/lang/Appendable" (some 0) with
  accessFlags := 1537
  interfaces := #[]
  cf := some (fileOf pool12 1 #[] #[] 1537 3 #[] #[])
  fields := #[]
  methods := #[]
  instanceTypes := #[]
  staticTypes := #[]
  resolved := Array.replicate 14 none
  statics := none }

def pool13 : Array CpInfo := pool [(1, .class_ 2), (0, u "java/lang/String"), (0, .methodref 4 5), (0, .class_ 6), (0, .nameAndType 7 8), (0, u "java/lang/Object"), (0, u "<init>"), (0, u "()V"), (1, .class_ 12), (1, u "java/lang/AbstractStringBuilder"), (0, u "EMPTYVALUE"), (0, u "[B"), (0, .fieldref 10 16), (0, .nameAndType 17 14), (0, u "value"), (0, .fieldref 1 19), (0, .nameAndType 20 21), (0, u "COMPACT_STRINGS"), (0, u "Z"), (0, .fieldref 10 23), (0, .nameAndType 24 25), (0, u "coder"), (0, u "B"), (6, .methodref 1 33), (0, .nameAndType 34 35), (0, u "length"), (0, u "()I"), (3, .integer 2147483647), (0, .methodref 1 41), (0, .nameAndType 24 42), (0, u "()B"), (2, u "append"), (0, u "(Ljava/lang/String;)Ljava/lang/AbstractStringBuilder;"), (1, .class_ 49), (0, u "java/lang/CharSequence"), (19, u "(Ljava/lang/String;)V"), (5, u "maybeLatin1"), (3, .fieldref 10 80), (0, .nameAndType 81 82), (0, u "count"), (0, u "I"), (0, .methodref 10 84), (0, .nameAndType 85 86), (0, u "isLatin1"), (0, u "()Z"), (13, .methodref 10 101), (0, .nameAndType 102 103), (0, u "ensureCapacityInternal"), (0, u "(I)V"), (0, .methodref 10 105), (0, .nameAndType 106 107), (0, u "newCapacity"), (0, u "(I)I"), (0, .methodref 109 110), (0, .class_ 111), (0, .nameAndType 112 113), (0, u "java/util/Arrays"), (0, u "copyOf"), (0, u "([BI)[B"), (0, .methodref 115 116), (0, .class_ 117), (0, .nameAndType 118 119), (0, u "jdk/internal/util/ArraysSupport"), (0, u "newLength"), (0, u "(III)I"), (84, .methodref 10 205), (0, .nameAndType 206 207), (0, u "appendNull"), (0, u "()Ljava/lang/AbstractStringBuilder;"), (0, .methodref 10 209), (0, .nameAndType 210 211), (0, u "putStringAt"), (0, u "(ILjava/lang/String;)V"), (5, u "inflateIfNeededFor"), (2, .nameAndType 221 222), (0, u "getBytes"), (0, u "([BIB)V"), (174, .methodref 10 398), (0, .nameAndType 217 69), (0, .methodref 1 220), (3, u "()[B"), (40, .class_ 445), (0, u "java/lang/Appendable"), (106, u "getValue")] 56

def k13m0 : Method := { name := "<init>", desc := "()V", sig := { parameters := [], returnType := none }, accessFlags := 0, code := none }
def k13c1 : Code := { maxStack := 2, maxLocals := 2, code := jdk_68_method_2_code, exceptionTable := #[], attributes := #[] }
def k13m1 : Method := { name := "<init>", desc := "(I)V", sig := { parameters := [.int], returnType := none }, accessFlags := 0, code := some k13c1 }
def k13c2 : Code := { maxStack := 1, maxLocals := 1, code := jdk_68_method_6_code, exceptionTable := #[], attributes := #[] }
def k13m2 : Method := { name := "length", desc := "()I", sig := { parameters := [], returnType := some .int }, accessFlags := 1, code := some k13c2 }
def k13c3 : Code := { maxStack := 4, maxLocals := 3, code := jdk_68_method_9_code, exceptionTable := #[], attributes := #[] }
def k13m3 : Method := { name := "ensureCapacityInternal", desc := "(I)V", sig := { parameters := [.int], returnType := none }, accessFlags := 2, code := some k13c3 }
def k13c4 : Code := { maxStack := 5, maxLocals := 6, code := jdk_68_method_10_code, exceptionTable := #[], attributes := #[] }
def k13m4 : Method := { name := "newCapacity", desc := "(I)I", sig := { parameters := [.int], returnType := some .int }, accessFlags := 2, code := some k13c4 }
def k13c5 : Code := { maxStack := 3, maxLocals := 3, code := jdk_68_method_22_code, exceptionTable := #[], attributes := #[] }
def k13m5 : Method := { name := "append", desc := "(Ljava/lang/String;)Ljava/lang/AbstractStringBuilder;", sig := { parameters := [(.object "java/lang/String")], returnType := some (.object "java/lang/AbstractStringBuilder") }, accessFlags := 1, code := some k13c5 }
def k13c6 : Code := { maxStack := 6, maxLocals := 3, code := jdk_68_method_26_code, exceptionTable := #[], attributes := #[] }
def k13m6 : Method := { name := "appendNull", desc := "()Ljava/lang/AbstractStringBuilder;", sig := { parameters := [], returnType := some (.object "java/lang/AbstractStringBuilder") }, accessFlags := 2, code := some k13c6 }
def k13c7 : Code := { maxStack := 1, maxLocals := 1, code := jdk_68_method_64_code, exceptionTable := #[], attributes := #[] }
def k13m7 : Method := { name := "getValue", desc := "()[B", sig := { parameters := [], returnType := some (.array .byte) }, accessFlags := 16, code := some k13c7 }
def k13c8 : Code := { maxStack := 1, maxLocals := 1, code := jdk_68_method_68_code, exceptionTable := #[], attributes := #[] }
def k13m8 : Method := { name := "isLatin1", desc := "()Z", sig := { parameters := [], returnType := some .boolean }, accessFlags := 16, code := some k13c8 }
def k13c9 : Code := { maxStack := 2, maxLocals := 2, code := jdk_68_method_71_code, exceptionTable := #[], attributes := #[] }
def k13m9 : Method := { name := "inflateIfNeededFor", desc := "(Ljava/lang/String;)V", sig := { parameters := [(.object "java/lang/String")], returnType := none }, accessFlags := 2, code := some k13c9 }
def k13c10 : Code := { maxStack := 4, maxLocals := 3, code := jdk_68_method_73_code, exceptionTable := #[], attributes := #[] }
def k13m10 : Method := { name := "putStringAt", desc := "(ILjava/lang/String;)V", sig := { parameters := [.int, (.object "java/lang/String")], returnType := none }, accessFlags := 2, code := some k13c10 }
/-- java/lang/AbstractStringBuilder -/
def k13 : Class := { plain "java/lang/AbstractStringBuilder" (some 0) with
  accessFlags := 1056
  interfaces := #[12, 4]
  cf := some (fileOf pool13 10 #[] #[{ accessFlags := 0, nameIndex := 7, descriptorIndex := 8, attributes := #[] }, { accessFlags := 0, nameIndex := 7, descriptorIndex := 103, attributes := #[] }, { accessFlags := 1, nameIndex := 34, descriptorIndex := 35, attributes := #[] }, { accessFlags := 2, nameIndex := 102, descriptorIndex := 103, attributes := #[] }, { accessFlags := 2, nameIndex := 106, descriptorIndex := 107, attributes := #[] }, { accessFlags := 1, nameIndex := 45, descriptorIndex := 46, attributes := #[] }, { accessFlags := 2, nameIndex := 206, descriptorIndex := 207, attributes := #[] }, { accessFlags := 16, nameIndex := 552, descriptorIndex := 403, attributes := #[] }, { accessFlags := 16, nameIndex := 85, descriptorIndex := 86, attributes := #[] }, { accessFlags := 2, nameIndex := 217, descriptorIndex := 69, attributes := #[] }, { accessFlags := 2, nameIndex := 210, descriptorIndex := 211, attributes := #[] }] 1056 4 #[444, 48] #[{ accessFlags := 0, nameIndex := 17, descriptorIndex := 14, attributes := #[] }, { accessFlags := 0, nameIndex := 24, descriptorIndex := 25, attributes := #[] }, { accessFlags := 0, nameIndex := 75, descriptorIndex := 21, attributes := #[] }, { accessFlags := 0, nameIndex := 81, descriptorIndex := 82, attributes := #[] }, { accessFlags := 26, nameIndex := 13, descriptorIndex := 14, attributes := #[] }])
  fields := #[{ name := "value", type := (.array .byte), accessFlags := 0, slot := 0, constantValue := 0 }, { name := "coder", type := .byte, accessFlags := 0, slot := 1, constantValue := 0 }, { name := "maybeLatin1", type := .boolean, accessFlags := 0, slot := 2, constantValue := 0 }, { name := "count", type := .int, accessFlags := 0, slot := 3, constantValue := 0 }, { name := "EMPTYVALUE", type := (.array .byte), accessFlags := 26, slot := 0, constantValue := 0 }]
  methods := #[k13m0, k13m1, k13m2, k13m3, k13m4, k13m5, k13m6, k13m7, k13m8, k13m9, k13m10]
  instanceTypes := #[(.array .byte), .byte, .boolean, .int]
  staticTypes := #[(.array .byte)]
  resolved := Array.replicate 609 none
  statics := none }

def pool14 : Array CpInfo := pool [(1, .methodref 2 3), (0, .class_ 4), (0, .nameAndType 5 6), (0, u "java/lang/AbstractStringBuilder"), (0, u "<init>"), (0, u "(I)V"), (11, .class_ 20), (1, u "java/lang/String"), (3, .class_ 26), (1, u "java/lang/StringBuilder"), (0, u "append"), (0, u "(Ljava/lang/String;)Ljava/lang/StringBuilder;"), (0, .methodref 2 30), (0, .nameAndType 27 31), (0, u "(Ljava/lang/String;)Ljava/lang/AbstractStringBuilder;"), (105, .methodref 18 138), (0, .nameAndType 5 139), (0, u "(Ljava/lang/StringBuilder;)V"), (5, u "()V"), (10, u "()I"), (186, .methodref 2 344), (0, .nameAndType 345 156), (0, u "length"), (3, .class_ 350), (0, u "java/lang/Appendable"), (0, .class_ 352), (0, u "java/io/Serializable"), (0, .class_ 354), (0, u "java/lang/Comparable"), (0, .class_ 356), (0, u "java/lang/CharSequence"), (0, u "serialVersionUID"), (0, u "J"), (40, u "toString"), (0, u "()Ljava/lang/String;")] 21

def k14c0 : Code := { maxStack := 2, maxLocals := 1, code := jdk_67_method_1_code, exceptionTable := #[], attributes := #[] }
def k14m0 : Method := { name := "<init>", desc := "()V", sig := { parameters := [], returnType := none }, accessFlags := 1, code := some k14c0 }
def k14c1 : Code := { maxStack := 2, maxLocals := 2, code := jdk_67_method_7_code, exceptionTable := #[], attributes := #[] }
def k14m1 : Method := { name := "append", desc := "(Ljava/lang/String;)Ljava/lang/StringBuilder;", sig := { parameters := [(.object "java/lang/String")], returnType := some (.object "java/lang/StringBuilder") }, accessFlags := 1, code := some k14c1 }
def k14c2 : Code := { maxStack := 3, maxLocals := 1, code := jdk_67_method_42_code, exceptionTable := #[], attributes := #[] }
def k14m2 : Method := { name := "toString", desc := "()Ljava/lang/String;", sig := { parameters := [], returnType := some (.object "java/lang/String") }, accessFlags := 1, code := some k14c2 }
def k14c3 : Code := { maxStack := 1, maxLocals := 1, code := jdk_67_method_93_code, exceptionTable := #[], attributes := #[] }
def k14m3 : Method := { name := "length", desc := "()I", sig := { parameters := [], returnType := some .int }, accessFlags := 4161, code := some k14c3 }
/-- java/lang/StringBuilder -/
def k14 : Class := { plain "java/lang/StringBuilder" (some 13) with
  accessFlags := 49
  interfaces := #[12, 2, 3, 4]
  cf := some (fileOf pool14 24 #[] #[{ accessFlags := 1, nameIndex := 5, descriptorIndex := 145, attributes := #[] }, { accessFlags := 1, nameIndex := 27, descriptorIndex := 28, attributes := #[] }, { accessFlags := 1, nameIndex := 399, descriptorIndex := 400, attributes := #[] }, { accessFlags := 4161, nameIndex := 345, descriptorIndex := 156, attributes := #[] }] 49 2 #[349, 351, 353, 355] #[{ accessFlags := 24, nameIndex := 357, descriptorIndex := 358, attributes := #[] }])
  fields := #[{ name := "serialVersionUID", type := .long, accessFlags := 24, slot := 0, constantValue := 0 }]
  methods := #[k14m0, k14m1, k14m2, k14m3]
  instanceTypes := #[(.array .byte), .byte, .boolean, .int]
  staticTypes := #[.long]
  resolved := Array.replicate 422 none
  statics := none }

def pool15 : Array CpInfo := pool [(9, u "<init>"), (6, .class_ 18), (1, u "java/lang/Object"), (0, u "()V"), (1, .class_ 23), (1, u "jdk/internal/util/ArraysSupport"), (0, u "LOG2_ARRAY_LONG_INDEX_SCALE"), (0, u "I"), (2, u "U"), (0, u "Ljdk/internal/misc/Unsafe;"), (8, u "BIG_ENDIAN"), (0, u "Z"), (8, u "LOG2_BYTE_BIT_SIZE"), (4, u "LOG2_ARRAY_INT_INDEX_SCALE"), (54, u "JLA"), (0, u "Ljdk/internal/access/JavaLangAccess;"), (11, u "LOG2_ARRAY_BOOLEAN_INDEX_SCALE"), (9, u "LOG2_ARRAY_BYTE_INDEX_SCALE"), (5, u "LOG2_ARRAY_CHAR_INDEX_SCALE"), (5, u "LOG2_ARRAY_SHORT_INDEX_SCALE"), (18, u "LOG2_ARRAY_FLOAT_INDEX_SCALE"), (24, u "LOG2_ARRAY_DOUBLE_INDEX_SCALE"), (6, .methodref 195 196), (0, .class_ 197), (0, .nameAndType 198 199), (0, u "java/lang/Math"), (0, u "max"), (0, u "(II)I"), (0, .integer 2147483639), (76, u "T_BOOLEAN"), (2, u "T_CHAR"), (1, u "T_FLOAT"), (1, u "T_DOUBLE"), (1, u "T_BYTE"), (1, u "T_SHORT"), (1, u "T_INT"), (1, u "T_LONG"), (1, u "SOFT_MAX_ARRAY_LENGTH"), (56, u "newLength"), (0, u "(III)I")] 25

def k15m0 : Method := { name := "<init>", desc := "()V", sig := { parameters := [], returnType := none }, accessFlags := 2, code := none }
def k15c1 : Code := { maxStack := 3, maxLocals := 4, code := jdk_48_method_27_code, exceptionTable := #[], attributes := #[] }
def k15m1 : Method := { name := "newLength", desc := "(III)I", sig := { parameters := [.int, .int, .int], returnType := some .int }, accessFlags := 9, code := some k15c1 }
/-- jdk/internal/util/ArraysSupport -/
def k15 : Class := { plain "jdk/internal/util/ArraysSupport" (some 0) with
  accessFlags := 33
  interfaces := #[]
  cf := some (fileOf pool15 21 #[] #[{ accessFlags := 2, nameIndex := 9, descriptorIndex := 19, attributes := #[] }, { accessFlags := 9, nameIndex := 351, descriptorIndex := 352, attributes := #[] }] 33 16 #[] #[{ accessFlags := 24, nameIndex := 28, descriptorIndex := 29, attributes := #[] }, { accessFlags := 26, nameIndex := 38, descriptorIndex := 39, attributes := #[] }, { accessFlags := 25, nameIndex := 121, descriptorIndex := 25, attributes := #[] }, { accessFlags := 25, nameIndex := 131, descriptorIndex := 25, attributes := #[] }, { accessFlags := 25, nameIndex := 137, descriptorIndex := 25, attributes := #[] }, { accessFlags := 25, nameIndex := 143, descriptorIndex := 25, attributes := #[] }, { accessFlags := 25, nameIndex := 53, descriptorIndex := 25, attributes := #[] }, { accessFlags := 25, nameIndex := 24, descriptorIndex := 25, attributes := #[] }, { accessFlags := 25, nameIndex := 162, descriptorIndex := 25, attributes := #[] }, { accessFlags := 25, nameIndex := 187, descriptorIndex := 25, attributes := #[] }, { accessFlags := 26, nameIndex := 48, descriptorIndex := 25, attributes := #[] }, { accessFlags := 25, nameIndex := 277, descriptorIndex := 25, attributes := #[] }, { accessFlags := 25, nameIndex := 280, descriptorIndex := 25, attributes := #[] }, { accessFlags := 25, nameIndex := 282, descriptorIndex := 25, attributes := #[] }, { accessFlags := 25, nameIndex := 284, descriptorIndex := 25, attributes := #[] }, { accessFlags := 25, nameIndex := 286, descriptorIndex := 25, attributes := #[] }, { accessFlags := 25, nameIndex := 288, descriptorIndex := 25, attributes := #[] }, { accessFlags := 25, nameIndex := 290, descriptorIndex := 25, attributes := #[] }, { accessFlags := 25, nameIndex := 292, descriptorIndex := 25, attributes := #[] }, { accessFlags := 26, nameIndex := 108, descriptorIndex := 109, attributes := #[] }, { accessFlags := 25, nameIndex := 294, descriptorIndex := 25, attributes := #[] }])
  fields := #[{ name := "U", type := (.object "jdk/internal/misc/Unsafe"), accessFlags := 24, slot := 0, constantValue := 0 }, { name := "BIG_ENDIAN", type := .boolean, accessFlags := 26, slot := 1, constantValue := 0 }, { name := "LOG2_ARRAY_BOOLEAN_INDEX_SCALE", type := .int, accessFlags := 25, slot := 2, constantValue := 0 }, { name := "LOG2_ARRAY_BYTE_INDEX_SCALE", type := .int, accessFlags := 25, slot := 3, constantValue := 0 }, { name := "LOG2_ARRAY_CHAR_INDEX_SCALE", type := .int, accessFlags := 25, slot := 4, constantValue := 0 }, { name := "LOG2_ARRAY_SHORT_INDEX_SCALE", type := .int, accessFlags := 25, slot := 5, constantValue := 0 }, { name := "LOG2_ARRAY_INT_INDEX_SCALE", type := .int, accessFlags := 25, slot := 6, constantValue := 0 }, { name := "LOG2_ARRAY_LONG_INDEX_SCALE", type := .int, accessFlags := 25, slot := 7, constantValue := 0 }, { name := "LOG2_ARRAY_FLOAT_INDEX_SCALE", type := .int, accessFlags := 25, slot := 8, constantValue := 0 }, { name := "LOG2_ARRAY_DOUBLE_INDEX_SCALE", type := .int, accessFlags := 25, slot := 9, constantValue := 0 }, { name := "LOG2_BYTE_BIT_SIZE", type := .int, accessFlags := 26, slot := 10, constantValue := 0 }, { name := "T_BOOLEAN", type := .int, accessFlags := 25, slot := 11, constantValue := 0 }, { name := "T_CHAR", type := .int, accessFlags := 25, slot := 12, constantValue := 0 }, { name := "T_FLOAT", type := .int, accessFlags := 25, slot := 13, constantValue := 0 }, { name := "T_DOUBLE", type := .int, accessFlags := 25, slot := 14, constantValue := 0 }, { name := "T_BYTE", type := .int, accessFlags := 25, slot := 15, constantValue := 0 }, { name := "T_SHORT", type := .int, accessFlags := 25, slot := 16, constantValue := 0 }, { name := "T_INT", type := .int, accessFlags := 25, slot := 17, constantValue := 0 }, { name := "T_LONG", type := .int, accessFlags := 25, slot := 18, constantValue := 0 }, { name := "JLA", type := (.object "jdk/internal/access/JavaLangAccess"), accessFlags := 26, slot := 19, constantValue := 0 }, { name := "SOFT_MAX_ARRAY_LENGTH", type := .int, accessFlags := 25, slot := 20, constantValue := 0 }]
  methods := #[k15m0, k15m1]
  instanceTypes := #[]
  staticTypes := #[(.object "jdk/internal/misc/Unsafe"), .boolean, .int, .int, .int, .int, .int, .int, .int, .int, .int, .int, .int, .int, .int, .int, .int, .int, .int, (.object "jdk/internal/access/JavaLangAccess"), .int]
  resolved := Array.replicate 378 none
  statics := none }

def pool16 : Array CpInfo := pool [(1, .class_ 2), (0, u "java/lang/Math"), (1, .class_ 6), (1, u "java/lang/Object"), (0, u "<init>"), (0, u "()V"), (89, .class_ 100), (1, u "java/lang/Math$RandomNumberGeneratorHolder"), (71, u "negativeZeroFloatBits"), (0, u "J"), (2, u "negativeZeroDoubleBits"), (21, u "max"), (2, u "min"), (43, u "$assertionsDisabled"), (0, u "Z"), (88, u "(II)I"), (2, u "twoToTheDoubleScaleDown"), (0, u "D"), (4, u "twoToTheDoubleScaleUp"), (9, u "E"), (3, u "PI"), (2, u "TAU"), (2, u "DEGREES_TO_RADIANS"), (0, u "RADIANS_TO_DEGREES")] 94

def k16m0 : Method := { name := "<init>", desc := "()V", sig := { parameters := [], returnType := none }, accessFlags := 2, code := none }
def k16c1 : Code := { maxStack := 2, maxLocals := 2, code := jdk_29_method_65_code, exceptionTable := #[], attributes := #[] }
def k16m1 : Method := { name := "max", desc := "(II)I", sig := { parameters := [.int, .int], returnType := some .int }, accessFlags := 9, code := some k16c1 }
def k16c2 : Code := { maxStack := 2, maxLocals := 2, code := jdk_29_method_69_code, exceptionTable := #[], attributes := #[] }
def k16m2 : Method := { name := "min", desc := "(II)I", sig := { parameters := [.int, .int], returnType := some .int }, accessFlags := 9, code := some k16c2 }
/-- java/lang/Math -/
def k16 : Class := { plain "java/lang/Math" (some 0) with
  accessFlags := 49
  interfaces := #[]
  cf := some (fileOf pool16 1 #[.nestMembers #[98]] #[{ accessFlags := 2, nameIndex := 7, descriptorIndex := 8, attributes := #[] }, { accessFlags := 9, nameIndex := 198, descriptorIndex := 335, attributes := #[] }, { accessFlags := 9, nameIndex := 201, descriptorIndex := 335, attributes := #[] }] 49 4 #[] #[{ accessFlags := 25, nameIndex := 354, descriptorIndex := 339, attributes := #[] }, { accessFlags := 25, nameIndex := 358, descriptorIndex := 339, attributes := #[] }, { accessFlags := 25, nameIndex := 361, descriptorIndex := 339, attributes := #[] }, { accessFlags := 26, nameIndex := 364, descriptorIndex := 339, attributes := #[] }, { accessFlags := 26, nameIndex := 365, descriptorIndex := 339, attributes := #[] }, { accessFlags := 26, nameIndex := 172, descriptorIndex := 173, attributes := #[] }, { accessFlags := 26, nameIndex := 176, descriptorIndex := 173, attributes := #[] }, { accessFlags := 8, nameIndex := 344, descriptorIndex := 339, attributes := #[] }, { accessFlags := 8, nameIndex := 338, descriptorIndex := 339, attributes := #[] }, { accessFlags := 4120, nameIndex := 245, descriptorIndex := 246, attributes := #[] }])
  fields := #[{ name := "E", type := .double, accessFlags := 25, slot := 0, constantValue := 0 }, { name := "PI", type := .double, accessFlags := 25, slot := 1, constantValue := 0 }, { name := "TAU", type := .double, accessFlags := 25, slot := 2, constantValue := 0 }, { name := "DEGREES_TO_RADIANS", type := .double, accessFlags := 26, slot := 3, constantValue := 0 }, { name := "RADIANS_TO_DEGREES", type := .double, accessFlags := 26, slot := 4, constantValue := 0 }, { name := "negativeZeroFloatBits", type := .long, accessFlags := 26, slot := 5, constantValue := 0 }, { name := "negativeZeroDoubleBits", type := .long, accessFlags := 26, slot := 6, constantValue := 0 }, { name := "twoToTheDoubleScaleUp", type := .double, accessFlags := 8, slot := 7, constantValue := 0 }, { name := "twoToTheDoubleScaleDown", type := .double, accessFlags := 8, slot := 8, constantValue := 0 }, { name := "$assertionsDisabled", type := .boolean, accessFlags := 4120, slot := 9, constantValue := 0 }]
  methods := #[k16m0, k16m1, k16m2]
  instanceTypes := #[]
  staticTypes := #[.double, .double, .double, .double, .double, .long, .long, .double, .double, .boolean]
  resolved := Array.replicate 460 none
  statics := none }

def pool17 : Array CpInfo := pool [(2, .class_ 4), (1, u "java/lang/Object"), (0, u "<init>"), (0, u "()V"), (7, .class_ 16), (1, u "java/util/Arrays"), (57, .class_ 76), (1, u "java/util/Arrays$NaturalOrder"), (32, u "()Ljava/lang/Object;"), (3, .class_ 115), (1, u "java/util/Arrays$LegacyMergeSort"), (1, u "Z"), (10, .nameAndType 129 109), (0, u "clone"), (9, u "copyOfRange"), (10, .methodref 151 152), (0, .class_ 153), (0, .nameAndType 154 155), (0, u "java/lang/System"), (0, u "arraycopy"), (0, u "(Ljava/lang/Object;ILjava/lang/Object;II)V"), (146, u "copyOf"), (1, .methodref 305 306), (0, .class_ 307), (0, .nameAndType 308 309), (0, u "java/lang/Math"), (0, u "min"), (0, u "(II)I"), (0, .methodref 311 128), (0, .class_ 312), (0, u "[B"), (26, .methodref 14 340), (0, .nameAndType 341 342), (0, u "copyOfRangeByte"), (0, u "([BII)[B"), (0, .methodref 14 344), (0, .nameAndType 345 346), (0, u "checkLength"), (0, u "(II)V"), (28, .class_ 376), (0, u "java/util/Arrays$ArrayList"), (68, u "$assertionsDisabled"), (269, u "MIN_ARRAY_SORT_GRAN"), (0, u "I"), (2, u "INSERTIONSORT_THRESHOLD"), (149, u "([BI)[B"), (105, .class_ 976), (0, u "java/util/Arrays$ArrayItr")] 52

def k17m0 : Method := { name := "<init>", desc := "()V", sig := { parameters := [], returnType := none }, accessFlags := 2, code := none }
def k17c1 : Code := { maxStack := 6, maxLocals := 3, code := jdk_65_method_121_code, exceptionTable := #[], attributes := #[] }
def k17m1 : Method := { name := "copyOf", desc := "([BI)[B", sig := { parameters := [(.array .byte), .int], returnType := some (.array .byte) }, accessFlags := 9, code := some k17c1 }
def k17c2 : Code := { maxStack := 4, maxLocals := 2, code := jdk_65_method_131_code, exceptionTable := #[], attributes := #[] }
def k17m2 : Method := { name := "checkLength", desc := "(II)V", sig := { parameters := [.int, .int], returnType := none }, accessFlags := 10, code := some k17c2 }
def k17c3 : Code := { maxStack := 3, maxLocals := 3, code := jdk_65_method_132_code, exceptionTable := #[], attributes := #[] }
def k17m3 : Method := { name := "copyOfRange", desc := "([BII)[B", sig := { parameters := [(.array .byte), .int, .int], returnType := some (.array .byte) }, accessFlags := 9, code := some k17c3 }
def k17c4 : Code := { maxStack := 6, maxLocals := 5, code := jdk_65_method_133_code, exceptionTable := #[], attributes := #[] }
def k17m4 : Method := { name := "copyOfRangeByte", desc := "([BII)[B", sig := { parameters := [(.array .byte), .int, .int], returnType := some (.array .byte) }, accessFlags := 10, code := some k17c4 }
/-- java/util/Arrays -/
def k17 : Class := { plain "java/util/Arrays" (some 0) with
  accessFlags := 49
  interfaces := #[]
  cf := some (fileOf pool17 14 #[.nestMembers #[975, 375, 113, 74]] #[{ accessFlags := 2, nameIndex := 5, descriptorIndex := 6, attributes := #[] }, { accessFlags := 9, nameIndex := 302, descriptorIndex := 869, attributes := #[] }, { accessFlags := 10, nameIndex := 345, descriptorIndex := 346, attributes := #[] }, { accessFlags := 9, nameIndex := 139, descriptorIndex := 342, attributes := #[] }, { accessFlags := 10, nameIndex := 341, descriptorIndex := 342, attributes := #[] }] 49 2 #[] #[{ accessFlags := 26, nameIndex := 715, descriptorIndex := 716, attributes := #[] }, { accessFlags := 26, nameIndex := 719, descriptorIndex := 716, attributes := #[] }, { accessFlags := 4120, nameIndex := 445, descriptorIndex := 117, attributes := #[] }])
  fields := #[{ name := "MIN_ARRAY_SORT_GRAN", type := .int, accessFlags := 26, slot := 0, constantValue := 0 }, { name := "INSERTIONSORT_THRESHOLD", type := .int, accessFlags := 26, slot := 1, constantValue := 0 }, { name := "$assertionsDisabled", type := .boolean, accessFlags := 4120, slot := 2, constantValue := 0 }]
  methods := #[k17m0, k17m1, k17m2, k17m3, k17m4]
  instanceTypes := #[]
  staticTypes := #[.int, .int, .boolean]
  resolved := Array.replicate 1029 none
  statics := none }

def pool18 : Array CpInfo := pool [(2, .class_ 4), (1, u "java/lang/Object"), (0, u "<init>"), (0, u "()V"), (1, .class_ 10), (1, u "java/lang/System"), (0, u "allowSecurityManager"), (0, u "I"), (16, u "cons"), (0, u "Ljava/io/Console;"), (77, .class_ 110), (1, u "java/lang/System$CallersHolder"), (43, u "initialErrStream"), (0, u "Ljava/io/PrintStream;"), (19, u "security"), (0, u "Ljava/lang/SecurityManager;"), (31, .class_ 209), (0, u "java/lang/System$1"), (7, u "props"), (0, u "Ljava/util/Properties;"), (2, u "lineSeparator"), (0, u "Ljava/lang/String;"), (96, .class_ 321), (1, u "java/lang/System$LoggerFinder"), (5, .class_ 328), (0, u "java/lang/System$Logger"), (67, u "err"), (2, u "out"), (91, u "notSupportedJnuEncoding"), (15, u "in"), (17, u "initialIn"), (0, u "Ljava/io/InputStream;"), (35, u "bootLayer"), (0, u "Ljava/lang/ModuleLayer;"), (99, .class_ 664), (0, u "java/lang/System$2"), (9, u "NEVER"), (2, u "MAYBE"), (49, u "arraycopy"), (0, u "(Ljava/lang/Object;ILjava/lang/Object;II)V"), (72, .class_ 802), (0, u "java/lang/System$Logger$Level")] 31

def k18m0 : Method := { name := "<init>", desc := "()V", sig := { parameters := [], returnType := none }, accessFlags := 2, code := none }
def k18m1 : Method := { name := "arraycopy", desc := "(Ljava/lang/Object;ILjava/lang/Object;II)V", sig := { parameters := [(.object "java/lang/Object"), .int, (.object "java/lang/Object"), .int, .int], returnType := none }, accessFlags := 265, code := none }
/-- java/lang/System -/
def k18 : Class := { plain "java/lang/System" (some 0) with
  accessFlags := 49
  interfaces := #[]
  cf := some (fileOf pool18 8 #[.nestMembers #[319, 327, 801, 108, 663, 208]] #[{ accessFlags := 2, nameIndex := 5, descriptorIndex := 6, attributes := #[] }, { accessFlags := 265, nameIndex := 727, descriptorIndex := 728, attributes := #[] }] 49 2 #[] #[{ accessFlags := 25, nameIndex := 507, descriptorIndex := 526, attributes := #[] }, { accessFlags := 25, nameIndex := 399, descriptorIndex := 155, attributes := #[] }, { accessFlags := 25, nameIndex := 396, descriptorIndex := 155, attributes := #[] }, { accessFlags := 10, nameIndex := 525, descriptorIndex := 526, attributes := #[] }, { accessFlags := 26, nameIndex := 674, descriptorIndex := 12, attributes := #[] }, { accessFlags := 26, nameIndex := 677, descriptorIndex := 12, attributes := #[] }, { accessFlags := 10, nameIndex := 11, descriptorIndex := 12, attributes := #[] }, { accessFlags := 74, nameIndex := 175, descriptorIndex := 176, attributes := #[] }, { accessFlags := 10, nameIndex := 491, descriptorIndex := 222, attributes := #[] }, { accessFlags := 74, nameIndex := 29, descriptorIndex := 30, attributes := #[] }, { accessFlags := 74, nameIndex := 154, descriptorIndex := 155, attributes := #[] }, { accessFlags := 10, nameIndex := 217, descriptorIndex := 218, attributes := #[] }, { accessFlags := 10, nameIndex := 221, descriptorIndex := 222, attributes := #[] }, { accessFlags := 8, nameIndex := 562, descriptorIndex := 563, attributes := #[] }])
  fields := #[{ name := "in", type := (.object "java/io/InputStream"), accessFlags := 25, slot := 0, constantValue := 0 }, { name := "out", type := (.object "java/io/PrintStream"), accessFlags := 25, slot := 1, constantValue := 0 }, { name := "err", type := (.object "java/io/PrintStream"), accessFlags := 25, slot := 2, constantValue := 0 }, { name := "initialIn", type := (.object "java/io/InputStream"), accessFlags := 10, slot := 3, constantValue := 0 }, { name := "NEVER", type := .int, accessFlags := 26, slot := 4, constantValue := 0 }, { name := "MAYBE", type := .int, accessFlags := 26, slot := 5, constantValue := 0 }, { name := "allowSecurityManager", type := .int, accessFlags := 10, slot := 6, constantValue := 0 }, { name := "security", type := (.object "java/lang/SecurityManager"), accessFlags := 74, slot := 7, constantValue := 0 }, { name := "notSupportedJnuEncoding", type := (.object "java/lang/String"), accessFlags := 10, slot := 8, constantValue := 0 }, { name := "cons", type := (.object "java/io/Console"), accessFlags := 74, slot := 9, constantValue := 0 }, { name := "initialErrStream", type := (.object "java/io/PrintStream"), accessFlags := 74, slot := 10, constantValue := 0 }, { name := "props", type := (.object "java/util/Properties"), accessFlags := 10, slot := 11, constantValue := 0 }, { name := "lineSeparator", type := (.object "java/lang/String"), accessFlags := 10, slot := 12, constantValue := 0 }, { name := "bootLayer", type := (.object "java/lang/ModuleLayer"), accessFlags := 8, slot := 13, constantValue := 0 }]
  methods := #[k18m0, k18m1]
  instanceTypes := #[]
  staticTypes := #[(.object "java/io/InputStream"), (.object "java/io/PrintStream"), (.object "java/io/PrintStream"), (.object "java/io/InputStream"), .int, .int, .int, (.object "java/lang/SecurityManager"), (.object "java/lang/String"), (.object "java/io/Console"), (.object "java/io/PrintStream"), (.object "java/util/Properties"), (.object "java/lang/String"), (.object "java/lang/ModuleLayer")]
  resolved := Array.replicate 834 none
  statics := none }

def pool19 : Array CpInfo := pool [(1, .class_ 2), (0, u "java/lang/Cloneable"), (0, .class_ 4), (0, u "java/lang/Object")] 2

/-- java/lang/Cloneable -/
def k19 : Class := { plain "java/lang/Cloneable" (some 0) with
  accessFlags := 1537
  interfaces := #[]
  cf := some (fileOf pool19 1 #[] #[] 1537 3 #[] #[])
  fields := #[]
  methods := #[]
  instanceTypes := #[]
  staticTypes := #[]
  resolved := Array.replicate 7 none
  statics := none }

def pool20 : Array CpInfo := pool [(6, .class_ 8), (1, u "java/lang/Object"), (0, u "<init>"), (0, u "()V"), (1, .class_ 14), (1, u "java/lang/StringUTF16"), (31, u "$assertionsDisabled"), (0, u "Z"), (13, u "HI_BYTE_SHIFT"), (0, u "I"), (2, u "LO_BYTE_SHIFT"), (49, .methodref 12 116), (0, .nameAndType 117 118), (0, u "compress"), (0, u "([CI[BII)I"), (3, u "([CII)[B"), (138, u "coderFromArrayLen"), (0, u "([BI)B"), (106, .class_ 371), (1, u "java/lang/StringUTF16$LinesSpliterator"), (58, u "MAX_LENGTH"), (196, .class_ 628), (0, u "java/lang/StringUTF16$CodePointsSpliterator"), (0, .class_ 630), (0, u "java/lang/StringUTF16$CharsSpliterator")] 4

def k20m0 : Method := { name := "<init>", desc := "()V", sig := { parameters := [], returnType := none }, accessFlags := 0, code := none }
def k20c1 : Code := { maxStack := 2, maxLocals := 2, code := jdk_52_method_15_code, exceptionTable := #[], attributes := #[] }
def k20m1 : Method := { name := "coderFromArrayLen", desc := "([BI)B", sig := { parameters := [(.array .byte), .int], returnType := some .byte }, accessFlags := 8, code := some k20c1 }
def k20c2 : Code := { maxStack := 5, maxLocals := 6, code := jdk_52_method_16_code, exceptionTable := #[], attributes := #[] }
def k20m2 : Method := { name := "compress", desc := "([CII)[B", sig := { parameters := [(.array .char), .int, .int], returnType := some (.array .byte) }, accessFlags := 9, code := some k20c2 }
def k20c3 : Code := { maxStack := 3, maxLocals := 7, code := jdk_52_method_21_code, exceptionTable := #[], attributes := #[] }
def k20m3 : Method := { name := "compress", desc := "([CI[BII)I", sig := { parameters := [(.array .char), .int, (.array .byte), .int, .int], returnType := some .int }, accessFlags := 9, code := some k20c3 }
/-- java/lang/StringUTF16 -/
def k20 : Class := { plain "java/lang/StringUTF16" (some 0) with
  accessFlags := 48
  interfaces := #[]
  cf := some (fileOf pool20 12 #[.nestMembers #[627, 629, 369]] #[{ accessFlags := 0, nameIndex := 9, descriptorIndex := 10, attributes := #[] }, { accessFlags := 8, nameIndex := 261, descriptorIndex := 262, attributes := #[] }, { accessFlags := 9, nameIndex := 117, descriptorIndex := 122, attributes := #[] }, { accessFlags := 9, nameIndex := 117, descriptorIndex := 118, attributes := #[] }] 48 6 #[] #[{ accessFlags := 26, nameIndex := 61, descriptorIndex := 62, attributes := #[] }, { accessFlags := 26, nameIndex := 65, descriptorIndex := 62, attributes := #[] }, { accessFlags := 24, nameIndex := 430, descriptorIndex := 62, attributes := #[] }, { accessFlags := 4120, nameIndex := 46, descriptorIndex := 47, attributes := #[] }])
  fields := #[{ name := "HI_BYTE_SHIFT", type := .int, accessFlags := 26, slot := 0, constantValue := 0 }, { name := "LO_BYTE_SHIFT", type := .int, accessFlags := 26, slot := 1, constantValue := 0 }, { name := "MAX_LENGTH", type := .int, accessFlags := 24, slot := 2, constantValue := 0 }, { name := "$assertionsDisabled", type := .boolean, accessFlags := 4120, slot := 3, constantValue := 0 }]
  methods := #[k20m0, k20m1, k20m2, k20m3]
  instanceTypes := #[]
  staticTypes := #[.int, .int, .int, .boolean]
  resolved := Array.replicate 635 none
  statics := none }

def pool21 : Array CpInfo := pool [(2, .class_ 4), (1, u "java/lang/Object"), (0, u "<init>"), (0, u "()V"), (17, .class_ 26), (1, u "jdk/internal/util/Preconditions"), (28, .class_ 56), (0, u "jdk/internal/util/Preconditions$4"), (57, .class_ 115), (0, u "jdk/internal/util/Preconditions$1"), (7, u "SIOOBE_FORMATTER"), (0, u "Ljava/util/function/BiFunction;"), (0, .class_ 126), (0, u "jdk/internal/util/Preconditions$2"), (3, u "AIOOBE_FORMATTER"), (0, .class_ 132), (0, u "jdk/internal/util/Preconditions$3"), (3, u "IOOBE_FORMATTER")] 57

def k21m0 : Method := { name := "<init>", desc := "()V", sig := { parameters := [], returnType := none }, accessFlags := 1, code := none }
/-- jdk/internal/util/Preconditions -/
def k21 : Class := { plain "jdk/internal/util/Preconditions" (some 0) with
  accessFlags := 33
  interfaces := #[]
  cf := some (fileOf pool21 24 #[.nestMembers #[55, 131, 125, 114]] #[{ accessFlags := 1, nameIndex := 5, descriptorIndex := 6, attributes := #[] }] 33 2 #[] #[{ accessFlags := 25, nameIndex := 123, descriptorIndex := 124, attributes := #[] }, { accessFlags := 25, nameIndex := 130, descriptorIndex := 124, attributes := #[] }, { accessFlags := 25, nameIndex := 136, descriptorIndex := 124, attributes := #[] }])
  fields := #[{ name := "SIOOBE_FORMATTER", type := (.object "java/util/function/BiFunction"), accessFlags := 25, slot := 0, constantValue := 0 }, { name := "AIOOBE_FORMATTER", type := (.object "java/util/function/BiFunction"), accessFlags := 25, slot := 1, constantValue := 0 }, { name := "IOOBE_FORMATTER", type := (.object "java/util/function/BiFunction"), accessFlags := 25, slot := 2, constantValue := 0 }]
  methods := #[k21m0]
  instanceTypes := #[]
  staticTypes := #[(.object "java/util/function/BiFunction"), (.object "java/util/function/BiFunction"), (.object "java/util/function/BiFunction")]
  resolved := Array.replicate 194 none
  statics := some 2 }

def pool22 : Array CpInfo := pool [(2, .class_ 4), (1, u "java/lang/Object"), (0, u "<init>"), (0, u "()V"), (12, .class_ 20), (0, u "java/util/Collections"), (63, u "r"), (0, u "Ljava/util/Random;"), (80, .class_ 167), (0, u "java/util/Collections$UnmodifiableCollection"), (6, .class_ 175), (0, u "java/util/Collections$UnmodifiableSequencedCollection"), (6, .class_ 183), (0, u "java/util/Collections$UnmodifiableSet"), (6, .class_ 191), (0, u "java/util/Collections$UnmodifiableSequencedSet"), (6, .class_ 199), (0, u "java/util/Collections$UnmodifiableSortedSet"), (6, .class_ 207), (0, u "java/util/Collections$UnmodifiableNavigableSet"), (4, .class_ 213), (0, u "java/util/Collections$UnmodifiableList"), (1, .class_ 216), (0, u "java/util/Collections$UnmodifiableRandomAccessList"), (6, .class_ 224), (0, u "java/util/Collections$UnmodifiableMap"), (6, .class_ 232), (0, u "java/util/Collections$UnmodifiableSequencedMap"), (4, .class_ 238), (0, u "java/util/Collections$UnmodifiableSortedMap"), (6, .class_ 246), (0, u "java/util/Collections$UnmodifiableNavigableMap"), (3, .class_ 251), (0, u "java/util/Collections$SynchronizedCollection"), (4, .class_ 257), (0, u "java/util/Collections$SynchronizedSet"), (4, .class_ 263), (0, u "java/util/Collections$SynchronizedSortedSet"), (1, .class_ 266), (0, u "java/util/Collections$SynchronizedNavigableSet"), (1, .class_ 269), (0, u "java/util/Collections$SynchronizedRandomAccessList"), (1, .class_ 272), (0, u "java/util/Collections$SynchronizedList"), (5, .class_ 279), (0, u "java/util/Collections$SynchronizedMap"), (1, .class_ 282), (0, u "java/util/Collections$SynchronizedSortedMap"), (1, .class_ 285), (0, u "java/util/Collections$SynchronizedNavigableMap"), (1, .class_ 288), (0, u "java/util/Collections$CheckedCollection"), (11, .class_ 301), (0, u "java/util/Collections$CheckedQueue"), (3, .class_ 306), (0, u "java/util/Collections$CheckedSet"), (3, .class_ 311), (0, u "java/util/Collections$CheckedSortedSet"), (3, .class_ 316), (0, u "java/util/Collections$CheckedNavigableSet"), (3, .class_ 321), (0, u "java/util/Collections$CheckedRandomAccessList"), (3, .class_ 326), (0, u "java/util/Collections$CheckedList"), (1, .class_ 329), (0, u "java/util/Collections$CheckedMap"), (3, .class_ 334), (0, u "java/util/Collections$CheckedSortedMap"), (3, .class_ 339), (0, u "java/util/Collections$CheckedNavigableMap"), (4, .class_ 346), (1, u "java/util/Collections$EmptyIterator"), (3, .class_ 352), (1, u "java/util/Collections$EmptyListIterator"), (2, .class_ 357), (1, u "java/util/Collections$EmptyEnumeration"), (4, u "EMPTY_SET"), (0, u "Ljava/util/Set;"), (6, u "EMPTY_LIST"), (0, u "Ljava/util/List;"), (2, u "EMPTY_MAP"), (0, u "Ljava/util/Map;"), (4, .class_ 381), (0, u "java/util/Collections$SingletonSet"), (2, .class_ 385), (0, u "java/util/Collections$1"), (1, .class_ 388), (0, u "java/util/Collections$2"), (1, .class_ 391), (0, u "java/util/Collections$SingletonList"), (1, .class_ 394), (0, u "java/util/Collections$SingletonMap"), (22, .class_ 418), (0, u "java/util/Collections$CopiesList"), (4, .class_ 425), (1, u "java/util/Collections$ReverseComparator"), (8, .class_ 435), (0, u "java/util/Collections$ReverseComparator2"), (6, .class_ 443), (0, u "java/util/Collections$3"), (25, .class_ 470), (0, u "java/util/Collections$SetFromMap"), (2, .class_ 474), (0, u "java/util/Collections$SequencedSetFromMap"), (3, .class_ 479), (0, u "java/util/Collections$AsLIFOQueue"), (11, .class_ 492), (0, u "java/util/Collections$EmptySet"), (1, .class_ 495), (0, u "java/util/Collections$EmptyList"), (1, .class_ 498), (0, u "java/util/Collections$EmptyMap"), (1, u "BINARYSEARCH_THRESHOLD"), (0, u "I"), (2, u "REVERSE_THRESHOLD"), (1, u "SHUFFLE_THRESHOLD"), (1, u "FILL_THRESHOLD"), (1, u "ROTATE_THRESHOLD"), (1, u "COPY_THRESHOLD"), (1, u "REPLACEALL_THRESHOLD"), (1, u "INDEXOFSUBLIST_THRESHOLD"), (333, .class_ 851), (0, u "java/util/Collections$CheckedMap$CheckedEntrySet"), (0, .class_ 853), (0, u "java/util/Collections$CheckedMap$CheckedEntrySet$CheckedEntry"), (0, .class_ 855), (0, u "java/util/Collections$CheckedMap$CheckedEntrySet$1"), (0, .class_ 857), (0, u "java/util/Collections$CheckedList$1"), (0, .class_ 859), (0, u "java/util/Collections$CheckedCollection$1"), (0, .class_ 861), (0, u "java/util/Collections$UnmodifiableNavigableMap$EmptyNavigableMap"), (0, .class_ 863), (0, u "java/util/Collections$UnmodifiableMap$UnmodifiableEntrySet"), (0, .class_ 865), (0, u "java/util/Collections$UnmodifiableMap$UnmodifiableEntrySet$UnmodifiableEntry"), (0, .class_ 867), (0, u "java/util/Collections$UnmodifiableMap$UnmodifiableEntrySet$UnmodifiableEntrySetSpliterator"), (0, .class_ 869), (0, u "java/util/Collections$UnmodifiableMap$UnmodifiableEntrySet$1"), (0, .class_ 871), (0, u "java/util/Collections$UnmodifiableList$1"), (0, .class_ 873), (0, u "java/util/Collections$UnmodifiableNavigableSet$EmptyNavigableSet"), (0, .class_ 875), (0, u "java/util/Collections$UnmodifiableCollection$1")] 57

def k22m0 : Method := { name := "<init>", desc := "()V", sig := { parameters := [], returnType := none }, accessFlags := 2, code := none }
/-- java/util/Collections -/
def k22 : Class := { plain "java/util/Collections" (some 0) with
  accessFlags := 33
  interfaces := #[]
  cf := some (fileOf pool22 19 #[.nestMembers #[478, 473, 469, 434, 423, 417, 393, 390, 380, 497, 494, 491, 355, 350, 344, 338, 333, 328, 850, 852, 854, 320, 325, 856, 315, 310, 305, 300, 287, 858, 284, 281, 278, 268, 271, 265, 262, 256, 250, 245, 860, 237, 231, 223, 862, 864, 866, 868, 215, 212, 870, 206, 872, 198, 190, 182, 174, 166, 874, 442, 387, 384]] #[{ accessFlags := 2, nameIndex := 5, descriptorIndex := 6, attributes := #[] }] 33 2 #[] #[{ accessFlags := 26, nameIndex := 500, descriptorIndex := 501, attributes := #[] }, { accessFlags := 26, nameIndex := 504, descriptorIndex := 501, attributes := #[] }, { accessFlags := 26, nameIndex := 506, descriptorIndex := 501, attributes := #[] }, { accessFlags := 26, nameIndex := 508, descriptorIndex := 501, attributes := #[] }, { accessFlags := 26, nameIndex := 510, descriptorIndex := 501, attributes := #[] }, { accessFlags := 26, nameIndex := 512, descriptorIndex := 501, attributes := #[] }, { accessFlags := 26, nameIndex := 514, descriptorIndex := 501, attributes := #[] }, { accessFlags := 26, nameIndex := 516, descriptorIndex := 501, attributes := #[] }, { accessFlags := 10, nameIndex := 84, descriptorIndex := 85, attributes := #[] }, { accessFlags := 25, nameIndex := 362, descriptorIndex := 363, attributes := #[] }, { accessFlags := 25, nameIndex := 370, descriptorIndex := 371, attributes := #[] }, { accessFlags := 25, nameIndex := 374, descriptorIndex := 375, attributes := #[] }])
  fields := #[{ name := "BINARYSEARCH_THRESHOLD", type := .int, accessFlags := 26, slot := 0, constantValue := 0 }, { name := "REVERSE_THRESHOLD", type := .int, accessFlags := 26, slot := 1, constantValue := 0 }, { name := "SHUFFLE_THRESHOLD", type := .int, accessFlags := 26, slot := 2, constantValue := 0 }, { name := "FILL_THRESHOLD", type := .int, accessFlags := 26, slot := 3, constantValue := 0 }, { name := "ROTATE_THRESHOLD", type := .int, accessFlags := 26, slot := 4, constantValue := 0 }, { name := "COPY_THRESHOLD", type := .int, accessFlags := 26, slot := 5, constantValue := 0 }, { name := "REPLACEALL_THRESHOLD", type := .int, accessFlags := 26, slot := 6, constantValue := 0 }, { name := "INDEXOFSUBLIST_THRESHOLD", type := .int, accessFlags := 26, slot := 7, constantValue := 0 }, { name := "r", type := (.object "java/util/Random"), accessFlags := 10, slot := 8, constantValue := 0 }, { name := "EMPTY_SET", type := (.object "java/util/Set"), accessFlags := 25, slot := 9, constantValue := 0 }, { name := "EMPTY_LIST", type := (.object "java/util/List"), accessFlags := 25, slot := 10, constantValue := 0 }, { name := "EMPTY_MAP", type := (.object "java/util/Map"), accessFlags := 25, slot := 11, constantValue := 0 }]
  methods := #[k22m0]
  instanceTypes := #[]
  staticTypes := #[.int, .int, .int, .int, .int, .int, .int, .int, (.object "java/util/Random"), (.object "java/util/Set"), (.object "java/util/List"), (.object "java/util/Map")]
  resolved := Array.replicate 933 none
  statics := some 3 }

def pool23 : Array CpInfo := pool [(8, .class_ 10), (1, u "java/lang/Iterable"), (24, .class_ 36), (0, u "java/lang/Object")] 25

/-- java/lang/Iterable -/
def k23 : Class := { plain "java/lang/Iterable" (some 0) with
  accessFlags := 1537
  interfaces := #[]
  cf := some (fileOf pool23 8 #[] #[] 1537 35 #[] #[])
  fields := #[]
  methods := #[]
  instanceTypes := #[]
  staticTypes := #[]
  resolved := Array.replicate 62 none
  statics := none }

def pool24 : Array CpInfo := pool [(10, .class_ 12), (1, u "java/util/Collection"), (47, .class_ 61), (0, u "java/lang/Object"), (0, .class_ 63), (0, u "java/lang/Iterable")] 51

/-- java/util/Collection -/
def k24 : Class := { plain "java/util/Collection" (some 0) with
  accessFlags := 1537
  interfaces := #[23]
  cf := some (fileOf pool24 10 #[] #[] 1537 60 #[62] #[])
  fields := #[]
  methods := #[]
  instanceTypes := #[]
  staticTypes := #[]
  resolved := Array.replicate 115 none
  statics := none }

def pool25 : Array CpInfo := pool [(2, .class_ 4), (1, u "java/lang/Object"), (0, u "<init>"), (0, u "()V"), (1, .class_ 10), (1, u "java/util/AbstractCollection"), (66, .class_ 78), (0, u "java/util/Collection")] 81

def k25m0 : Method := { name := "<init>", desc := "()V", sig := { parameters := [], returnType := none }, accessFlags := 4, code := none }
/-- java/util/AbstractCollection -/
def k25 : Class := { plain "java/util/AbstractCollection" (some 0) with
  accessFlags := 1057
  interfaces := #[24]
  cf := some (fileOf pool25 8 #[] #[{ accessFlags := 4, nameIndex := 5, descriptorIndex := 6, attributes := #[] }] 1057 2 #[77] #[])
  fields := #[]
  methods := #[k25m0]
  instanceTypes := #[]
  staticTypes := #[]
  resolved := Array.replicate 160 none
  statics := none }

def pool26 : Array CpInfo := pool [(8, .class_ 10), (1, u "java/util/SequencedCollection"), (15, .class_ 27), (0, u "java/lang/Object"), (0, .class_ 29), (0, u "java/util/Collection")] 27

/-- java/util/SequencedCollection -/
def k26 : Class := { plain "java/util/SequencedCollection" (some 0) with
  accessFlags := 1537
  interfaces := #[24]
  cf := some (fileOf pool26 8 #[] #[] 1537 26 #[28] #[])
  fields := #[]
  methods := #[]
  instanceTypes := #[]
  staticTypes := #[]
  resolved := Array.replicate 57 none
  statics := none }

def pool27 : Array CpInfo := pool [(8, .class_ 10), (1, u "java/util/List"), (92, .class_ 104), (0, u "java/lang/Object"), (15, .class_ 121), (0, u "java/util/SequencedCollection")] 129

/-- java/util/List -/
def k27 : Class := { plain "java/util/List" (some 0) with
  accessFlags := 1537
  interfaces := #[26]
  cf := some (fileOf pool27 8 #[] #[] 1537 103 #[120] #[])
  fields := #[]
  methods := #[]
  instanceTypes := #[]
  staticTypes := #[]
  resolved := Array.replicate 251 none
  statics := none }

def pool28 : Array CpInfo := pool [(2, .class_ 4), (1, u "java/util/AbstractCollection"), (0, u "<init>"), (0, u "()V"), (1, .class_ 10), (1, u "java/util/AbstractList"), (0, u "modCount"), (0, u "I"), (64, .class_ 78), (0, u "java/util/AbstractList$Itr"), (3, .class_ 83), (0, u "java/util/AbstractList$ListItr"), (9, .class_ 94), (0, u "java/util/AbstractList$RandomAccessSubList"), (3, .class_ 99), (0, u "java/util/AbstractList$SubList"), (33, .class_ 134), (0, u "java/util/List"), (73, .class_ 209), (0, u "java/util/AbstractList$SubList$1"), (0, .class_ 211), (0, u "java/util/AbstractList$RandomAccessSpliterator")] 6

def k28m0 : Method := { name := "<init>", desc := "()V", sig := { parameters := [], returnType := none }, accessFlags := 4, code := none }
/-- java/util/AbstractList -/
def k28 : Class := { plain "java/util/AbstractList" (some 25) with
  accessFlags := 1057
  interfaces := #[27]
  cf := some (fileOf pool28 8 #[.nestMembers #[93, 98, 208, 210, 82, 77]] #[{ accessFlags := 4, nameIndex := 5, descriptorIndex := 6, attributes := #[] }] 1057 2 #[133] #[{ accessFlags := 132, nameIndex := 11, descriptorIndex := 12, attributes := #[] }])
  fields := #[{ name := "modCount", type := .int, accessFlags := 132, slot := 0, constantValue := 0 }]
  methods := #[k28m0]
  instanceTypes := #[.int]
  staticTypes := #[]
  resolved := Array.replicate 218 none
  statics := none }

def pool29 : Array CpInfo := pool [(1, .class_ 2), (0, u "java/util/RandomAccess"), (0, .class_ 4), (0, u "java/lang/Object")] 2

/-- java/util/RandomAccess -/
def k29 : Class := { plain "java/util/RandomAccess" (some 0) with
  accessFlags := 1537
  interfaces := #[]
  cf := some (fileOf pool29 1 #[] #[] 1537 3 #[] #[])
  fields := #[]
  methods := #[]
  instanceTypes := #[]
  staticTypes := #[]
  resolved := Array.replicate 7 none
  statics := none }

def pool30 : Array CpInfo := pool [(2, .class_ 4), (1, u "java/util/AbstractList"), (0, u "<init>"), (0, u "()V"), (1, .class_ 10), (1, u "java/util/Collections"), (54, .class_ 66), (0, u "java/util/Collections$EmptyList"), (0, .class_ 68), (0, u "java/util/RandomAccess"), (0, .class_ 70), (0, u "java/io/Serializable"), (0, u "serialVersionUID"), (0, u "J")] 77

def k30m0 : Method := { name := "<init>", desc := "()V", sig := { parameters := [], returnType := none }, accessFlags := 2, code := none }
/-- java/util/Collections$EmptyList -/
def k30 : Class := { plain "java/util/Collections$EmptyList" (some 28) with
  accessFlags := 32
  interfaces := #[29, 2]
  cf := some (fileOf pool30 65 #[.nestHost 8] #[{ accessFlags := 2, nameIndex := 5, descriptorIndex := 6, attributes := #[] }] 32 2 #[67, 69] #[{ accessFlags := 26, nameIndex := 71, descriptorIndex := 72, attributes := #[] }])
  fields := #[{ name := "serialVersionUID", type := .long, accessFlags := 26, slot := 0, constantValue := 0 }]
  methods := #[k30m0]
  instanceTypes := #[.int]
  staticTypes := #[.long]
  resolved := Array.replicate 150 none
  statics := none }

def pool31 : Array CpInfo := pool [(2, .class_ 4), (1, u "java/lang/StackTraceElement"), (0, u "<init>"), (2, .class_ 10), (1, u "java/lang/Object"), (0, u "()V"), (2, u "format"), (0, u "B"), (2, u "classLoaderName"), (0, u "Ljava/lang/String;"), (2, u "moduleName"), (2, u "moduleVersion"), (12, u "declaringClass"), (4, u "methodName"), (2, u "fileName"), (2, u "lineNumber"), (0, u "I"), (65, u "declaringClassObject"), (0, u "Ljava/lang/Class;"), (33, .class_ 153), (1, u "java/lang/StackTraceElement$HashedModules"), (17, .class_ 172), (0, u "java/io/Serializable"), (0, u "NATIVE_METHOD"), (1, u "UNKNOWN_SOURCE"), (2, u "BUILTIN_CLASS_LOADER"), (1, u "JDK_NON_UPGRADEABLE_MODULE"), (1, u "serialVersionUID"), (0, u "J")] 51

def k31m0 : Method := { name := "<init>", desc := "()V", sig := { parameters := [], returnType := none }, accessFlags := 2, code := none }
/-- java/lang/StackTraceElement -/
def k31 : Class := { plain "java/lang/StackTraceElement" (some 0) with
  accessFlags := 49
  interfaces := #[2]
  cf := some (fileOf pool31 2 #[.nestMembers #[151]] #[{ accessFlags := 2, nameIndex := 5, descriptorIndex := 11, attributes := #[] }] 49 8 #[171] #[{ accessFlags := 26, nameIndex := 173, descriptorIndex := 19, attributes := #[] }, { accessFlags := 26, nameIndex := 175, descriptorIndex := 19, attributes := #[] }, { accessFlags := 130, nameIndex := 116, descriptorIndex := 117, attributes := #[] }, { accessFlags := 2, nameIndex := 18, descriptorIndex := 19, attributes := #[] }, { accessFlags := 2, nameIndex := 22, descriptorIndex := 19, attributes := #[] }, { accessFlags := 2, nameIndex := 25, descriptorIndex := 19, attributes := #[] }, { accessFlags := 2, nameIndex := 38, descriptorIndex := 19, attributes := #[] }, { accessFlags := 2, nameIndex := 43, descriptorIndex := 19, attributes := #[] }, { accessFlags := 2, nameIndex := 46, descriptorIndex := 19, attributes := #[] }, { accessFlags := 2, nameIndex := 49, descriptorIndex := 50, attributes := #[] }, { accessFlags := 2, nameIndex := 14, descriptorIndex := 15, attributes := #[] }, { accessFlags := 26, nameIndex := 178, descriptorIndex := 15, attributes := #[] }, { accessFlags := 26, nameIndex := 180, descriptorIndex := 15, attributes := #[] }, { accessFlags := 26, nameIndex := 182, descriptorIndex := 183, attributes := #[] }])
  fields := #[{ name := "NATIVE_METHOD", type := (.object "java/lang/String"), accessFlags := 26, slot := 0, constantValue := 0 }, { name := "UNKNOWN_SOURCE", type := (.object "java/lang/String"), accessFlags := 26, slot := 1, constantValue := 0 }, { name := "declaringClassObject", type := (.object "java/lang/Class"), accessFlags := 130, slot := 0, constantValue := 0 }, { name := "classLoaderName", type := (.object "java/lang/String"), accessFlags := 2, slot := 1, constantValue := 0 }, { name := "moduleName", type := (.object "java/lang/String"), accessFlags := 2, slot := 2, constantValue := 0 }, { name := "moduleVersion", type := (.object "java/lang/String"), accessFlags := 2, slot := 3, constantValue := 0 }, { name := "declaringClass", type := (.object "java/lang/String"), accessFlags := 2, slot := 4, constantValue := 0 }, { name := "methodName", type := (.object "java/lang/String"), accessFlags := 2, slot := 5, constantValue := 0 }, { name := "fileName", type := (.object "java/lang/String"), accessFlags := 2, slot := 6, constantValue := 0 }, { name := "lineNumber", type := .int, accessFlags := 2, slot := 7, constantValue := 0 }, { name := "format", type := .byte, accessFlags := 2, slot := 8, constantValue := 0 }, { name := "BUILTIN_CLASS_LOADER", type := .byte, accessFlags := 26, slot := 2, constantValue := 0 }, { name := "JDK_NON_UPGRADEABLE_MODULE", type := .byte, accessFlags := 26, slot := 3, constantValue := 0 }, { name := "serialVersionUID", type := .long, accessFlags := 26, slot := 4, constantValue := 0 }]
  methods := #[k31m0]
  instanceTypes := #[(.object "java/lang/Class"), (.object "java/lang/String"), (.object "java/lang/String"), (.object "java/lang/String"), (.object "java/lang/String"), (.object "java/lang/String"), (.object "java/lang/String"), .int, .byte]
  staticTypes := #[(.object "java/lang/String"), (.object "java/lang/String"), .byte, .byte, .long]
  resolved := Array.replicate 235 none
  statics := none }

/-- the primitive byte -/
def k32 : Class := { plain "byte" none with kind := .primitive 'B', accessFlags := 0x411 }
/-- [B -/
def k33 : Class := { plain "[B" (some 0) with kind := .array 32 .byte, interfaces := #[19, 2], accessFlags := 1041 }

/-- the primitive char -/
def k34 : Class := { plain "char" none with kind := .primitive 'C', accessFlags := 0x411 }
/-- [C -/
def k35 : Class := { plain "[C" (some 0) with kind := .array 34 .char, interfaces := #[19, 2], accessFlags := 1041 }

/-- the primitive int -/
def k36 : Class := { plain "int" none with kind := .primitive 'I', accessFlags := 0x411 }
/-- [I -/
def k37 : Class := { plain "[I" (some 0) with kind := .array 36 .int, interfaces := #[19, 2], accessFlags := 1041 }

/-- [Ljava/lang/Object; -/
def k38 : Class := { plain "[Ljava/lang/Object;" (some 0) with kind := .array 0 (.object "java/lang/Object"), interfaces := #[19, 2], accessFlags := 1041 }

/-- [Ljava/lang/StackTraceElement; -/
def k39 : Class := { plain "[Ljava/lang/StackTraceElement;" (some 0) with kind := .array 31 (.object "java/lang/StackTraceElement"), interfaces := #[19, 2], accessFlags := 1041 }

/-- [Ljava/lang/Throwable; -/
def k40 : Class := { plain "[Ljava/lang/Throwable;" (some 0) with kind := .array 9 (.object "java/lang/Throwable"), interfaces := #[19, 2], accessFlags := 1041 }

def heap : Heap := #[{ cls := 7, slots := #[.long 0, .int 1, .null, .int 0, .null, .int 0, .int 0], vm := .statics 7 },
  { cls := 9, slots := #[.long 0, .ref 4, .ref 5, .null, .null, .null, .null, .ref 6, .int 1], vm := .statics 9 },
  { cls := 21, slots := #[.null, .null, .null], vm := .statics 21 },
  { cls := 22, slots := #[.int 0, .int 0, .int 0, .int 0, .int 0, .int 0, .int 0, .int 0, .null, .null, .ref 5, .null], vm := .statics 22 },
  { cls := 39, slots := #[], vm := .none },
  { cls := 30, slots := #[.int 0], vm := .none },
  { cls := 40, slots := #[], vm := .none }]
def classes : Array Class := #[k0, k1, k2, k3, k4, k5, k6, k7, k8, k9, k10, k11, k12, k13, k14, k15, k16, k17, k18, k19, k20, k21, k22, k23, k24, k25, k26, k27, k28, k29, k30, k31, k32, k33, k34, k35, k36, k37, k38, k39, k40]
def interned : List (Array UInt16 × Addr) := []
def slotsUsed : Nat := 32
def theMethod : MethodId := ⟨1, 1⟩
def args0 : Array Value := #[.int 97, .int 98, .int 99, .int 0]
def aboutOver (below : List Frame) : State where
  vm := { classes := classes, interned := interned.toArray }
  heap := heap
  slotsUsed := slotsUsed
  threads := #[{ frames := .invoking theMethod args0 :: below }]
def below0 : List Frame := [.native { method := ⟨0, 0⟩, args := #[] }]
def about1 : State := aboutOver below0
def p0 : Program := .bare "" "" ""
def e0 : Env := launch0.env 0 0 0
theorem w_frames : about1.frames = Frame.invoking theMethod args0 :: below0 := rfl
set_option maxRecDepth 65536 in
theorem w_args : argsFit about1.vm theMethod args0 = true := by decide +kernel
set_option maxRecDepth 65536 in
theorem w_heap : heapFits about1 = true := by decide +kernel
set_option maxRecDepth 65536 in
theorem w_runnable : about1.curStatus? = some .runnable := by decide +kernel
set_option maxRecDepth 65536 in
theorem w_alone : about1.alone = true := by decide +kernel
set_option maxRecDepth 65536 in
theorem w_named : about1.methodNamed? x = some theMethod := by decide +kernel
set_option maxRecDepth 65536 in
theorem w_hears : about1.hears theMethod below0 = true := by decide +kernel
set_option maxRecDepth 65536 in
theorem w_ripe : about1.ripe theMethod args0 below0 = true := by decide +kernel
theorem w_running : about1.status = .running := rfl
set_option maxRecDepth 65536 in
theorem w_room : about1.hasRoom e0.platform room_1 = true :=
  launch0.hasRoom_least _ room_1 (by decide +kernel) (by decide +kernel) (by decide +kernel) (by decide +kernel) (by decide +kernel) (by decide +kernel)
theorem allAtoms_all (ts : List Jvm.Cond) (a : Array Jvm.Value) (st : Jvm.State) : (allAtoms ts).before a st = ts.all (fun c => c.before a st) := by
  induction ts with
  | nil => rfl
  | cons c t ih =>
    show (Jvm.Cond.and c (allAtoms t)).before a st = _
    rw [Jvm.Cond.before_and, ih, List.all_cons]
def words1 : List Jvm.Cond := Jvm.Cond.code x code maxLocals ret :: tables_1
/-- a 'code' word, met by the world's own term for the bytes: nothing is compared byte by byte -/
theorem code_word {y : MethodName} {bytes : ByteArray} {mx : Nat} {rt : Option FieldType} {a : Array Value} {s : State} {m : MethodId} {meth : Method} {c : Code} (h1 : s.methodNamed? y = some m) (h2 : s.vm.method? m = some meth) (h3 : meth.code = some c) (h4 : c.code = bytes)
    (h5 : (c.maxLocals == mx && c.exceptionTable.isEmpty && decide (c.maxStack ≤ mostOperands) && decide (meth.sig.returnType = rt) && !meth.locks && decide (parseMethodDescriptor y.desc = some meth.sig)) = true) : (Jvm.Cond.code y bytes mx rt).before a s = true := by
  simp only [Bool.and_eq_true, beq_iff_eq, Bool.not_eq_true', decide_eq_true_eq] at h5
  obtain ⟨⟨⟨⟨⟨g1, g2⟩, g3⟩, g4⟩, g5⟩, g6⟩ := h5
  simp [Cond.before, Cond.holds, Cond.value, h1, h2, h3, h4, g1, g2, g3, g4, g5, g6]
def isCode : Jvm.Cond → Bool
  | .code _ _ _ _ => true
  | _ => false
theorem all_split {L : List Jvm.Cond} {P : Jvm.Cond → Bool} (h1 : L.all (fun c => isCode c || P c) = true) (h2 : ∀ c ∈ L.filter isCode, P c = true) : L.all P = true := by
  refine List.all_eq_true.mpr fun c hc => ?_
  have h := List.all_eq_true.mp h1 c hc
  rcases Bool.eq_false_or_eq_true (isCode c) with hi | hi
  · exact h2 c (List.mem_filter.mpr ⟨hc, hi⟩)
  · simpa [hi] using h
set_option maxRecDepth 65536 in
theorem w_c0 : (Jvm.Cond.code x code maxLocals ret).before args0 about1 = true := code_word (m := ⟨1, 1⟩) (meth := k1m1) (c := k1c1) (by decide +kernel) rfl rfl rfl (by decide +kernel)
set_option maxRecDepth 65536 in
theorem w_c1 : (Jvm.Cond.code ({ cls := "java/lang/String", name := "valueOf", desc := "(C)Ljava/lang/String;" } : Jvm.MethodName) jdk_42_method_139_code (1 : Nat) (Option.some (Jvm.ClassFile.FieldType.object "java/lang/String"))).before args0 about1 = true := code_word (m := ⟨7, 4⟩) (meth := k7m4) (c := k7c4) (by decide +kernel) rfl rfl rfl (by decide +kernel)
set_option maxRecDepth 65536 in
theorem w_c2 : (Jvm.Cond.code ({ cls := "java/lang/StringLatin1", name := "canEncode", desc := "(C)Z" } : Jvm.MethodName) jdk_43_method_3_code (1 : Nat) (Option.some Jvm.ClassFile.FieldType.boolean)).before args0 about1 = true := code_word (m := ⟨8, 1⟩) (meth := k8m1) (c := k8c1) (by decide +kernel) rfl rfl rfl (by decide +kernel)
set_option maxRecDepth 65536 in
theorem w_c3 : (Jvm.Cond.code ({ cls := "java/lang/StringLatin1", name := "toBytes", desc := "(C)[B" } : Jvm.MethodName) jdk_43_method_46_code (1 : Nat) (Option.some (Jvm.ClassFile.FieldType.array Jvm.ClassFile.FieldType.byte))).before args0 about1 = true := code_word (m := ⟨8, 2⟩) (meth := k8m2) (c := k8c2) (by decide +kernel) rfl rfl rfl (by decide +kernel)
set_option maxRecDepth 65536 in
theorem w_c4 : (Jvm.Cond.code ({ cls := "java/lang/String", name := "<init>", desc := "([BB)V" } : Jvm.MethodName) jdk_42_method_151_code (3 : Nat) (Option.none : Option Jvm.ClassFile.FieldType)).before args0 about1 = true := code_word (m := ⟨7, 8⟩) (meth := k7m8) (c := k7c8) (by decide +kernel) rfl rfl rfl (by decide +kernel)
set_option maxRecDepth 65536 in
theorem w_c5 : (Jvm.Cond.code ({ cls := "java/lang/Object", name := "<init>", desc := "()V" } : Jvm.MethodName) object_method_1_code (1 : Nat) (Option.none : Option Jvm.ClassFile.FieldType)).before args0 about1 = true := code_word (m := ⟨0, 0⟩) (meth := k0m0) (c := k0c0) (by decide +kernel) rfl rfl rfl (by decide +kernel)
set_option maxRecDepth 65536 in
theorem w_c6 : (Jvm.Cond.code ({ cls := "com/example/loadbay/loadbay/Refusal", name := "badEncoding", desc := "(Ljava/lang/String;)Lcom/example/loadbay/loadbay/Refusal;" } : Jvm.MethodName) prog_5_method_9_code (1 : Nat) (Option.some (Jvm.ClassFile.FieldType.object "com/example/loadbay/loadbay/Refusal"))).before args0 about1 = true := code_word (m := ⟨11, 1⟩) (meth := k11m1) (c := k11c1) (by decide +kernel) rfl rfl rfl (by decide +kernel)
set_option maxRecDepth 65536 in
theorem w_c7 : (Jvm.Cond.code ({ cls := "java/lang/StringBuilder", name := "<init>", desc := "()V" } : Jvm.MethodName) jdk_67_method_1_code (1 : Nat) (Option.none : Option Jvm.ClassFile.FieldType)).before args0 about1 = true := code_word (m := ⟨14, 0⟩) (meth := k14m0) (c := k14c0) (by decide +kernel) rfl rfl rfl (by decide +kernel)
set_option maxRecDepth 65536 in
theorem w_c8 : (Jvm.Cond.code ({ cls := "java/lang/AbstractStringBuilder", name := "<init>", desc := "(I)V" } : Jvm.MethodName) jdk_68_method_2_code (2 : Nat) (Option.none : Option Jvm.ClassFile.FieldType)).before args0 about1 = true := code_word (m := ⟨13, 1⟩) (meth := k13m1) (c := k13c1) (by decide +kernel) rfl rfl rfl (by decide +kernel)
set_option maxRecDepth 65536 in
theorem w_c9 : (Jvm.Cond.code ({ cls := "java/lang/StringBuilder", name := "append", desc := "(Ljava/lang/String;)Ljava/lang/StringBuilder;" } : Jvm.MethodName) jdk_67_method_7_code (2 : Nat) (Option.some (Jvm.ClassFile.FieldType.object "java/lang/StringBuilder"))).before args0 about1 = true := code_word (m := ⟨14, 1⟩) (meth := k14m1) (c := k14c1) (by decide +kernel) rfl rfl rfl (by decide +kernel)
set_option maxRecDepth 65536 in
theorem w_c10 : (Jvm.Cond.code ({ cls := "java/lang/AbstractStringBuilder", name := "append", desc := "(Ljava/lang/String;)Ljava/lang/AbstractStringBuilder;" } : Jvm.MethodName) jdk_68_method_22_code (3 : Nat) (Option.some (Jvm.ClassFile.FieldType.object "java/lang/AbstractStringBuilder"))).before args0 about1 = true := code_word (m := ⟨13, 5⟩) (meth := k13m5) (c := k13c5) (by decide +kernel) rfl rfl rfl (by decide +kernel)
set_option maxRecDepth 65536 in
theorem w_c11 : (Jvm.Cond.code ({ cls := "java/lang/String", name := "length", desc := "()I" } : Jvm.MethodName) jdk_42_method_54_code (1 : Nat) (Option.some Jvm.ClassFile.FieldType.int)).before args0 about1 = true := code_word (m := ⟨7, 3⟩) (meth := k7m3) (c := k7c3) (by decide +kernel) rfl rfl rfl (by decide +kernel)
set_option maxRecDepth 65536 in
theorem w_c12 : (Jvm.Cond.code ({ cls := "java/lang/String", name := "coder", desc := "()B" } : Jvm.MethodName) jdk_42_method_152_code (1 : Nat) (Option.some Jvm.ClassFile.FieldType.byte)).before args0 about1 = true := code_word (m := ⟨7, 9⟩) (meth := k7m9) (c := k7c9) (by decide +kernel) rfl rfl rfl (by decide +kernel)
set_option maxRecDepth 65536 in
theorem w_c13 : (Jvm.Cond.code ({ cls := "java/lang/AbstractStringBuilder", name := "ensureCapacityInternal", desc := "(I)V" } : Jvm.MethodName) jdk_68_method_9_code (3 : Nat) (Option.none : Option Jvm.ClassFile.FieldType)).before args0 about1 = true := code_word (m := ⟨13, 3⟩) (meth := k13m3) (c := k13c3) (by decide +kernel) rfl rfl rfl (by decide +kernel)
set_option maxRecDepth 65536 in
theorem w_c14 : (Jvm.Cond.code ({ cls := "java/lang/AbstractStringBuilder", name := "newCapacity", desc := "(I)I" } : Jvm.MethodName) jdk_68_method_10_code (6 : Nat) (Option.some Jvm.ClassFile.FieldType.int)).before args0 about1 = true := code_word (m := ⟨13, 4⟩) (meth := k13m4) (c := k13c4) (by decide +kernel) rfl rfl rfl (by decide +kernel)
set_option maxRecDepth 65536 in
theorem w_c15 : (Jvm.Cond.code ({ cls := "jdk/internal/util/ArraysSupport", name := "newLength", desc := "(III)I" } : Jvm.MethodName) jdk_48_method_27_code (4 : Nat) (Option.some Jvm.ClassFile.FieldType.int)).before args0 about1 = true := code_word (m := ⟨15, 1⟩) (meth := k15m1) (c := k15c1) (by decide +kernel) rfl rfl rfl (by decide +kernel)
set_option maxRecDepth 65536 in
theorem w_c16 : (Jvm.Cond.code ({ cls := "java/lang/Math", name := "max", desc := "(II)I" } : Jvm.MethodName) jdk_29_method_65_code (2 : Nat) (Option.some Jvm.ClassFile.FieldType.int)).before args0 about1 = true := code_word (m := ⟨16, 1⟩) (meth := k16m1) (c := k16c1) (by decide +kernel) rfl rfl rfl (by decide +kernel)
set_option maxRecDepth 65536 in
theorem w_c17 : (Jvm.Cond.code ({ cls := "java/util/Arrays", name := "copyOf", desc := "([BI)[B" } : Jvm.MethodName) jdk_65_method_121_code (3 : Nat) (Option.some (Jvm.ClassFile.FieldType.array Jvm.ClassFile.FieldType.byte))).before args0 about1 = true := code_word (m := ⟨17, 1⟩) (meth := k17m1) (c := k17c1) (by decide +kernel) rfl rfl rfl (by decide +kernel)
set_option maxRecDepth 65536 in
theorem w_c18 : (Jvm.Cond.code ({ cls := "java/lang/Math", name := "min", desc := "(II)I" } : Jvm.MethodName) jdk_29_method_69_code (2 : Nat) (Option.some Jvm.ClassFile.FieldType.int)).before args0 about1 = true := code_word (m := ⟨16, 2⟩) (meth := k16m2) (c := k16c2) (by decide +kernel) rfl rfl rfl (by decide +kernel)
set_option maxRecDepth 65536 in
theorem w_c19 : (Jvm.Cond.code ({ cls := "java/lang/AbstractStringBuilder", name := "putStringAt", desc := "(ILjava/lang/String;)V" } : Jvm.MethodName) jdk_68_method_73_code (3 : Nat) (Option.none : Option Jvm.ClassFile.FieldType)).before args0 about1 = true := code_word (m := ⟨13, 10⟩) (meth := k13m10) (c := k13c10) (by decide +kernel) rfl rfl rfl (by decide +kernel)
set_option maxRecDepth 65536 in
theorem w_c20 : (Jvm.Cond.code ({ cls := "java/lang/AbstractStringBuilder", name := "inflateIfNeededFor", desc := "(Ljava/lang/String;)V" } : Jvm.MethodName) jdk_68_method_71_code (2 : Nat) (Option.none : Option Jvm.ClassFile.FieldType)).before args0 about1 = true := code_word (m := ⟨13, 9⟩) (meth := k13m9) (c := k13c9) (by decide +kernel) rfl rfl rfl (by decide +kernel)
set_option maxRecDepth 65536 in
theorem w_c21 : (Jvm.Cond.code ({ cls := "java/lang/String", name := "getBytes", desc := "([BIB)V" } : Jvm.MethodName) jdk_42_method_147_code (4 : Nat) (Option.none : Option Jvm.ClassFile.FieldType)).before args0 about1 = true := code_word (m := ⟨7, 5⟩) (meth := k7m5) (c := k7c5) (by decide +kernel) rfl rfl rfl (by decide +kernel)
set_option maxRecDepth 65536 in
theorem w_c22 : (Jvm.Cond.code ({ cls := "java/lang/StringBuilder", name := "toString", desc := "()Ljava/lang/String;" } : Jvm.MethodName) jdk_67_method_42_code (1 : Nat) (Option.some (Jvm.ClassFile.FieldType.object "java/lang/String"))).before args0 about1 = true := code_word (m := ⟨14, 2⟩) (meth := k14m2) (c := k14c2) (by decide +kernel) rfl rfl rfl (by decide +kernel)
set_option maxRecDepth 65536 in
theorem w_c23 : (Jvm.Cond.code ({ cls := "java/lang/String", name := "<init>", desc := "(Ljava/lang/StringBuilder;)V" } : Jvm.MethodName) jdk_42_method_53_code (2 : Nat) (Option.none : Option Jvm.ClassFile.FieldType)).before args0 about1 = true := code_word (m := ⟨7, 2⟩) (meth := k7m2) (c := k7c2) (by decide +kernel) rfl rfl rfl (by decide +kernel)
set_option maxRecDepth 65536 in
theorem w_c24 : (Jvm.Cond.code ({ cls := "java/lang/String", name := "<init>", desc := "(Ljava/lang/AbstractStringBuilder;Ljava/lang/Void;)V" } : Jvm.MethodName) jdk_42_method_150_code (5 : Nat) (Option.none : Option Jvm.ClassFile.FieldType)).before args0 about1 = true := code_word (m := ⟨7, 7⟩) (meth := k7m7) (c := k7c7) (by decide +kernel) rfl rfl rfl (by decide +kernel)
set_option maxRecDepth 65536 in
theorem w_c25 : (Jvm.Cond.code ({ cls := "java/lang/AbstractStringBuilder", name := "getValue", desc := "()[B" } : Jvm.MethodName) jdk_68_method_64_code (1 : Nat) (Option.some (Jvm.ClassFile.FieldType.array Jvm.ClassFile.FieldType.byte))).before args0 about1 = true := code_word (m := ⟨13, 7⟩) (meth := k13m7) (c := k13c7) (by decide +kernel) rfl rfl rfl (by decide +kernel)
set_option maxRecDepth 65536 in
theorem w_c26 : (Jvm.Cond.code ({ cls := "java/lang/StringBuilder", name := "length", desc := "()I" } : Jvm.MethodName) jdk_67_method_93_code (1 : Nat) (Option.some Jvm.ClassFile.FieldType.int)).before args0 about1 = true := code_word (m := ⟨14, 3⟩) (meth := k14m3) (c := k14c3) (by decide +kernel) rfl rfl rfl (by decide +kernel)
set_option maxRecDepth 65536 in
theorem w_c27 : (Jvm.Cond.code ({ cls := "java/lang/AbstractStringBuilder", name := "length", desc := "()I" } : Jvm.MethodName) jdk_68_method_6_code (1 : Nat) (Option.some Jvm.ClassFile.FieldType.int)).before args0 about1 = true := code_word (m := ⟨13, 2⟩) (meth := k13m2) (c := k13c2) (by decide +kernel) rfl rfl rfl (by decide +kernel)
set_option maxRecDepth 65536 in
theorem w_c28 : (Jvm.Cond.code ({ cls := "java/lang/AbstractStringBuilder", name := "isLatin1", desc := "()Z" } : Jvm.MethodName) jdk_68_method_68_code (1 : Nat) (Option.some Jvm.ClassFile.FieldType.boolean)).before args0 about1 = true := code_word (m := ⟨13, 8⟩) (meth := k13m8) (c := k13c8) (by decide +kernel) rfl rfl rfl (by decide +kernel)
set_option maxRecDepth 65536 in
theorem w_c29 : (Jvm.Cond.code ({ cls := "java/util/Arrays", name := "copyOfRange", desc := "([BII)[B" } : Jvm.MethodName) jdk_65_method_132_code (3 : Nat) (Option.some (Jvm.ClassFile.FieldType.array Jvm.ClassFile.FieldType.byte))).before args0 about1 = true := code_word (m := ⟨17, 3⟩) (meth := k17m3) (c := k17c3) (by decide +kernel) rfl rfl rfl (by decide +kernel)
set_option maxRecDepth 65536 in
theorem w_c30 : (Jvm.Cond.code ({ cls := "java/util/Arrays", name := "copyOfRangeByte", desc := "([BII)[B" } : Jvm.MethodName) jdk_65_method_133_code (5 : Nat) (Option.some (Jvm.ClassFile.FieldType.array Jvm.ClassFile.FieldType.byte))).before args0 about1 = true := code_word (m := ⟨17, 4⟩) (meth := k17m4) (c := k17c4) (by decide +kernel) rfl rfl rfl (by decide +kernel)
set_option maxRecDepth 65536 in
theorem w_c31 : (Jvm.Cond.code ({ cls := "java/util/Arrays", name := "checkLength", desc := "(II)V" } : Jvm.MethodName) jdk_65_method_131_code (2 : Nat) (Option.none : Option Jvm.ClassFile.FieldType)).before args0 about1 = true := code_word (m := ⟨17, 2⟩) (meth := k17m2) (c := k17c2) (by decide +kernel) rfl rfl rfl (by decide +kernel)
set_option maxRecDepth 65536 in
theorem w_c32 : (Jvm.Cond.code ({ cls := "com/example/loadbay/loadbay/Refusal", name := "<init>", desc := "(IILjava/lang/String;)V" } : Jvm.MethodName) prog_5_method_1_code (4 : Nat) (Option.none : Option Jvm.ClassFile.FieldType)).before args0 about1 = true := code_word (m := ⟨11, 0⟩) (meth := k11m0) (c := k11c0) (by decide +kernel) rfl rfl rfl (by decide +kernel)
set_option maxRecDepth 65536 in
theorem w_c33 : (Jvm.Cond.code ({ cls := "java/lang/Exception", name := "<init>", desc := "(Ljava/lang/String;)V" } : Jvm.MethodName) jdk_59_method_2_code (2 : Nat) (Option.none : Option Jvm.ClassFile.FieldType)).before args0 about1 = true := code_word (m := ⟨10, 1⟩) (meth := k10m1) (c := k10c1) (by decide +kernel) rfl rfl rfl (by decide +kernel)
set_option maxRecDepth 65536 in
theorem w_c34 : (Jvm.Cond.code ({ cls := "java/lang/Throwable", name := "<init>", desc := "(Ljava/lang/String;)V" } : Jvm.MethodName) jdk_78_method_2_code (2 : Nat) (Option.none : Option Jvm.ClassFile.FieldType)).before args0 about1 = true := code_word (m := ⟨9, 1⟩) (meth := k9m1) (c := k9c1) (by decide +kernel) rfl rfl rfl (by decide +kernel)
set_option maxRecDepth 65536 in
theorem w_c35 : (Jvm.Cond.code ({ cls := "java/lang/Throwable", name := "<init>", desc := "()V" } : Jvm.MethodName) jdk_78_method_1_code (1 : Nat) (Option.none : Option Jvm.ClassFile.FieldType)).before args0 about1 = true := code_word (m := ⟨9, 0⟩) (meth := k9m0) (c := k9c0) (by decide +kernel) rfl rfl rfl (by decide +kernel)
set_option maxRecDepth 65536 in
theorem w_c36 : (Jvm.Cond.code ({ cls := "com/example/loadbay/loadbay/Refusal", name := "httpStatus", desc := "()I" } : Jvm.MethodName) prog_5_method_26_code (1 : Nat) (Option.some Jvm.ClassFile.FieldType.int)).before args0 about1 = true := code_word (m := ⟨11, 2⟩) (meth := k11m2) (c := k11c2) (by decide +kernel) rfl rfl rfl (by decide +kernel)
set_option maxRecDepth 65536 in
theorem w_c37 : (Jvm.Cond.code ({ cls := "com/example/loadbay/loadbay/Refusal", name := "agileStatus", desc := "()I" } : Jvm.MethodName) prog_5_method_27_code (1 : Nat) (Option.some Jvm.ClassFile.FieldType.int)).before args0 about1 = true := code_word (m := ⟨11, 3⟩) (meth := k11m3) (c := k11c3) (by decide +kernel) rfl rfl rfl (by decide +kernel)
set_option maxRecDepth 65536 in
theorem w_c38 : (Jvm.Cond.code ({ cls := "java/lang/String", name := "<init>", desc := "([C)V" } : Jvm.MethodName) jdk_42_method_3_code (2 : Nat) (Option.none : Option Jvm.ClassFile.FieldType)).before args0 about1 = true := code_word (m := ⟨7, 1⟩) (meth := k7m1) (c := k7c1) (by decide +kernel) rfl rfl rfl (by decide +kernel)
set_option maxRecDepth 65536 in
theorem w_c39 : (Jvm.Cond.code ({ cls := "java/lang/String", name := "<init>", desc := "([CIILjava/lang/Void;)V" } : Jvm.MethodName) jdk_42_method_149_code (6 : Nat) (Option.none : Option Jvm.ClassFile.FieldType)).before args0 about1 = true := code_word (m := ⟨7, 6⟩) (meth := k7m6) (c := k7c6) (by decide +kernel) rfl rfl rfl (by decide +kernel)
set_option maxRecDepth 65536 in
theorem w_c40 : (Jvm.Cond.code ({ cls := "java/lang/StringUTF16", name := "compress", desc := "([CII)[B" } : Jvm.MethodName) jdk_52_method_16_code (6 : Nat) (Option.some (Jvm.ClassFile.FieldType.array Jvm.ClassFile.FieldType.byte))).before args0 about1 = true := code_word (m := ⟨20, 2⟩) (meth := k20m2) (c := k20c2) (by decide +kernel) rfl rfl rfl (by decide +kernel)
set_option maxRecDepth 65536 in
theorem w_c41 : (Jvm.Cond.code ({ cls := "java/lang/StringUTF16", name := "compress", desc := "([CI[BII)I" } : Jvm.MethodName) jdk_52_method_21_code (7 : Nat) (Option.some Jvm.ClassFile.FieldType.int)).before args0 about1 = true := code_word (m := ⟨20, 3⟩) (meth := k20m3) (c := k20c3) (by decide +kernel) rfl rfl rfl (by decide +kernel)
set_option maxRecDepth 65536 in
theorem w_c42 : (Jvm.Cond.code ({ cls := "java/lang/StringUTF16", name := "coderFromArrayLen", desc := "([BI)B" } : Jvm.MethodName) jdk_52_method_15_code (2 : Nat) (Option.some Jvm.ClassFile.FieldType.byte)).before args0 about1 = true := code_word (m := ⟨20, 1⟩) (meth := k20m1) (c := k20c1) (by decide +kernel) rfl rfl rfl (by decide +kernel)
set_option maxRecDepth 65536 in
theorem w_c43 : (Jvm.Cond.code ({ cls := "java/lang/AbstractStringBuilder", name := "appendNull", desc := "()Ljava/lang/AbstractStringBuilder;" } : Jvm.MethodName) jdk_68_method_26_code (3 : Nat) (Option.some (Jvm.ClassFile.FieldType.object "java/lang/AbstractStringBuilder"))).before args0 about1 = true := code_word (m := ⟨13, 6⟩) (meth := k13m6) (c := k13c6) (by decide +kernel) rfl rfl rfl (by decide +kernel)
def codes1 : List Jvm.Cond := [Jvm.Cond.code x code maxLocals ret, Jvm.Cond.code ({ cls := "java/lang/String", name := "valueOf", desc := "(C)Ljava/lang/String;" } : Jvm.MethodName) jdk_42_method_139_code (1 : Nat) (Option.some (Jvm.ClassFile.FieldType.object "java/lang/String")), Jvm.Cond.code ({ cls := "java/lang/StringLatin1", name := "canEncode", desc := "(C)Z" } : Jvm.MethodName) jdk_43_method_3_code (1 : Nat) (Option.some Jvm.ClassFile.FieldType.boolean), Jvm.Cond.code ({ cls := "java/lang/StringLatin1", name := "toBytes", desc := "(C)[B" } : Jvm.MethodName) jdk_43_method_46_code (1 : Nat) (Option.some (Jvm.ClassFile.FieldType.array Jvm.ClassFile.FieldType.byte)), Jvm.Cond.code ({ cls := "java/lang/String", name := "<init>", desc := "([BB)V" } : Jvm.MethodName) jdk_42_method_151_code (3 : Nat) (Option.none : Option Jvm.ClassFile.FieldType), Jvm.Cond.code ({ cls := "java/lang/Object", name := "<init>", desc := "()V" } : Jvm.MethodName) object_method_1_code (1 : Nat) (Option.none : Option Jvm.ClassFile.FieldType), Jvm.Cond.code ({ cls := "com/example/loadbay/loadbay/Refusal", name := "badEncoding", desc := "(Ljava/lang/String;)Lcom/example/loadbay/loadbay/Refusal;" } : Jvm.MethodName) prog_5_method_9_code (1 : Nat) (Option.some (Jvm.ClassFile.FieldType.object "com/example/loadbay/loadbay/Refusal")), Jvm.Cond.code ({ cls := "java/lang/StringBuilder", name := "<init>", desc := "()V" } : Jvm.MethodName) jdk_67_method_1_code (1 : Nat) (Option.none : Option Jvm.ClassFile.FieldType), Jvm.Cond.code ({ cls := "java/lang/AbstractStringBuilder", name := "<init>", desc := "(I)V" } : Jvm.MethodName) jdk_68_method_2_code (2 : Nat) (Option.none : Option Jvm.ClassFile.FieldType), Jvm.Cond.code ({ cls := "java/lang/StringBuilder", name := "append", desc := "(Ljava/lang/String;)Ljava/lang/StringBuilder;" } : Jvm.MethodName) jdk_67_method_7_code (2 : Nat) (Option.some (Jvm.ClassFile.FieldType.object "java/lang/StringBuilder")), Jvm.Cond.code ({ cls := "java/lang/AbstractStringBuilder", name := "append", desc := "(Ljava/lang/String;)Ljava/lang/AbstractStringBuilder;" } : Jvm.MethodName) jdk_68_method_22_code (3 : Nat) (Option.some (Jvm.ClassFile.FieldType.object "java/lang/AbstractStringBuilder")), Jvm.Cond.code ({ cls := "java/lang/String", name := "length", desc := "()I" } : Jvm.MethodName) jdk_42_method_54_code (1 : Nat) (Option.some Jvm.ClassFile.FieldType.int), Jvm.Cond.code ({ cls := "java/lang/String", name := "coder", desc := "()B" } : Jvm.MethodName) jdk_42_method_152_code (1 : Nat) (Option.some Jvm.ClassFile.FieldType.byte), Jvm.Cond.code ({ cls := "java/lang/AbstractStringBuilder", name := "ensureCapacityInternal", desc := "(I)V" } : Jvm.MethodName) jdk_68_method_9_code (3 : Nat) (Option.none : Option Jvm.ClassFile.FieldType), Jvm.Cond.code ({ cls := "java/lang/AbstractStringBuilder", name := "newCapacity", desc := "(I)I" } : Jvm.MethodName) jdk_68_method_10_code (6 : Nat) (Option.some Jvm.ClassFile.FieldType.int), Jvm.Cond.code ({ cls := "jdk/internal/util/ArraysSupport", name := "newLength", desc := "(III)I" } : Jvm.MethodName) jdk_48_method_27_code (4 : Nat) (Option.some Jvm.ClassFile.FieldType.int), Jvm.Cond.code ({ cls := "java/lang/Math", name := "max", desc := "(II)I" } : Jvm.MethodName) jdk_29_method_65_code (2 : Nat) (Option.some Jvm.ClassFile.FieldType.int), Jvm.Cond.code ({ cls := "java/util/Arrays", name := "copyOf", desc := "([BI)[B" } : Jvm.MethodName) jdk_65_method_121_code (3 : Nat) (Option.some (Jvm.ClassFile.FieldType.array Jvm.ClassFile.FieldType.byte)), Jvm.Cond.code ({ cls := "java/lang/Math", name := "min", desc := "(II)I" } : Jvm.MethodName) jdk_29_method_69_code (2 : Nat) (Option.some Jvm.ClassFile.FieldType.int), Jvm.Cond.code ({ cls := "java/lang/AbstractStringBuilder", name := "putStringAt", desc := "(ILjava/lang/String;)V" } : Jvm.MethodName) jdk_68_method_73_code (3 : Nat) (Option.none : Option Jvm.ClassFile.FieldType), Jvm.Cond.code ({ cls := "java/lang/AbstractStringBuilder", name := "inflateIfNeededFor", desc := "(Ljava/lang/String;)V" } : Jvm.MethodName) jdk_68_method_71_code (2 : Nat) (Option.none : Option Jvm.ClassFile.FieldType), Jvm.Cond.code ({ cls := "java/lang/String", name := "getBytes", desc := "([BIB)V" } : Jvm.MethodName) jdk_42_method_147_code (4 : Nat) (Option.none : Option Jvm.ClassFile.FieldType), Jvm.Cond.code ({ cls := "java/lang/StringBuilder", name := "toString", desc := "()Ljava/lang/String;" } : Jvm.MethodName) jdk_67_method_42_code (1 : Nat) (Option.some (Jvm.ClassFile.FieldType.object "java/lang/String")), Jvm.Cond.code ({ cls := "java/lang/String", name := "<init>", desc := "(Ljava/lang/StringBuilder;)V" } : Jvm.MethodName) jdk_42_method_53_code (2 : Nat) (Option.none : Option Jvm.ClassFile.FieldType), Jvm.Cond.code ({ cls := "java/lang/String", name := "<init>", desc := "(Ljava/lang/AbstractStringBuilder;Ljava/lang/Void;)V" } : Jvm.MethodName) jdk_42_method_150_code (5 : Nat) (Option.none : Option Jvm.ClassFile.FieldType), Jvm.Cond.code ({ cls := "java/lang/AbstractStringBuilder", name := "getValue", desc := "()[B" } : Jvm.MethodName) jdk_68_method_64_code (1 : Nat) (Option.some (Jvm.ClassFile.FieldType.array Jvm.ClassFile.FieldType.byte)), Jvm.Cond.code ({ cls := "java/lang/StringBuilder", name := "length", desc := "()I" } : Jvm.MethodName) jdk_67_method_93_code (1 : Nat) (Option.some Jvm.ClassFile.FieldType.int), Jvm.Cond.code ({ cls := "java/lang/AbstractStringBuilder", name := "length", desc := "()I" } : Jvm.MethodName) jdk_68_method_6_code (1 : Nat) (Option.some Jvm.ClassFile.FieldType.int), Jvm.Cond.code ({ cls := "java/lang/AbstractStringBuilder", name := "isLatin1", desc := "()Z" } : Jvm.MethodName) jdk_68_method_68_code (1 : Nat) (Option.some Jvm.ClassFile.FieldType.boolean), Jvm.Cond.code ({ cls := "java/util/Arrays", name := "copyOfRange", desc := "([BII)[B" } : Jvm.MethodName) jdk_65_method_132_code (3 : Nat) (Option.some (Jvm.ClassFile.FieldType.array Jvm.ClassFile.FieldType.byte)), Jvm.Cond.code ({ cls := "java/util/Arrays", name := "copyOfRangeByte", desc := "([BII)[B" } : Jvm.MethodName) jdk_65_method_133_code (5 : Nat) (Option.some (Jvm.ClassFile.FieldType.array Jvm.ClassFile.FieldType.byte)), Jvm.Cond.code ({ cls := "java/util/Arrays", name := "checkLength", desc := "(II)V" } : Jvm.MethodName) jdk_65_method_131_code (2 : Nat) (Option.none : Option Jvm.ClassFile.FieldType), Jvm.Cond.code ({ cls := "com/example/loadbay/loadbay/Refusal", name := "<init>", desc := "(IILjava/lang/String;)V" } : Jvm.MethodName) prog_5_method_1_code (4 : Nat) (Option.none : Option Jvm.ClassFile.FieldType), Jvm.Cond.code ({ cls := "java/lang/Exception", name := "<init>", desc := "(Ljava/lang/String;)V" } : Jvm.MethodName) jdk_59_method_2_code (2 : Nat) (Option.none : Option Jvm.ClassFile.FieldType), Jvm.Cond.code ({ cls := "java/lang/Throwable", name := "<init>", desc := "(Ljava/lang/String;)V" } : Jvm.MethodName) jdk_78_method_2_code (2 : Nat) (Option.none : Option Jvm.ClassFile.FieldType), Jvm.Cond.code ({ cls := "java/lang/Throwable", name := "<init>", desc := "()V" } : Jvm.MethodName) jdk_78_method_1_code (1 : Nat) (Option.none : Option Jvm.ClassFile.FieldType), Jvm.Cond.code ({ cls := "com/example/loadbay/loadbay/Refusal", name := "httpStatus", desc := "()I" } : Jvm.MethodName) prog_5_method_26_code (1 : Nat) (Option.some Jvm.ClassFile.FieldType.int), Jvm.Cond.code ({ cls := "com/example/loadbay/loadbay/Refusal", name := "agileStatus", desc := "()I" } : Jvm.MethodName) prog_5_method_27_code (1 : Nat) (Option.some Jvm.ClassFile.FieldType.int), Jvm.Cond.code ({ cls := "java/lang/String", name := "<init>", desc := "([C)V" } : Jvm.MethodName) jdk_42_method_3_code (2 : Nat) (Option.none : Option Jvm.ClassFile.FieldType), Jvm.Cond.code ({ cls := "java/lang/String", name := "<init>", desc := "([CIILjava/lang/Void;)V" } : Jvm.MethodName) jdk_42_method_149_code (6 : Nat) (Option.none : Option Jvm.ClassFile.FieldType), Jvm.Cond.code ({ cls := "java/lang/StringUTF16", name := "compress", desc := "([CII)[B" } : Jvm.MethodName) jdk_52_method_16_code (6 : Nat) (Option.some (Jvm.ClassFile.FieldType.array Jvm.ClassFile.FieldType.byte)), Jvm.Cond.code ({ cls := "java/lang/StringUTF16", name := "compress", desc := "([CI[BII)I" } : Jvm.MethodName) jdk_52_method_21_code (7 : Nat) (Option.some Jvm.ClassFile.FieldType.int), Jvm.Cond.code ({ cls := "java/lang/StringUTF16", name := "coderFromArrayLen", desc := "([BI)B" } : Jvm.MethodName) jdk_52_method_15_code (2 : Nat) (Option.some Jvm.ClassFile.FieldType.byte), Jvm.Cond.code ({ cls := "java/lang/AbstractStringBuilder", name := "appendNull", desc := "()Ljava/lang/AbstractStringBuilder;" } : Jvm.MethodName) jdk_68_method_26_code (3 : Nat) (Option.some (Jvm.ClassFile.FieldType.object "java/lang/AbstractStringBuilder"))]
set_option maxRecDepth 65536 in
theorem codes_eq : words1.filter isCode = codes1 := rfl
theorem w_codes : ∀ c ∈ words1.filter isCode, c.before args0 about1 = true := by
  rw [codes_eq]
  intro c hc
  simp only [codes1, List.mem_cons, List.not_mem_nil, or_false] at hc
  rcases hc with rfl | rfl | rfl | rfl | rfl | rfl | rfl | rfl | rfl | rfl | rfl | rfl | rfl | rfl | rfl | rfl | rfl | rfl | rfl | rfl | rfl | rfl | rfl | rfl | rfl | rfl | rfl | rfl | rfl | rfl | rfl | rfl | rfl | rfl | rfl | rfl | rfl | rfl | rfl | rfl | rfl | rfl | rfl | rfl
  · exact w_c0
  · exact w_c1
  · exact w_c2
  · exact w_c3
  · exact w_c4
  · exact w_c5
  · exact w_c6
  · exact w_c7
  · exact w_c8
  · exact w_c9
  · exact w_c10
  · exact w_c11
  · exact w_c12
  · exact w_c13
  · exact w_c14
  · exact w_c15
  · exact w_c16
  · exact w_c17
  · exact w_c18
  · exact w_c19
  · exact w_c20
  · exact w_c21
  · exact w_c22
  · exact w_c23
  · exact w_c24
  · exact w_c25
  · exact w_c26
  · exact w_c27
  · exact w_c28
  · exact w_c29
  · exact w_c30
  · exact w_c31
  · exact w_c32
  · exact w_c33
  · exact w_c34
  · exact w_c35
  · exact w_c36
  · exact w_c37
  · exact w_c38
  · exact w_c39
  · exact w_c40
  · exact w_c41
  · exact w_c42
  · exact w_c43
set_option maxRecDepth 65536 in
theorem w_t1 : (words1.take 24).all (fun c => isCode c || c.before args0 about1) = true := by decide +kernel
set_option maxRecDepth 65536 in
theorem w_t2 : ((words1.drop 24).take 24).all (fun c => isCode c || c.before args0 about1) = true := by decide +kernel
set_option maxRecDepth 65536 in
theorem w_t3 : (((words1.drop 24).drop 24).take 24).all (fun c => isCode c || c.before args0 about1) = true := by decide +kernel
set_option maxRecDepth 65536 in
theorem w_t4 : ((((words1.drop 24).drop 24).drop 24).take 24).all (fun c => isCode c || c.before args0 about1) = true := by decide +kernel
set_option maxRecDepth 65536 in
theorem w_t5 : (((((words1.drop 24).drop 24).drop 24).drop 24).take 24).all (fun c => isCode c || c.before args0 about1) = true := by decide +kernel
set_option maxRecDepth 65536 in
theorem w_t6 : ((((((words1.drop 24).drop 24).drop 24).drop 24).drop 24).take 24).all (fun c => isCode c || c.before args0 about1) = true := by decide +kernel
set_option maxRecDepth 65536 in
theorem w_t7 : (((((((words1.drop 24).drop 24).drop 24).drop 24).drop 24).drop 24).take 24).all (fun c => isCode c || c.before args0 about1) = true := by decide +kernel
set_option maxRecDepth 65536 in
theorem w_t8 : ((((((((words1.drop 24).drop 24).drop 24).drop 24).drop 24).drop 24).drop 24).take 24).all (fun c => isCode c || c.before args0 about1) = true := by decide +kernel
set_option maxRecDepth 65536 in
theorem w_t9 : (((((((((words1.drop 24).drop 24).drop 24).drop 24).drop 24).drop 24).drop 24).drop 24).take 24).all (fun c => isCode c || c.before args0 about1) = true := by decide +kernel
set_option maxRecDepth 65536 in
theorem w_t10 : ((((((((((words1.drop 24).drop 24).drop 24).drop 24).drop 24).drop 24).drop 24).drop 24).drop 24).take 24).all (fun c => isCode c || c.before args0 about1) = true := by decide +kernel
set_option maxRecDepth 65536 in
theorem w_t11 : ((((((((((words1.drop 24).drop 24).drop 24).drop 24).drop 24).drop 24).drop 24).drop 24).drop 24).drop 24).all (fun c => isCode c || c.before args0 about1) = true := by decide +kernel
theorem w_tables : (allAtoms (Jvm.Cond.code x code maxLocals ret :: tables_1)).before args0 about1 = true := by
  rw [allAtoms_all]
  show words1.all (fun c => c.before args0 about1) = true
  refine all_split ?_ w_codes
  rw [← List.take_append_drop 24 words1, List.all_append, w_t1, ← List.take_append_drop 24 (words1.drop 24), List.all_append, w_t2, ← List.take_append_drop 24 ((words1.drop 24).drop 24), List.all_append, w_t3, ← List.take_append_drop 24 (((words1.drop 24).drop 24).drop 24), List.all_append, w_t4, ← List.take_append_drop 24 ((((words1.drop 24).drop 24).drop 24).drop 24), List.all_append, w_t5, ← List.take_append_drop 24 (((((words1.drop 24).drop 24).drop 24).drop 24).drop 24), List.all_append, w_t6, ← List.take_append_drop 24 ((((((words1.drop 24).drop 24).drop 24).drop 24).drop 24).drop 24), List.all_append, w_t7, ← List.take_append_drop 24 (((((((words1.drop 24).drop 24).drop 24).drop 24).drop 24).drop 24).drop 24), List.all_append, w_t8, ← List.take_append_drop 24 ((((((((words1.drop 24).drop 24).drop 24).drop 24).drop 24).drop 24).drop 24).drop 24), List.all_append, w_t9, ← List.take_append_drop 24 (((((((((words1.drop 24).drop 24).drop 24).drop 24).drop 24).drop 24).drop 24).drop 24).drop 24), List.all_append, w_t10, w_t11]
  rfl
set_option maxRecDepth 65536 in
theorem w_rest : rest_1_c.before args0 about1 = true := by decide +kernel
set_option maxRecDepth 65536 in
theorem w_case : (Jvm.Cond.and given_1 narrow_1).before args0 about1 = true := by decide +kernel
set_option maxRecDepth 65536 in
theorem w_consts : constsHeld consts_1 about1 := Jvm.Lit.constsHeldB_iff.mp (by decide +kernel)
theorem w_applies : (headSpec (Jvm.Cond.code x code maxLocals ret :: tables_1) room_1).applies x e0.platform about1 = true :=
  (Spec.applies_iff w_frames).mpr ⟨w_running, w_runnable, w_alone, w_named, w_hears, w_ripe, w_room, w_tables⟩
theorem atStart : AtStart classFile x code maxLocals ret World_1 tables_1 room_1 Calls_1 rest_1 Pre_1 launch0 p0 e0 about1 theMethod args0 below0 :=
  ⟨lists_1, trivial, launch0.admits_env _ _ _, launch0.least_env, fairChoices_fair.cas, fairChoices_fair.clock, w_frames, w_args, w_heap, w_applies, ⟨(by decide +kernel : framesKnown about1 = true), ⟨(by decide +kernel : tablesKnown about1 = true), ⟨w_consts, trivial⟩⟩⟩, w_rest, w_case⟩
end start1
theorem witness_1 : WitnessClaimed_1 := ⟨start1.p0, start1.e0, start1.about1, start1.theMethod, start1.args0, start1.below0, start1.atStart⟩
end Jvm.Pilot.@@N@@
