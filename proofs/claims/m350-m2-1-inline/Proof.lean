import JvmDerived
import JvmDerived.Pilot.@@N@@Statement
import JvmDerived.Pilot.@@N@@Code
set_option linter.unusedVariables false
set_option linter.unusedSimpArgs false
namespace Jvm.Own
open Jvm Jvm.ClassFile Sem Op Lib Jvm.Free Jvm.Stand Jvm.LawKit Jvm.RoadKit
/-! OWN KIT 1: a walk as a weakest precondition. 'Go pc L st h ss k n': from any state of this invocation that stands at pc with locals L, stack st, heap h, the writable addresses ss, k cells and n slots made so far, the run ends as Q says. -/
abbrev IV : Type := Program × Launch × Env × Room × State × MethodId × Array Value × List Frame × Method × Code
abbrev IV.p (K : IV) : Program := K.1
abbrev IV.l (K : IV) : Launch := K.2.1
abbrev IV.e (K : IV) : Env := K.2.2.1
abbrev IV.R (K : IV) : Room := K.2.2.2.1
abbrev IV.s (K : IV) : State := K.2.2.2.2.1
abbrev IV.m (K : IV) : MethodId := K.2.2.2.2.2.1
abbrev IV.args (K : IV) : Array Value := K.2.2.2.2.2.2.1
abbrev IV.below (K : IV) : List Frame := K.2.2.2.2.2.2.2.1
abbrev IV.meth (K : IV) : Method := K.2.2.2.2.2.2.2.2.1
abbrev IV.c (K : IV) : Code := K.2.2.2.2.2.2.2.2.2
def Sf (Z : State) (EL : List (String × Nat)) (n0 : Nat) (vm : Vm) (h : Heap) (ss0 : List Addr) (h0 : Heap) (ss : List Addr) : Prop := ∀ x ∈ ss, n0 ≤ x ∧ x < h.size ∧ Safe Z EL vm h x ∧ (x ∈ ss0 ∨ h0.size ≤ x)
def EndW (w : Bool) (s : State) (o : Outcome) (t : State) (L : List Loc) (k n : Nat) : Prop := match w with
  | true => ReturnedEndW s o t L k n
  | false => FrameEnd s o t L k n
def Here (w : Bool) (K : IV) (Z : State) (EL : List (String × Nat)) (n0 : Nat) (ss0 : List Addr) (T : State) (h : Heap) (ss : List Addr) (k n : Nat) : Prop :=
  ∃ (vm0 : Vm) (locs : List Loc) (k0 : Nat), Stand K.p K.l K.e K.R (K.s.setVm vm0) K.m K.args K.below K.meth K.c T locs k n ∧ Fr n0 locs ∧ T.heap = h ∧ K.s.Since vm0 k0 ∧ k0 ≤ h.size ∧ Z.Warmed39 vm0 ∧ (w = false → vm0 = K.s.vm) ∧ CHr Z EL K.s.vm K.s.heap vm0 h ∧ Sf Z EL n0 vm0 h ss0 K.s.heap ss ∧ Old Z n0 h ∧ Keep K.s.heap h ss0
def Fns (w : Bool) (K : IV) (Z : State) (EL : List (String × Nat)) (n0 : Nat) (ss0 : List Addr) (Q : Option Value → Heap → List Addr → Prop) (u : State) : Prop :=
  ∃ (t : State) (v : Option Value) (L : List Loc) (gs : List Addr), Steps K.p.tables K.e K.below u t ∧ t.status = .running ∧ Ended t K.below (.returned v) ∧ Q v t.heap gs ∧ Fr n0 L ∧ CHr Z EL K.s.vm K.s.heap t.vm t.heap ∧ Keep K.s.heap t.heap ss0 ∧ Sf Z EL n0 t.vm t.heap ss0 K.s.heap gs ∧ Old Z n0 t.heap ∧ EndW w K.s (.returned v) t L K.R.cells K.R.slots
def Go (w : Bool) (K : IV) (Z : State) (EL : List (String × Nat)) (n0 : Nat) (ss0 : List Addr) (Q : Option Value → Heap → List Addr → Prop) (pc : Nat) (L : Array Slot) (st : List Value) (h : Heap) (ss : List Addr) (k n : Nat) : Prop :=
  ∀ T, Here w K Z EL n0 ss0 T h ss k n → Fns w K Z EL n0 ss0 Q (T.setTop (mkF K.m pc L st))
def Cx (w : Bool) (K : IV) (Z : State) (a0 : Array Value) (EL : List (String × Nat)) (own : String) (code : ByteArray) (ml : Nat) (rt : Option FieldType) (mn : String) (R : Room) : Prop :=
  K.p.tables.exec = Jvm.exec ∧ K.c.code = code ∧ K.c.maxLocals = ml ∧ K.s.vm.findClass own = some K.m.cls ∧ K.meth.sig.returnType = rt ∧ K.meth.locks = false ∧ K.meth.name = mn ∧ K.R = R ∧ EW Z a0 EL ∧ (w = false → EL = [])
abbrev Rm (f c s l : Nat) : Room := { frames := f, cells := c, slots := s, locals := l }
def Con (w : Bool) (Z : State) (EL : List (String × Nat)) (n0 : Nat) (y : MethodName) (bytes : ByteArray) (ml : Nat) (rt : Option FieldType) (R : Room) (as : List Value) (h0 : Heap) (ss0 : List Addr) (Q : Option Value → Heap → List Addr → Prop) : Prop :=
  ∀ (l : Launch) (ws : List Cond), MetFree l y (head1 (Cond.code y bytes ml rt :: ws) R) (fun a U => a = as.toArray ∧ Z.Warmed39 U.vm ∧ U.heap = h0 ∧ CHv Z EL U.vm h0 ∧ ∀ x ∈ ss0, n0 ≤ x ∧ x < h0.size ∧ Safe Z EL U.vm h0 x) (fun _ _ _ _ _ => True)
    (fun _ U o U' => ∃ (v : Option Value) (L : List Loc) (gs : List Addr), o = .returned v ∧ Q v U'.heap gs ∧ Fr n0 L ∧ CHr Z EL U.vm h0 U'.vm U'.heap ∧ Keep h0 U'.heap ss0 ∧ Sf Z EL n0 U'.vm U'.heap ss0 h0 gs ∧ Old Z n0 U'.heap ∧ EndW w U o U' L R.cells R.slots)
theorem dle {a b : Nat} (h : Nat.ble a b = true) : a ≤ b := Nat.le_of_ble_eq_true h
theorem dlt {a b : Nat} (h : Nat.ble (a + 1) b = true) : a < b := Nat.le_of_ble_eq_true h
section Kit
variable {w : Bool} {K : IV} {Z : State} {a0 : Array Value} {EL : List (String × Nat)} {n0 : Nat} {ss0 ss : List Addr} {Q : Option Value → Heap → List Addr → Prop} {pc pc' pcT : Nat} {L L' : Array Slot} {st st' : List Value} {h h' : Heap} {k n : Nat} {own : String} {code : ByteArray} {ml : Nat} {rt : Option FieldType} {mn : String} {R : Room}
theorem chr_nil {vm vm' : Vm} (q : h.size ≤ h'.size) : CHr Z [] vm h vm' h' := ⟨fun _ hp => absurd hp List.not_mem_nil, q, fun y ⟨p, hp, _⟩ => absurd hp List.not_mem_nil⟩
theorem Fns.steps {u u' : State} (hs : ∀ t, Steps K.p.tables K.e K.below u' t → Steps K.p.tables K.e K.below u t) (F : Fns w K Z EL n0 ss0 Q u') : Fns w K Z EL n0 ss0 Q u := by
  obtain ⟨t, v, L, gs, h1, r⟩ := F
  exact ⟨t, v, L, gs, hs t h1, r⟩
theorem Go.plain (hs : ∀ {T : State}, At T K.m K.c K.below → ∀ t, Steps K.p.tables K.e K.below (T.setTop (mkF K.m pc' L' st')) t → Steps K.p.tables K.e K.below (T.setTop (mkF K.m pc L st)) t) (G : Go w K Z EL n0 ss0 Q pc' L' st' h ss k n) : Go w K Z EL n0 ss0 Q pc L st h ss k n := by
  intro T H
  have H' := H
  obtain ⟨vm0, locs, k0, X, -⟩ := H
  exact Fns.steps (hs X.here) (G T H')
theorem fcl {vm0 : Vm} {k0 : Nat} (C : Cx w K Z a0 EL own code ml rt mn R) (hS : K.s.Since vm0 k0) : vm0.findClass own = some K.m.cls := by
  rw [hS.1.alike.findClass]; exact C.2.2.2.1
/-- a step that moves the tables alone -/
theorem Go.same (C : Cx w K Z a0 EL own code ml rt mn R) (hs : ∀ {T : State} {vm0 : Vm} {locs : List Loc}, Stand K.p K.l K.e K.R (K.s.setVm vm0) K.m K.args K.below K.meth K.c T locs k n → T.heap = h → Z.Warmed39 (K.s.setVm vm0).vm → (K.s.setVm vm0).vm.findClass own = some K.m.cls → Ext Z.heap h →
      ∃ T', Stand K.p K.l K.e K.R (K.s.setVm vm0) K.m K.args K.below K.meth K.c T' locs k n ∧ T'.heap = h ∧ ∀ t, Steps K.p.tables K.e K.below (T'.setTop (mkF K.m pc' L' st')) t → Steps K.p.tables K.e K.below (T.setTop (mkF K.m pc L st)) t)
    (G : Go w K Z EL n0 ss0 Q pc' L' st' h ss k n) : Go w K Z EL n0 ss0 Q pc L st h ss k n := by
  intro T H
  obtain ⟨vm0, locs, k0, X, N, eT, hS, hk, hZ, hv, hC, hF, hO, hK⟩ := H
  obtain ⟨T', X', eT', st'⟩ := hs X eT hZ (fcl C hS) hO.2
  exact Fns.steps st' (G T' ⟨vm0, locs, k0, X', N, eT', hS, hk, hZ, hv, hC, hF, hO, hK⟩)
theorem Sf.ext {vm : Vm} {h0 : Heap} (E : Ext h h') (H : CHv Z EL vm h) (S : Sf Z EL n0 vm h ss0 h0 ss) : Sf Z EL n0 vm h' ss0 h0 ss := fun x hx => by
  obtain ⟨a, b, c, d⟩ := S x hx
  exact ⟨a, Nat.lt_of_lt_of_le b E.1, Safe.ext E H c, d⟩
/-- a step that makes one cell (or more) at the heap's end, the first at h.size -/
theorem Go.grow (C : Cx w K Z a0 EL own code ml rt mn R) {dk dn : Nat} {P : Heap → Prop} (hsz : ∀ h', P h' → h.size < h'.size) (hs : ∀ {T : State} {vm0 : Vm} {locs : List Loc}, Stand K.p K.l K.e K.R (K.s.setVm vm0) K.m K.args K.below K.meth K.c T locs k n → T.heap = h → Z.Warmed39 (K.s.setVm vm0).vm → (K.s.setVm vm0).vm.findClass own = some K.m.cls →
      ∃ T' h', Stand K.p K.l K.e K.R (K.s.setVm vm0) K.m K.args K.below K.meth K.c T' locs (k + dk) (n + dn) ∧ T'.heap = h' ∧ Ext h h' ∧ P h' ∧ ∀ t, Steps K.p.tables K.e K.below (T'.setTop (mkF K.m pc' L' st')) t → Steps K.p.tables K.e K.below (T.setTop (mkF K.m pc L st)) t)
    (G : ∀ h', Keep h h' [] → h.size < h'.size → n0 ≤ h.size → P h' → Go w K Z EL n0 ss0 Q pc' L' st' h' (h.size :: ss) (k + dk) (n + dn)) : Go w K Z EL n0 ss0 Q pc L st h ss k n := by
  intro T H
  obtain ⟨vm0, locs, k0, X, N, eT, hS, hk, hZ, hv, hC, hF, hO, hK⟩ := H
  obtain ⟨T', h', X', eT', E, hP, st'⟩ := hs X eT hZ (fcl C hS)
  have hn0 : n0 ≤ h.size := hO.1 ▸ hO.2.1
  refine Fns.steps st' (G h' ((Keep.refl h []).ext E) (hsz _ hP) hn0 hP T' ⟨vm0, locs, k0, X', N, eT', hS, Nat.le_trans hk E.1, hZ, hv, hC.trans (CHr.ext E hC.1), ?_, hO.ext E, hK.ext E⟩)
  intro x hx
  rcases List.mem_cons.mp hx with rfl | hx
  · exact ⟨hn0, hsz _ hP, Safe.ext E hC.1 (Safe.new (Nat.le_refl _)), Or.inr hK.1⟩
  · exact hF.ext E hC.1 x hx
/-- a step that writes one slot of a writable cell -/
theorem Go.write (C : Cx w K Z a0 EL own code ml rt mn R) {a : Addr} {sl : Nat} {v : Value} (ha : a ∈ ss) (hs : ∀ {T : State} {vm0 : Vm} {locs : List Loc}, Stand K.p K.l K.e K.R (K.s.setVm vm0) K.m K.args K.below K.meth K.c T locs k n → T.heap = h → Z.Warmed39 (K.s.setVm vm0).vm → (K.s.setVm vm0).vm.findClass own = some K.m.cls →
      ∃ T' h', Stand K.p K.l K.e K.R (K.s.setVm vm0) K.m K.args K.below K.meth K.c T' (locs ++ [⟨a, sl⟩]) k n ∧ T'.heap = h' ∧ Wr h h' a sl v ∧ ∀ t, Steps K.p.tables K.e K.below (T'.setTop (mkF K.m pc' L' st')) t → Steps K.p.tables K.e K.below (T.setTop (mkF K.m pc L st)) t)
    (G : ∀ h', Wr h h' a sl v → Go w K Z EL n0 ss0 Q pc' L' st' h' ss k n) : Go w K Z EL n0 ss0 Q pc L st h ss k n := by
  intro T H
  obtain ⟨vm0, locs, k0, X, N, eT, hS, hk, hZ, hv, hC, hF, hO, hK⟩ := H
  obtain ⟨T', h', X', eT', W, st'⟩ := hs X eT hZ (fcl C hS)
  obtain ⟨f1, f2, f3, f4⟩ := hF a ha
  refine Fns.steps st' (G h' W T' ⟨vm0, _, k0, X', Fr.snoc X' N f1, eT', hS, by rw [W.size]; exact hk, hZ, hv, hC.trans (CHr.wr W f3 hC.1), ?_, hO.wr W f1, hK.wr W f4⟩)
  intro x hx
  obtain ⟨g1, g2, g3, g4⟩ := hF x hx
  exact ⟨g1, by rw [W.size]; exact g2, Safe.wr W f3 hC.1 g3, g4⟩
/-- the end -/
theorem Go.leave (C : Cx w K Z a0 EL own code ml rt mn R) {v : Option Value} {gs : List Addr} (hv : rt = none → v = none) (hs : ∀ {T : State} {vm0 : Vm} {locs : List Loc}, Stand K.p K.l K.e K.R (K.s.setVm vm0) K.m K.args K.below K.meth K.c T locs k n → ∀ {fs : List Frame}, (∀ (f : JFrame) (acts : List Action), f.method = K.m → f.locked = none → f.entered = [] → (doReturn K.e (T.setTop f) acts v).1 = T.setFrames fs) →
      Steps K.p.tables K.e K.below (T.setTop (mkF K.m pc L st)) (T.setFrames fs)) (hQ : Q v h gs) (hg : ∀ x ∈ gs, x ∈ ss) (hc : k ≤ R.cells) (hn : n ≤ R.slots) : Go w K Z EL n0 ss0 Q pc L st h ss k n := by
  intro T H
  obtain ⟨vm0, locs, k0, X, N, eT, hS, hk, hZ, hw, hC, hF, hO, hK⟩ := H
  have hlk : K.meth.locks = false := C.2.2.2.2.2.1
  have hR : K.R = R := C.2.2.2.2.2.2.2.1
  have hrt : K.meth.sig.returnType = rt := C.2.2.2.2.1
  have A := CHv.at X hZ C.2.2.2.2.2.2.2.2.1 hC.1
  have hvm : ∀ fs, (T.setFrames fs).vm = T.vm := fun _ => rfl
  have hhp : ∀ fs, (T.setFrames fs).heap = h := fun _ => eT
  obtain ⟨fs, r1, r2, r3, r4, r5⟩ := X.leave (v := v) (fun q => hv (hrt ▸ q)) hlk
  refine ⟨T.setFrames fs, v, locs, gs, hs X r1, r2, r3, by rw [hhp]; exact hQ, N, by rw [hhp, hvm]; exact hC.trans A, by rw [hhp]; exact hK, ?_, by rw [hhp]; exact hO, ?_⟩
  · rw [hhp, hvm]
    intro x hx
    obtain ⟨g1, g2, g3, g4⟩ := hF x (hg x hx)
    exact ⟨g1, g2, A.safe g2 g3, g4⟩
  · cases w with
    | false =>
      obtain rfl := hw rfl
      exact ⟨⟨_, rfl⟩, r4, r5.mono (by rw [hR]; exact hc) (by rw [hR]; exact hn)⟩
    | true =>
      obtain ⟨a, b, c'⟩ := hS.ended (U := T.setFrames fs) r4 (by rw [hhp]; exact hk) r5
      exact ⟨⟨_, rfl⟩, a, b, c'.mono (by rw [hR]; exact hc) (by rw [hR]; exact hn)⟩
/-- a body's walk gives its contract -/
theorem Con.of {y : MethodName} {bytes : ByteArray} {as : List Value} {h0 : Heap} {L0 : Array Slot} (hpn : plainFor y = true) (hE : EW Z a0 EL) (hwE : w = false → EL = []) (hO : Old Z n0 h0) (hef : ∀ m, entryFrame m as.toArray ml = mkF m 0 L0 [])
    (B : ∀ K : IV, Cx w K Z a0 EL y.cls bytes ml rt y.name R → K.s.heap = h0 → Go w K Z EL n0 ss0 Q 0 L0 [] h0 ss0 0 0) : Con w Z EL n0 y bytes ml rt R as h0 ss0 Q := by
  intro l ws
  refine MetFree.of_bodySF hpn hisR ?_
  intro p e s m args below meth c s₁ Bd hml0 hP hK
  obtain ⟨rfl, hZ, hh, hCH, hss⟩ := hP
  have X0 : Stand p l e R s m as.toArray below meth c s₁ [] 0 0 := Stand.of_body Bd
  have e0 : s₁.heap = h0 := by rw [← hh, Bd.state]; rfl
  obtain ⟨t, v, L, gs, r1, r2, r3, r4, r5, r6, r7, r8, r9, r10⟩ := B (p, l, e, R, s, m, as.toArray, below, meth, c)
    ⟨Bd.exec, Bd.bytes, hml0, findClass_of_methodNamed Bd.named, Bd.returns, BodyLoose.notSynchronized Bd, (name_of_methodNamed Bd.named Bd.method).1, rfl, hE, hwE⟩ hh s₁
    ⟨s.vm, [], s.heap.size, X0, Fr.nil n0, e0, State.WarmedH.since (State.WarmedH.refl s) _, by rw [hh]; exact Nat.le_refl _, hZ, fun _ => rfl, by show CHr Z EL s.vm s.heap s.vm h0; rw [hh]; exact CHr.refl hCH, fun x hx => ⟨(hss x hx).1, (hss x hx).2.1, (hss x hx).2.2, Or.inl hx⟩, hO, by show Keep s.heap h0 ss0; rw [hh]; exact Keep.refl _ _⟩
  refine ⟨t, _, castTop (hef m) r1, r2, r3, v, L, gs, rfl, r4, r5, ?_, ?_, ?_, r9, r10⟩
  · rw [← hh]; exact r6
  · rw [← hh]; exact r7
  · rw [← hh]; exact r8
end Kit
end Jvm.Own
namespace Jvm.Own
open Jvm Jvm.ClassFile Sem Op Lib Jvm.Free Jvm.Stand Jvm.LawKit Jvm.RoadKit
def Dc (code : ByteArray) (pc : Nat) (i : Instr) (len pc' : Nat) : Prop := decode code pc = .ok (i, len) ∧ pc + len = pc'
def Db (code : ByteArray) (pc : Nat) (i : Instr) (len pc' : Nat) (o : Int) (pcT : Nat) : Prop := decode code pc = .ok (i, len) ∧ pc + len = pc' ∧ 0 ≤ (pc : Int) + o ∧ ((pc : Int) + o).toNat = pcT
/-- Java's x >>> y -/
def ushr (x y : Int32) : Int32 := (x.toUInt32 >>> (y &&& 31).toUInt32).toInt32
def ushrL (x : Int64) (y : Int32) : Int64 := (x.toUInt64 >>> (y &&& 0x3f).toInt64.toUInt64).toInt64
section Ops
variable {w : Bool} {K : IV} {Z : State} {a0 : Array Value} {EL : List (String × Nat)} {n0 : Nat} {ss0 ss : List Addr} {Q : Option Value → Heap → List Addr → Prop} {pc pc' pcT : Nat} {L L' : Array Slot} {st st' : List Value} {h h' : Heap} {k n : Nat} {own : String} {code : ByteArray} {ml : Nat} {rt : Option FieldType} {mn : String} {rf rc rs rl : Nat}
theorem irem_mod (x y : Int32) : x - (x / y) * y = x % y := by
  apply Int32.toInt_inj.mp
  have h1 := Int32.le_toInt (x % y)
  have h2 := Int32.toInt_lt (x % y)
  rw [Int32.toInt_sub, Int32.toInt_mul, Int32.toInt_div, Int.bmod_mul_bmod, Int.sub_bmod_bmod, Int.mul_comm (x.toInt.tdiv y.toInt), ← Int.tmod_def, ← Int32.toInt_mod]
  exact Int.bmod_eq_of_le_mul_two (by omega) (by omega)
theorem iadd (C : Cx w K Z a0 EL own code ml rt mn (Rm rf rc rs rl)) {x y : Int32} (d : Dc code pc .iadd 1 pc')  (G : Go w K Z EL n0 ss0 Q pc' L (.int (x + y) :: st) h ss k n) : Go w K Z EL n0 ss0 Q pc L (.int y :: .int x :: st) h ss k n := by
  obtain ⟨d1, rfl⟩ := d
  exact Go.plain (fun X t r => XS.iadd X C.1 rfl (hb C.2.1 d1) rfl r) G
theorem isub (C : Cx w K Z a0 EL own code ml rt mn (Rm rf rc rs rl)) {x y : Int32} (d : Dc code pc .isub 1 pc')  (G : Go w K Z EL n0 ss0 Q pc' L (.int (x - y) :: st) h ss k n) : Go w K Z EL n0 ss0 Q pc L (.int y :: .int x :: st) h ss k n := by
  obtain ⟨d1, rfl⟩ := d
  exact Go.plain (fun X t r => XS.isub X C.1 rfl (hb C.2.1 d1) rfl r) G
theorem imul (C : Cx w K Z a0 EL own code ml rt mn (Rm rf rc rs rl)) {x y : Int32} (d : Dc code pc .imul 1 pc')  (G : Go w K Z EL n0 ss0 Q pc' L (.int (x * y) :: st) h ss k n) : Go w K Z EL n0 ss0 Q pc L (.int y :: .int x :: st) h ss k n := by
  obtain ⟨d1, rfl⟩ := d
  exact Go.plain (fun X t r => XS.imul X C.1 rfl (hb C.2.1 d1) rfl r) G
theorem iand (C : Cx w K Z a0 EL own code ml rt mn (Rm rf rc rs rl)) {x y : Int32} (d : Dc code pc .iand 1 pc')  (G : Go w K Z EL n0 ss0 Q pc' L (.int (x &&& y) :: st) h ss k n) : Go w K Z EL n0 ss0 Q pc L (.int y :: .int x :: st) h ss k n := by
  obtain ⟨d1, rfl⟩ := d
  exact Go.plain (fun X t r => XS.iand X C.1 rfl (hb C.2.1 d1) rfl r) G
theorem ior (C : Cx w K Z a0 EL own code ml rt mn (Rm rf rc rs rl)) {x y : Int32} (d : Dc code pc .ior 1 pc')  (G : Go w K Z EL n0 ss0 Q pc' L (.int (x ||| y) :: st) h ss k n) : Go w K Z EL n0 ss0 Q pc L (.int y :: .int x :: st) h ss k n := by
  obtain ⟨d1, rfl⟩ := d
  exact Go.plain (fun X t r => XS.ior X C.1 rfl (hb C.2.1 d1) rfl r) G
theorem ixor (C : Cx w K Z a0 EL own code ml rt mn (Rm rf rc rs rl)) {x y : Int32} (d : Dc code pc .ixor 1 pc')  (G : Go w K Z EL n0 ss0 Q pc' L (.int (x ^^^ y) :: st) h ss k n) : Go w K Z EL n0 ss0 Q pc L (.int y :: .int x :: st) h ss k n := by
  obtain ⟨d1, rfl⟩ := d
  exact Go.plain (fun X t r => XS.ixor X C.1 rfl (hb C.2.1 d1) rfl r) G
theorem ishl (C : Cx w K Z a0 EL own code ml rt mn (Rm rf rc rs rl)) {x y : Int32} (d : Dc code pc .ishl 1 pc')  (G : Go w K Z EL n0 ss0 Q pc' L (.int (x <<< (y &&& 31)) :: st) h ss k n) : Go w K Z EL n0 ss0 Q pc L (.int y :: .int x :: st) h ss k n := by
  obtain ⟨d1, rfl⟩ := d
  exact Go.plain (fun X t r => XS.ishl X C.1 rfl (hb C.2.1 d1) rfl r) G
theorem ishr (C : Cx w K Z a0 EL own code ml rt mn (Rm rf rc rs rl)) {x y : Int32} (d : Dc code pc .ishr 1 pc')  (G : Go w K Z EL n0 ss0 Q pc' L (.int (x >>> (y &&& 31)) :: st) h ss k n) : Go w K Z EL n0 ss0 Q pc L (.int y :: .int x :: st) h ss k n := by
  obtain ⟨d1, rfl⟩ := d
  exact Go.plain (fun X t r => XS.ishr X C.1 rfl (hb C.2.1 d1) rfl r) G
theorem iushr (C : Cx w K Z a0 EL own code ml rt mn (Rm rf rc rs rl)) {x y : Int32} (d : Dc code pc .iushr 1 pc')  (G : Go w K Z EL n0 ss0 Q pc' L (.int (ushr x y) :: st) h ss k n) : Go w K Z EL n0 ss0 Q pc L (.int y :: .int x :: st) h ss k n := by
  obtain ⟨d1, rfl⟩ := d
  exact Go.plain (fun X t r => XS.iushr X C.1 rfl (hb C.2.1 d1) rfl r) G
theorem ladd (C : Cx w K Z a0 EL own code ml rt mn (Rm rf rc rs rl)) {x y : Int64} (d : Dc code pc .ladd 1 pc')  (G : Go w K Z EL n0 ss0 Q pc' L (.long (x + y) :: st) h ss k n) : Go w K Z EL n0 ss0 Q pc L (.long y :: .long x :: st) h ss k n := by
  obtain ⟨d1, rfl⟩ := d
  exact Go.plain (fun X t r => XS.ladd X C.1 rfl (hb C.2.1 d1) rfl r) G
theorem lsub (C : Cx w K Z a0 EL own code ml rt mn (Rm rf rc rs rl)) {x y : Int64} (d : Dc code pc .lsub 1 pc')  (G : Go w K Z EL n0 ss0 Q pc' L (.long (x - y) :: st) h ss k n) : Go w K Z EL n0 ss0 Q pc L (.long y :: .long x :: st) h ss k n := by
  obtain ⟨d1, rfl⟩ := d
  exact Go.plain (fun X t r => XS.lsub X C.1 rfl (hb C.2.1 d1) rfl r) G
theorem lmul (C : Cx w K Z a0 EL own code ml rt mn (Rm rf rc rs rl)) {x y : Int64} (d : Dc code pc .lmul 1 pc')  (G : Go w K Z EL n0 ss0 Q pc' L (.long (x * y) :: st) h ss k n) : Go w K Z EL n0 ss0 Q pc L (.long y :: .long x :: st) h ss k n := by
  obtain ⟨d1, rfl⟩ := d
  exact Go.plain (fun X t r => XS.lmul X C.1 rfl (hb C.2.1 d1) rfl r) G
theorem land (C : Cx w K Z a0 EL own code ml rt mn (Rm rf rc rs rl)) {x y : Int64} (d : Dc code pc .land 1 pc')  (G : Go w K Z EL n0 ss0 Q pc' L (.long (x &&& y) :: st) h ss k n) : Go w K Z EL n0 ss0 Q pc L (.long y :: .long x :: st) h ss k n := by
  obtain ⟨d1, rfl⟩ := d
  exact Go.plain (fun X t r => XS.land X C.1 rfl (hb C.2.1 d1) rfl r) G
theorem lor (C : Cx w K Z a0 EL own code ml rt mn (Rm rf rc rs rl)) {x y : Int64} (d : Dc code pc .lor 1 pc')  (G : Go w K Z EL n0 ss0 Q pc' L (.long (x ||| y) :: st) h ss k n) : Go w K Z EL n0 ss0 Q pc L (.long y :: .long x :: st) h ss k n := by
  obtain ⟨d1, rfl⟩ := d
  exact Go.plain (fun X t r => XS.lor X C.1 rfl (hb C.2.1 d1) rfl r) G
theorem lushr (C : Cx w K Z a0 EL own code ml rt mn (Rm rf rc rs rl)) {x : Int64} {y : Int32} (d : Dc code pc .lushr 1 pc')  (G : Go w K Z EL n0 ss0 Q pc' L (.long (ushrL x y) :: st) h ss k n) : Go w K Z EL n0 ss0 Q pc L (.int y :: .long x :: st) h ss k n := by
  obtain ⟨d1, rfl⟩ := d
  exact Go.plain (fun X t r => XS.lushr X C.1 rfl (hb C.2.1 d1) rfl r) G
theorem idiv (C : Cx w K Z a0 EL own code ml rt mn (Rm rf rc rs rl)) {x y : Int32} (d : Dc code pc .idiv 1 pc') (hy : y ≠ 0) (G : Go w K Z EL n0 ss0 Q pc' L (.int (x / y) :: st) h ss k n) : Go w K Z EL n0 ss0 Q pc L (.int y :: .int x :: st) h ss k n := by
  obtain ⟨d1, rfl⟩ := d
  exact Go.plain (fun X t r => XS.idiv X C.1 rfl (hb C.2.1 d1) rfl hy r) G
theorem irem (C : Cx w K Z a0 EL own code ml rt mn (Rm rf rc rs rl)) {x y : Int32} (d : Dc code pc .irem 1 pc') (hy : y ≠ 0) (G : Go w K Z EL n0 ss0 Q pc' L (.int (x % y) :: st) h ss k n) : Go w K Z EL n0 ss0 Q pc L (.int y :: .int x :: st) h ss k n := by
  obtain ⟨d1, rfl⟩ := d
  rw [← irem_mod] at G
  exact Go.plain (fun X t r => XS.irem X C.1 rfl (hb C.2.1 d1) rfl hy r) G
theorem lrem (C : Cx w K Z a0 EL own code ml rt mn (Rm rf rc rs rl)) {x y : Int64} (d : Dc code pc .lrem 1 pc') (hy : y ≠ 0) (G : Go w K Z EL n0 ss0 Q pc' L (.long (x % y) :: st) h ss k n) : Go w K Z EL n0 ss0 Q pc L (.long y :: .long x :: st) h ss k n := by
  obtain ⟨d1, rfl⟩ := d
  rw [← lrem_mod] at G
  exact Go.plain (fun X t r => XS.lrem X C.1 rfl (hb C.2.1 d1) rfl hy r) G
theorem lcmp (C : Cx w K Z a0 EL own code ml rt mn (Rm rf rc rs rl)) {x y : Int64} (d : Dc code pc .lcmp 1 pc')  (G : Go w K Z EL n0 ss0 Q pc' L (.int (lcmpW x y) :: st) h ss k n) : Go w K Z EL n0 ss0 Q pc L (.long y :: .long x :: st) h ss k n := by
  obtain ⟨d1, rfl⟩ := d
  exact Go.plain (fun X t r => XS.lcmp X C.1 rfl (hb C.2.1 d1) rfl r) G
theorem ineg (C : Cx w K Z a0 EL own code ml rt mn (Rm rf rc rs rl)) {x : Int32} (d : Dc code pc .ineg 1 pc')  (G : Go w K Z EL n0 ss0 Q pc' L (.int (-x) :: st) h ss k n) : Go w K Z EL n0 ss0 Q pc L (.int x :: st) h ss k n := by
  obtain ⟨d1, rfl⟩ := d
  exact Go.plain (fun X t r => XS.ineg X C.1 rfl (hb C.2.1 d1) rfl r) G
theorem l2i (C : Cx w K Z a0 EL own code ml rt mn (Rm rf rc rs rl)) {x : Int64} (d : Dc code pc .l2i 1 pc')  (G : Go w K Z EL n0 ss0 Q pc' L (.int x.toInt32 :: st) h ss k n) : Go w K Z EL n0 ss0 Q pc L (.long x :: st) h ss k n := by
  obtain ⟨d1, rfl⟩ := d
  exact Go.plain (fun X t r => XS.l2i X C.1 rfl (hb C.2.1 d1) rfl r) G
theorem i2l (C : Cx w K Z a0 EL own code ml rt mn (Rm rf rc rs rl)) {x : Int32} (d : Dc code pc .i2l 1 pc')  (G : Go w K Z EL n0 ss0 Q pc' L (.long x.toInt64 :: st) h ss k n) : Go w K Z EL n0 ss0 Q pc L (.int x :: st) h ss k n := by
  obtain ⟨d1, rfl⟩ := d
  exact Go.plain (fun X t r => XS.i2l X C.1 rfl (hb C.2.1 d1) rfl r) G
theorem i2c (C : Cx w K Z a0 EL own code ml rt mn (Rm rf rc rs rl)) {x : Int32} (d : Dc code pc .i2c 1 pc')  (G : Go w K Z EL n0 ss0 Q pc' L (.int (nar .char x) :: st) h ss k n) : Go w K Z EL n0 ss0 Q pc L (.int x :: st) h ss k n := by
  obtain ⟨d1, rfl⟩ := d
  exact Go.plain (fun X t r => XS.i2c X C.1 rfl (hb C.2.1 d1) rfl r) G
theorem i2b (C : Cx w K Z a0 EL own code ml rt mn (Rm rf rc rs rl)) {x : Int32} (d : Dc code pc .i2b 1 pc')  (G : Go w K Z EL n0 ss0 Q pc' L (.int (nar .byte x) :: st) h ss k n) : Go w K Z EL n0 ss0 Q pc L (.int x :: st) h ss k n := by
  obtain ⟨d1, rfl⟩ := d
  exact Go.plain (fun X t r => XS.i2b X C.1 rfl (hb C.2.1 d1) rfl r) G
theorem i2s (C : Cx w K Z a0 EL own code ml rt mn (Rm rf rc rs rl)) {x : Int32} (d : Dc code pc .i2s 1 pc')  (G : Go w K Z EL n0 ss0 Q pc' L (.int (nar .short x) :: st) h ss k n) : Go w K Z EL n0 ss0 Q pc L (.int x :: st) h ss k n := by
  obtain ⟨d1, rfl⟩ := d
  exact Go.plain (fun X t r => XS.i2s X C.1 rfl (hb C.2.1 d1) rfl r) G
theorem dup (C : Cx w K Z a0 EL own code ml rt mn (Rm rf rc rs rl)) {x : Value} (d : Dc code pc .dup 1 pc') (hc : x.category = 1) (G : Go w K Z EL n0 ss0 Q pc' L (x :: x :: st) h ss k n) : Go w K Z EL n0 ss0 Q pc L (x :: st) h ss k n := by
  obtain ⟨d1, rfl⟩ := d
  exact Go.plain (fun X t r => XS.dup X C.1 rfl (hb C.2.1 d1) rfl hc r) G
theorem pop (C : Cx w K Z a0 EL own code ml rt mn (Rm rf rc rs rl)) {x : Value} (d : Dc code pc .pop 1 pc') (hc : x.category = 1) (G : Go w K Z EL n0 ss0 Q pc' L st h ss k n) : Go w K Z EL n0 ss0 Q pc L (x :: st) h ss k n := by
  obtain ⟨d1, rfl⟩ := d
  exact Go.plain (fun X t r => XS.pop X C.1 rfl (hb C.2.1 d1) rfl hc r) G
theorem dupX1 (C : Cx w K Z a0 EL own code ml rt mn (Rm rf rc rs rl)) {x y : Value} (d : Dc code pc .dup_x1 1 pc') (hc : x.category = 1) (hc' : y.category = 1) (G : Go w K Z EL n0 ss0 Q pc' L (x :: y :: x :: st) h ss k n) : Go w K Z EL n0 ss0 Q pc L (x :: y :: st) h ss k n := by
  obtain ⟨d1, rfl⟩ := d
  exact Go.plain (fun X t r => XS.dupX1 X C.1 rfl (hb C.2.1 d1) rfl hc hc' r) G
theorem dup2 (C : Cx w K Z a0 EL own code ml rt mn (Rm rf rc rs rl)) {x y : Value} (d : Dc code pc .dup2 1 pc') (hc : x.category = 1) (hc' : y.category = 1) (G : Go w K Z EL n0 ss0 Q pc' L (x :: y :: x :: y :: st) h ss k n) : Go w K Z EL n0 ss0 Q pc L (x :: y :: st) h ss k n := by
  obtain ⟨d1, rfl⟩ := d
  exact Go.plain (fun X t r => XT.dup2 X C.1 rfl (hb C.2.1 d1) rfl hc hc' r) G
theorem aconstNull (C : Cx w K Z a0 EL own code ml rt mn (Rm rf rc rs rl))  (d : Dc code pc .aconst_null 1 pc')  (G : Go w K Z EL n0 ss0 Q pc' L (.null :: st) h ss k n) : Go w K Z EL n0 ss0 Q pc L st h ss k n := by
  obtain ⟨d1, rfl⟩ := d
  exact Go.plain (fun X t r => XS.aconstNull X C.1 rfl (hb C.2.1 d1)  r) G
theorem iconst (C : Cx w K Z a0 EL own code ml rt mn (Rm rf rc rs rl)) {i : Int} {v : Int32} (d : Dc code pc (.iconst i) 1 pc') (hv : Int32.ofInt i = v) (G : Go w K Z EL n0 ss0 Q pc' L (.int v :: st) h ss k n) : Go w K Z EL n0 ss0 Q pc L st h ss k n := by
  obtain ⟨d1, rfl⟩ := d
  subst hv
  exact Go.plain (fun X t r => XS.iconst X C.1 rfl (hb C.2.1 d1) r) G
theorem bipush (C : Cx w K Z a0 EL own code ml rt mn (Rm rf rc rs rl)) {i : Int} {v : Int32} (d : Dc code pc (.bipush i) 2 pc') (hv : (Int8.ofInt i).toInt32 = v) (G : Go w K Z EL n0 ss0 Q pc' L (.int v :: st) h ss k n) : Go w K Z EL n0 ss0 Q pc L st h ss k n := by
  obtain ⟨d1, rfl⟩ := d
  subst hv
  exact Go.plain (fun X t r => XS.bipush X C.1 rfl (hb C.2.1 d1) r) G
theorem sipush (C : Cx w K Z a0 EL own code ml rt mn (Rm rf rc rs rl)) {i : Int} {v : Int32} (d : Dc code pc (.sipush i) 3 pc') (hv : (Int16.ofInt i).toInt32 = v) (G : Go w K Z EL n0 ss0 Q pc' L (.int v :: st) h ss k n) : Go w K Z EL n0 ss0 Q pc L st h ss k n := by
  obtain ⟨d1, rfl⟩ := d
  subst hv
  exact Go.plain (fun X t r => XS.sipush X C.1 rfl (hb C.2.1 d1) r) G
theorem lconst (C : Cx w K Z a0 EL own code ml rt mn (Rm rf rc rs rl)) {i : Fin 2} {v : Int64} (d : Dc code pc (.lconst i) 1 pc') (hv : Int64.ofNat i = v) (G : Go w K Z EL n0 ss0 Q pc' L (.long v :: st) h ss k n) : Go w K Z EL n0 ss0 Q pc L st h ss k n := by
  obtain ⟨d1, rfl⟩ := d
  subst hv
  exact Go.plain (fun X t r => XS.lconst X C.1 rfl (hb C.2.1 d1) r) G
theorem iloadN (C : Cx w K Z a0 EL own code ml rt mn (Rm rf rc rs rl)) {j : Fin 4} {v : Int32} (d : Dc code pc (.iload_n j) 1 pc') (hl : L[j.val]? = some (.val (.int v))) (G : Go w K Z EL n0 ss0 Q pc' L (.int v :: st) h ss k n) : Go w K Z EL n0 ss0 Q pc L st h ss k n := by
  obtain ⟨d1, rfl⟩ := d
  exact Go.plain (fun X t r => XS.iloadN X C.1 rfl (hb C.2.1 d1) hl r) G
theorem iload (C : Cx w K Z a0 EL own code ml rt mn (Rm rf rc rs rl)) {j : Nat} {v : Int32} (d : Dc code pc (.iload j) 2 pc') (hl : L[j]? = some (.val (.int v))) (G : Go w K Z EL n0 ss0 Q pc' L (.int v :: st) h ss k n) : Go w K Z EL n0 ss0 Q pc L st h ss k n := by
  obtain ⟨d1, rfl⟩ := d
  exact Go.plain (fun X t r => XS.iload X C.1 rfl (hb C.2.1 d1) hl r) G
theorem lloadN (C : Cx w K Z a0 EL own code ml rt mn (Rm rf rc rs rl)) {j : Fin 4} {v : Int64} (d : Dc code pc (.lload_n j) 1 pc') (hl : L[j.val]? = some (.val (.long v))) (G : Go w K Z EL n0 ss0 Q pc' L (.long v :: st) h ss k n) : Go w K Z EL n0 ss0 Q pc L st h ss k n := by
  obtain ⟨d1, rfl⟩ := d
  exact Go.plain (fun X t r => XS.lloadN X C.1 rfl (hb C.2.1 d1) hl r) G
theorem lload (C : Cx w K Z a0 EL own code ml rt mn (Rm rf rc rs rl)) {j : Nat} {v : Int64} (d : Dc code pc (.lload j) 2 pc') (hl : L[j]? = some (.val (.long v))) (G : Go w K Z EL n0 ss0 Q pc' L (.long v :: st) h ss k n) : Go w K Z EL n0 ss0 Q pc L st h ss k n := by
  obtain ⟨d1, rfl⟩ := d
  exact Go.plain (fun X t r => XS.lload X C.1 rfl (hb C.2.1 d1) hl r) G
theorem aloadN (C : Cx w K Z a0 EL own code ml rt mn (Rm rf rc rs rl)) {j : Fin 4} {v : Value} (d : Dc code pc (.aload_n j) 1 pc') (hl : L[j.val]? = some (.val v)) (hv : v.isRef = true) (G : Go w K Z EL n0 ss0 Q pc' L (v :: st) h ss k n) : Go w K Z EL n0 ss0 Q pc L st h ss k n := by
  obtain ⟨d1, rfl⟩ := d
  exact Go.plain (fun X t r => XS.aloadN X C.1 rfl (hb C.2.1 d1) hl hv r) G
theorem aload (C : Cx w K Z a0 EL own code ml rt mn (Rm rf rc rs rl)) {j : Nat} {v : Value} (d : Dc code pc (.aload j) 2 pc') (hl : L[j]? = some (.val v)) (hv : v.isRef = true) (G : Go w K Z EL n0 ss0 Q pc' L (v :: st) h ss k n) : Go w K Z EL n0 ss0 Q pc L st h ss k n := by
  obtain ⟨d1, rfl⟩ := d
  exact Go.plain (fun X t r => XS.aload X C.1 rfl (hb C.2.1 d1) hl hv r) G
theorem istoreN (C : Cx w K Z a0 EL own code ml rt mn (Rm rf rc rs rl)) {j : Fin 4} {v : Int32} (d : Dc code pc (.istore_n j) 1 pc') (hl : storeLocals L j (.int v) = some L') (G : Go w K Z EL n0 ss0 Q pc' L' st h ss k n) : Go w K Z EL n0 ss0 Q pc L (.int v :: st) h ss k n := by
  obtain ⟨d1, rfl⟩ := d
  exact Go.plain (fun X t r => XS.istoreN X C.1 rfl (hb C.2.1 d1) rfl hl r) G
theorem istore (C : Cx w K Z a0 EL own code ml rt mn (Rm rf rc rs rl)) {j : Nat} {v : Int32} (d : Dc code pc (.istore j) 2 pc') (hl : storeLocals L j (.int v) = some L') (G : Go w K Z EL n0 ss0 Q pc' L' st h ss k n) : Go w K Z EL n0 ss0 Q pc L (.int v :: st) h ss k n := by
  obtain ⟨d1, rfl⟩ := d
  exact Go.plain (fun X t r => XS.istore X C.1 rfl (hb C.2.1 d1) rfl hl r) G
theorem lstoreN (C : Cx w K Z a0 EL own code ml rt mn (Rm rf rc rs rl)) {j : Fin 4} {v : Int64} (d : Dc code pc (.lstore_n j) 1 pc') (hl : storeLocals L j (.long v) = some L') (G : Go w K Z EL n0 ss0 Q pc' L' st h ss k n) : Go w K Z EL n0 ss0 Q pc L (.long v :: st) h ss k n := by
  obtain ⟨d1, rfl⟩ := d
  exact Go.plain (fun X t r => XS.lstoreN X C.1 rfl (hb C.2.1 d1) rfl hl r) G
theorem lstore (C : Cx w K Z a0 EL own code ml rt mn (Rm rf rc rs rl)) {j : Nat} {v : Int64} (d : Dc code pc (.lstore j) 2 pc') (hl : storeLocals L j (.long v) = some L') (G : Go w K Z EL n0 ss0 Q pc' L' st h ss k n) : Go w K Z EL n0 ss0 Q pc L (.long v :: st) h ss k n := by
  obtain ⟨d1, rfl⟩ := d
  exact Go.plain (fun X t r => XS.lstore X C.1 rfl (hb C.2.1 d1) rfl hl r) G
theorem astoreN (C : Cx w K Z a0 EL own code ml rt mn (Rm rf rc rs rl)) {j : Fin 4} {v : Value} (d : Dc code pc (.astore_n j) 1 pc') (hv : v.isRef = true) (hl : storeLocals L j v = some L') (G : Go w K Z EL n0 ss0 Q pc' L' st h ss k n) : Go w K Z EL n0 ss0 Q pc L (v :: st) h ss k n := by
  obtain ⟨d1, rfl⟩ := d
  exact Go.plain (fun X t r => XS.astoreN X C.1 rfl (hb C.2.1 d1) rfl hv hl r) G
theorem astore (C : Cx w K Z a0 EL own code ml rt mn (Rm rf rc rs rl)) {j : Nat} {v : Value} (d : Dc code pc (.astore j) 2 pc') (hv : v.isRef = true) (hl : storeLocals L j v = some L') (G : Go w K Z EL n0 ss0 Q pc' L' st h ss k n) : Go w K Z EL n0 ss0 Q pc L (v :: st) h ss k n := by
  obtain ⟨d1, rfl⟩ := d
  exact Go.plain (fun X t r => XS.astore X C.1 rfl (hb C.2.1 d1) rfl hv hl r) G
theorem iinc (C : Cx w K Z a0 EL own code ml rt mn (Rm rf rc rs rl)) {j : Nat} {cst : Int} {x y : Int32} (d : Dc code pc (.iinc j cst) 3 pc') (hl : L[j]? = some (.val (.int x))) (hy : x + Int32.ofInt cst = y) (hl' : storeLocals L j (.int y) = some L') (G : Go w K Z EL n0 ss0 Q pc' L' st h ss k n) : Go w K Z EL n0 ss0 Q pc L st h ss k n := by
  obtain ⟨d1, rfl⟩ := d
  subst hy
  exact Go.plain (fun X t r => XS.iinc X C.1 rfl (hb C.2.1 d1) hl hl' r) G
theorem goto_ (C : Cx w K Z a0 EL own code ml rt mn (Rm rf rc rs rl)) {o : Int} (d : Db code pc (.goto o) 3 pc' o pcT) (G : Go w K Z EL n0 ss0 Q pcT L st h ss k n) : Go w K Z EL n0 ss0 Q pc L st h ss k n := by
  obtain ⟨d1, rfl, d3, d4⟩ := d
  exact Go.plain (fun X t r => XS.goto X C.1 rfl rfl (hb C.2.1 d1) d3 d4 r) G
theorem cmp_eq {x y : Int32} (q : x = y) : if_icmp.holds .eq x y = true := by simp [if_icmp.holds, q]
theorem cmp_neq {x y : Int32} (q : ¬ x = y) : if_icmp.holds .eq x y = false := by simp [if_icmp.holds, q]
theorem cmp_ne {x y : Int32} (q : ¬ x = y) : if_icmp.holds .ne x y = true := by simp [if_icmp.holds, q]
theorem cmp_nne {x y : Int32} (q : ¬ ¬ x = y) : if_icmp.holds .ne x y = false := by simp [if_icmp.holds, Classical.not_not.mp q]
theorem cmp_lt {x y : Int32} (q : x < y) : if_icmp.holds .lt x y = true := by simp [if_icmp.holds, q]
theorem cmp_nlt {x y : Int32} (q : ¬ x < y) : if_icmp.holds .lt x y = false := by simp [if_icmp.holds, q]
theorem cmp_ge {x y : Int32} (q : ¬ x < y) : if_icmp.holds .ge x y = true := by simp [if_icmp.holds, Int32.not_lt.mp q]
theorem cmp_nge {x y : Int32} (q : ¬ ¬ x < y) : if_icmp.holds .ge x y = false := by simp [if_icmp.holds, Classical.not_not.mp q]
theorem cmp_gt {x y : Int32} (q : y < x) : if_icmp.holds .gt x y = true := by simp [if_icmp.holds, q]
theorem cmp_ngt {x y : Int32} (q : ¬ y < x) : if_icmp.holds .gt x y = false := by simp [if_icmp.holds, q]
theorem cmp_le {x y : Int32} (q : ¬ y < x) : if_icmp.holds .le x y = true := by simp [if_icmp.holds, Int32.not_lt.mp q]
theorem cmp_nle {x y : Int32} (q : ¬ ¬ y < x) : if_icmp.holds .le x y = false := by simp [if_icmp.holds, Classical.not_not.mp q]
theorem icmp_eq (C : Cx w K Z a0 EL own code ml rt mn (Rm rf rc rs rl)) {x y : Int32} {o : Int} (d : Db code pc (.if_icmp .eq o) 3 pc' o pcT) (G1 : x = y → Go w K Z EL n0 ss0 Q pcT L st h ss k n) (G2 : ¬ x = y → Go w K Z EL n0 ss0 Q pc' L st h ss k n) : Go w K Z EL n0 ss0 Q pc L (.int y :: .int x :: st) h ss k n := by
  obtain ⟨d1, rfl, d3, d4⟩ := d
  by_cases q : x = y
  · exact Go.plain (fun X t r => XS.icmpYes X C.1 rfl rfl (hb C.2.1 d1) rfl (cmp_eq q) d3 d4 r) (G1 q)
  · exact Go.plain (fun X t r => XS.icmpNo X C.1 rfl (hb C.2.1 d1) rfl (cmp_neq q) r) (G2 q)
theorem if_eq (C : Cx w K Z a0 EL own code ml rt mn (Rm rf rc rs rl)) {x : Int32} {o : Int} (d : Db code pc (.ifCond .eq o) 3 pc' o pcT) (G1 : x = (0 : Int32) → Go w K Z EL n0 ss0 Q pcT L st h ss k n) (G2 : ¬ x = (0 : Int32) → Go w K Z EL n0 ss0 Q pc' L st h ss k n) : Go w K Z EL n0 ss0 Q pc L (.int x :: st) h ss k n := by
  obtain ⟨d1, rfl, d3, d4⟩ := d
  by_cases q : x = (0 : Int32)
  · exact Go.plain (fun X t r => XS.ifYes X C.1 rfl rfl (hb C.2.1 d1) rfl ((if0 _ _).trans (cmp_eq q)) d3 d4 r) (G1 q)
  · exact Go.plain (fun X t r => XS.ifNo X C.1 rfl (hb C.2.1 d1) rfl ((if0 _ _).trans (cmp_neq q)) r) (G2 q)
theorem icmp_ne (C : Cx w K Z a0 EL own code ml rt mn (Rm rf rc rs rl)) {x y : Int32} {o : Int} (d : Db code pc (.if_icmp .ne o) 3 pc' o pcT) (G1 : ¬ x = y → Go w K Z EL n0 ss0 Q pcT L st h ss k n) (G2 : x = y → Go w K Z EL n0 ss0 Q pc' L st h ss k n) : Go w K Z EL n0 ss0 Q pc L (.int y :: .int x :: st) h ss k n := by
  obtain ⟨d1, rfl, d3, d4⟩ := d
  by_cases q : ¬ x = y
  · exact Go.plain (fun X t r => XS.icmpYes X C.1 rfl rfl (hb C.2.1 d1) rfl (cmp_ne q) d3 d4 r) (G1 q)
  · exact Go.plain (fun X t r => XS.icmpNo X C.1 rfl (hb C.2.1 d1) rfl (cmp_nne q) r) (G2 (Classical.not_not.mp q))
theorem if_ne (C : Cx w K Z a0 EL own code ml rt mn (Rm rf rc rs rl)) {x : Int32} {o : Int} (d : Db code pc (.ifCond .ne o) 3 pc' o pcT) (G1 : ¬ x = (0 : Int32) → Go w K Z EL n0 ss0 Q pcT L st h ss k n) (G2 : x = (0 : Int32) → Go w K Z EL n0 ss0 Q pc' L st h ss k n) : Go w K Z EL n0 ss0 Q pc L (.int x :: st) h ss k n := by
  obtain ⟨d1, rfl, d3, d4⟩ := d
  by_cases q : ¬ x = (0 : Int32)
  · exact Go.plain (fun X t r => XS.ifYes X C.1 rfl rfl (hb C.2.1 d1) rfl ((if0 _ _).trans (cmp_ne q)) d3 d4 r) (G1 q)
  · exact Go.plain (fun X t r => XS.ifNo X C.1 rfl (hb C.2.1 d1) rfl ((if0 _ _).trans (cmp_nne q)) r) (G2 (Classical.not_not.mp q))
theorem icmp_lt (C : Cx w K Z a0 EL own code ml rt mn (Rm rf rc rs rl)) {x y : Int32} {o : Int} (d : Db code pc (.if_icmp .lt o) 3 pc' o pcT) (G1 : x < y → Go w K Z EL n0 ss0 Q pcT L st h ss k n) (G2 : ¬ x < y → Go w K Z EL n0 ss0 Q pc' L st h ss k n) : Go w K Z EL n0 ss0 Q pc L (.int y :: .int x :: st) h ss k n := by
  obtain ⟨d1, rfl, d3, d4⟩ := d
  by_cases q : x < y
  · exact Go.plain (fun X t r => XS.icmpYes X C.1 rfl rfl (hb C.2.1 d1) rfl (cmp_lt q) d3 d4 r) (G1 q)
  · exact Go.plain (fun X t r => XS.icmpNo X C.1 rfl (hb C.2.1 d1) rfl (cmp_nlt q) r) (G2 q)
theorem if_lt (C : Cx w K Z a0 EL own code ml rt mn (Rm rf rc rs rl)) {x : Int32} {o : Int} (d : Db code pc (.ifCond .lt o) 3 pc' o pcT) (G1 : x < (0 : Int32) → Go w K Z EL n0 ss0 Q pcT L st h ss k n) (G2 : ¬ x < (0 : Int32) → Go w K Z EL n0 ss0 Q pc' L st h ss k n) : Go w K Z EL n0 ss0 Q pc L (.int x :: st) h ss k n := by
  obtain ⟨d1, rfl, d3, d4⟩ := d
  by_cases q : x < (0 : Int32)
  · exact Go.plain (fun X t r => XS.ifYes X C.1 rfl rfl (hb C.2.1 d1) rfl ((if0 _ _).trans (cmp_lt q)) d3 d4 r) (G1 q)
  · exact Go.plain (fun X t r => XS.ifNo X C.1 rfl (hb C.2.1 d1) rfl ((if0 _ _).trans (cmp_nlt q)) r) (G2 q)
theorem icmp_ge (C : Cx w K Z a0 EL own code ml rt mn (Rm rf rc rs rl)) {x y : Int32} {o : Int} (d : Db code pc (.if_icmp .ge o) 3 pc' o pcT) (G1 : ¬ x < y → Go w K Z EL n0 ss0 Q pcT L st h ss k n) (G2 : x < y → Go w K Z EL n0 ss0 Q pc' L st h ss k n) : Go w K Z EL n0 ss0 Q pc L (.int y :: .int x :: st) h ss k n := by
  obtain ⟨d1, rfl, d3, d4⟩ := d
  by_cases q : ¬ x < y
  · exact Go.plain (fun X t r => XS.icmpYes X C.1 rfl rfl (hb C.2.1 d1) rfl (cmp_ge q) d3 d4 r) (G1 q)
  · exact Go.plain (fun X t r => XS.icmpNo X C.1 rfl (hb C.2.1 d1) rfl (cmp_nge q) r) (G2 (Classical.not_not.mp q))
theorem if_ge (C : Cx w K Z a0 EL own code ml rt mn (Rm rf rc rs rl)) {x : Int32} {o : Int} (d : Db code pc (.ifCond .ge o) 3 pc' o pcT) (G1 : ¬ x < (0 : Int32) → Go w K Z EL n0 ss0 Q pcT L st h ss k n) (G2 : x < (0 : Int32) → Go w K Z EL n0 ss0 Q pc' L st h ss k n) : Go w K Z EL n0 ss0 Q pc L (.int x :: st) h ss k n := by
  obtain ⟨d1, rfl, d3, d4⟩ := d
  by_cases q : ¬ x < (0 : Int32)
  · exact Go.plain (fun X t r => XS.ifYes X C.1 rfl rfl (hb C.2.1 d1) rfl ((if0 _ _).trans (cmp_ge q)) d3 d4 r) (G1 q)
  · exact Go.plain (fun X t r => XS.ifNo X C.1 rfl (hb C.2.1 d1) rfl ((if0 _ _).trans (cmp_nge q)) r) (G2 (Classical.not_not.mp q))
theorem icmp_gt (C : Cx w K Z a0 EL own code ml rt mn (Rm rf rc rs rl)) {x y : Int32} {o : Int} (d : Db code pc (.if_icmp .gt o) 3 pc' o pcT) (G1 : y < x → Go w K Z EL n0 ss0 Q pcT L st h ss k n) (G2 : ¬ y < x → Go w K Z EL n0 ss0 Q pc' L st h ss k n) : Go w K Z EL n0 ss0 Q pc L (.int y :: .int x :: st) h ss k n := by
  obtain ⟨d1, rfl, d3, d4⟩ := d
  by_cases q : y < x
  · exact Go.plain (fun X t r => XS.icmpYes X C.1 rfl rfl (hb C.2.1 d1) rfl (cmp_gt q) d3 d4 r) (G1 q)
  · exact Go.plain (fun X t r => XS.icmpNo X C.1 rfl (hb C.2.1 d1) rfl (cmp_ngt q) r) (G2 q)
theorem if_gt (C : Cx w K Z a0 EL own code ml rt mn (Rm rf rc rs rl)) {x : Int32} {o : Int} (d : Db code pc (.ifCond .gt o) 3 pc' o pcT) (G1 : (0 : Int32) < x → Go w K Z EL n0 ss0 Q pcT L st h ss k n) (G2 : ¬ (0 : Int32) < x → Go w K Z EL n0 ss0 Q pc' L st h ss k n) : Go w K Z EL n0 ss0 Q pc L (.int x :: st) h ss k n := by
  obtain ⟨d1, rfl, d3, d4⟩ := d
  by_cases q : (0 : Int32) < x
  · exact Go.plain (fun X t r => XS.ifYes X C.1 rfl rfl (hb C.2.1 d1) rfl ((if0 _ _).trans (cmp_gt q)) d3 d4 r) (G1 q)
  · exact Go.plain (fun X t r => XS.ifNo X C.1 rfl (hb C.2.1 d1) rfl ((if0 _ _).trans (cmp_ngt q)) r) (G2 q)
theorem icmp_le (C : Cx w K Z a0 EL own code ml rt mn (Rm rf rc rs rl)) {x y : Int32} {o : Int} (d : Db code pc (.if_icmp .le o) 3 pc' o pcT) (G1 : ¬ y < x → Go w K Z EL n0 ss0 Q pcT L st h ss k n) (G2 : y < x → Go w K Z EL n0 ss0 Q pc' L st h ss k n) : Go w K Z EL n0 ss0 Q pc L (.int y :: .int x :: st) h ss k n := by
  obtain ⟨d1, rfl, d3, d4⟩ := d
  by_cases q : ¬ y < x
  · exact Go.plain (fun X t r => XS.icmpYes X C.1 rfl rfl (hb C.2.1 d1) rfl (cmp_le q) d3 d4 r) (G1 q)
  · exact Go.plain (fun X t r => XS.icmpNo X C.1 rfl (hb C.2.1 d1) rfl (cmp_nle q) r) (G2 (Classical.not_not.mp q))
theorem if_le (C : Cx w K Z a0 EL own code ml rt mn (Rm rf rc rs rl)) {x : Int32} {o : Int} (d : Db code pc (.ifCond .le o) 3 pc' o pcT) (G1 : ¬ (0 : Int32) < x → Go w K Z EL n0 ss0 Q pcT L st h ss k n) (G2 : (0 : Int32) < x → Go w K Z EL n0 ss0 Q pc' L st h ss k n) : Go w K Z EL n0 ss0 Q pc L (.int x :: st) h ss k n := by
  obtain ⟨d1, rfl, d3, d4⟩ := d
  by_cases q : ¬ (0 : Int32) < x
  · exact Go.plain (fun X t r => XS.ifYes X C.1 rfl rfl (hb C.2.1 d1) rfl ((if0 _ _).trans (cmp_le q)) d3 d4 r) (G1 q)
  · exact Go.plain (fun X t r => XS.ifNo X C.1 rfl (hb C.2.1 d1) rfl ((if0 _ _).trans (cmp_nle q)) r) (G2 (Classical.not_not.mp q))
theorem ifnullY (C : Cx w K Z a0 EL own code ml rt mn (Rm rf rc rs rl)) {b : Addr} {o : Int} (d : Db code pc (.ifnull o) 3 pc' o pcT) (G : Go w K Z EL n0 ss0 Q pcT L st h ss k n) : Go w K Z EL n0 ss0 Q pc L (.null :: st) h ss k n := by
  obtain ⟨d1, rfl, d3, d4⟩ := d
  exact Go.plain (fun X t r => XS.ifnullYes X C.1 rfl rfl (hb C.2.1 d1) rfl d3 d4 r) G
theorem ifnullN (C : Cx w K Z a0 EL own code ml rt mn (Rm rf rc rs rl)) {b : Addr} {o : Int} (d : Db code pc (.ifnull o) 3 pc' o pcT) (G : Go w K Z EL n0 ss0 Q pc' L st h ss k n) : Go w K Z EL n0 ss0 Q pc L (.ref b :: st) h ss k n := by
  obtain ⟨d1, rfl, d3, d4⟩ := d
  exact Go.plain (fun X t r => XS.ifnullNo X C.1 rfl (hb C.2.1 d1) rfl r) G
theorem ifnonnullY (C : Cx w K Z a0 EL own code ml rt mn (Rm rf rc rs rl)) {b : Addr} {o : Int} (d : Db code pc (.ifnonnull o) 3 pc' o pcT) (G : Go w K Z EL n0 ss0 Q pcT L st h ss k n) : Go w K Z EL n0 ss0 Q pc L (.ref b :: st) h ss k n := by
  obtain ⟨d1, rfl, d3, d4⟩ := d
  exact Go.plain (fun X t r => XS.ifnonnullYes X C.1 rfl rfl (hb C.2.1 d1) rfl d3 d4 r) G
theorem ifnonnullN (C : Cx w K Z a0 EL own code ml rt mn (Rm rf rc rs rl)) {b : Addr} {o : Int} (d : Db code pc (.ifnonnull o) 3 pc' o pcT) (G : Go w K Z EL n0 ss0 Q pc' L st h ss k n) : Go w K Z EL n0 ss0 Q pc L (.null :: st) h ss k n := by
  obtain ⟨d1, rfl, d3, d4⟩ := d
  exact Go.plain (fun X t r => XS.ifnonnullNo X C.1 rfl (hb C.2.1 d1) rfl r) G
theorem acmp_eq (C : Cx w K Z a0 EL own code ml rt mn (Rm rf rc rs rl)) {x y : Value} (hx : x.isRef = true) (hy : y.isRef = true) {o : Int} (d : Db code pc (.if_acmp .eq o) 3 pc' o pcT) (G1 : x = y → Go w K Z EL n0 ss0 Q pcT L st h ss k n) (G2 : ¬ x = y → Go w K Z EL n0 ss0 Q pc' L st h ss k n) : Go w K Z EL n0 ss0 Q pc L (y :: x :: st) h ss k n := by
  obtain ⟨d1, rfl, d3, d4⟩ := d
  by_cases q : x = y
  · refine Go.same C (fun X _ _ _ _ => ⟨_, X, ‹_›, fun t r => RoadKit.acmp (g := mkF K.m pc L (y :: x :: st)) X C.1 rfl hx hy (same := true) rfl (hb C.2.1 d1) rfl (decide_eq_true q) d3 (pc' := pcT) (by rw [← d4]; rfl) r⟩) (G1 q)
  · refine Go.same C (fun X _ _ _ _ => ⟨_, X, ‹_›, fun t r => RoadKit.acmp (g := mkF K.m pc L (y :: x :: st)) X C.1 rfl hx hy (same := false) rfl (hb C.2.1 d1) rfl (decide_eq_false q) d3 (pc' := pc + 3) rfl r⟩) (G2 q)
theorem acmp_ne (C : Cx w K Z a0 EL own code ml rt mn (Rm rf rc rs rl)) {x y : Value} (hx : x.isRef = true) (hy : y.isRef = true) {o : Int} (d : Db code pc (.if_acmp .ne o) 3 pc' o pcT) (G1 : ¬ x = y → Go w K Z EL n0 ss0 Q pcT L st h ss k n) (G2 : x = y → Go w K Z EL n0 ss0 Q pc' L st h ss k n) : Go w K Z EL n0 ss0 Q pc L (y :: x :: st) h ss k n := by
  obtain ⟨d1, rfl, d3, d4⟩ := d
  by_cases q : x = y
  · refine Go.same C (fun X _ _ _ _ => ⟨_, X, ‹_›, fun t r => RoadKit.acmp (g := mkF K.m pc L (y :: x :: st)) X C.1 rfl hx hy (same := true) rfl (hb C.2.1 d1) rfl (decide_eq_true q) d3 (pc' := pc + 3) rfl r⟩) (G2 q)
  · refine Go.same C (fun X _ _ _ _ => ⟨_, X, ‹_›, fun t r => RoadKit.acmp (g := mkF K.m pc L (y :: x :: st)) X C.1 rfl hx hy (same := false) rfl (hb C.2.1 d1) rfl (decide_eq_false q) d3 (pc' := pcT) (by rw [← d4]; rfl) r⟩) (G1 q)
theorem ldcI (C : Cx w K Z a0 EL own code ml rt mn (Rm rf rc rs rl)) {i : Nat} {v : Int32} (wc : (Cond.constant own i v).before a0 Z = true) (d : Dc code pc (.ldc i) 2 pc') (G : Go w K Z EL n0 ss0 Q pc' L (.int v :: st) h ss k n) : Go w K Z EL n0 ss0 Q pc L st h ss k n := by
  obtain ⟨d1, rfl⟩ := d
  exact Go.same C (fun X e hZ hown _ => ⟨_, X, e, X.ldcInt C.1 hown (mvT hZ wc) (g := mkF K.m pc L st) rfl (hb C.2.1 d1)⟩) G
theorem ldcwI (C : Cx w K Z a0 EL own code ml rt mn (Rm rf rc rs rl)) {i : Nat} {v : Int32} (wc : (Cond.constant own i v).before a0 Z = true) (d : Dc code pc (.ldc_w i) 3 pc') (G : Go w K Z EL n0 ss0 Q pc' L (.int v :: st) h ss k n) : Go w K Z EL n0 ss0 Q pc L st h ss k n := by
  obtain ⟨d1, rfl⟩ := d
  exact Go.same C (fun X e hZ hown _ => ⟨_, X, e, X.ldcwInt C.1 hown (mvT hZ wc) (g := mkF K.m pc L st) rfl (hb C.2.1 d1)⟩) G
theorem ldc2J (C : Cx w K Z a0 EL own code ml rt mn (Rm rf rc rs rl)) {i : Nat} {v : Int64} (wc : (Cond.constantLong own i v).before a0 Z = true) (d : Dc code pc (.ldc2_w i) 3 pc') (G : Go w K Z EL n0 ss0 Q pc' L (.long v :: st) h ss k n) : Go w K Z EL n0 ss0 Q pc L st h ss k n := by
  obtain ⟨d1, rfl⟩ := d
  exact Go.same C (fun X e hZ hown _ => ⟨_, X, e, X.ldc2Long C.1 hown (mvT hZ wc) (g := mkF K.m pc L st) rfl (hb C.2.1 d1)⟩) G
theorem getF_ (C : Cx w K Z a0 EL own code ml rt mn (Rm rf rc rs rl)) {i : Nat} {O f D : String} {a : Addr} {v : Value} (wl : (Cond.fieldLink own i O f D).before a0 Z = true) (F : Fld Z h a O f D v) (d : Dc code pc (.getfield i) 3 pc') (G : Go w K Z EL n0 ss0 Q pc' L (v :: st) h ss k n) : Go w K Z EL n0 ss0 Q pc L (.ref a :: st) h ss k n := by
  obtain ⟨d1, rfl⟩ := d
  exact Go.same C (fun X e hZ hown _ => getF X C.1 hZ hown (host := "") (Or.inl wl) Via.refl e F (g := mkF K.m pc L (.ref a :: st)) rfl rfl (hb C.2.1 d1)) G
theorem getS_ (C : Cx w K Z a0 EL own code ml rt mn (Rm rf rc rs rl)) {i : Nat} {O f D : String} {v : Value} (wl : (Cond.fieldLink own i O f D).before a0 Z = true) (F : Sta Z Z.heap O f D v) (d : Dc code pc (.getstatic i) 3 pc') (G : Go w K Z EL n0 ss0 Q pc' L (v :: st) h ss k n) : Go w K Z EL n0 ss0 Q pc L st h ss k n := by
  obtain ⟨d1, rfl⟩ := d
  exact Go.same C (fun X e hZ hown E => getS X C.1 hZ hown (host := "") wl Via.refl e (F.ext E) (g := mkF K.m pc L st) rfl (hb C.2.1 d1)) G
theorem cast_ (C : Cx w K Z a0 EL own code ml rt mn (Rm rf rc rs rl)) {i : Nat} {O : String} {a : Addr} (wl : (Cond.classLink own i O).before a0 Z = true) (F : Ins Z h a O true) (d : Dc code pc (.checkcast i) 3 pc') (G : Go w K Z EL n0 ss0 Q pc' L (.ref a :: st) h ss k n) : Go w K Z EL n0 ss0 Q pc L (.ref a :: st) h ss k n := by
  obtain ⟨d1, rfl⟩ := d
  exact Go.same C (fun X e hZ hown _ => castY X C.1 hZ hown wl e F (g := mkF K.m pc L (.ref a :: st)) rfl rfl (hb C.2.1 d1)) G
theorem instY_ (C : Cx w K Z a0 EL own code ml rt mn (Rm rf rc rs rl)) {i : Nat} {O : String} {a : Addr} (wl : (Cond.classLink own i O).before a0 Z = true) (F : Ins Z h a O true) (d : Dc code pc (.instanceof i) 3 pc') (G : Go w K Z EL n0 ss0 Q pc' L (.int 1 :: st) h ss k n) : Go w K Z EL n0 ss0 Q pc L (.ref a :: st) h ss k n := by
  obtain ⟨d1, rfl⟩ := d
  exact Go.same C (fun X e hZ hown _ => instY X C.1 hZ hown wl e F (g := mkF K.m pc L (.ref a :: st)) rfl rfl (hb C.2.1 d1)) G
theorem instN_ (C : Cx w K Z a0 EL own code ml rt mn (Rm rf rc rs rl)) {i : Nat} {O O' : String} {a : Addr} (wl : (Cond.classLink own i O).before a0 Z = true) (E : Exa Z h a O') (F : ∃ c t, Z.vm.findClass O' = some c ∧ Z.vm.findClass O = some t ∧ Z.vm.assignable c t = false) (d : Dc code pc (.instanceof i) 3 pc') (G : Go w K Z EL n0 ss0 Q pc' L (.int 0 :: st) h ss k n) : Go w K Z EL n0 ss0 Q pc L (.ref a :: st) h ss k n := by
  obtain ⟨d1, rfl⟩ := d
  exact Go.same C (fun X e hZ hown _ => instNo X C.1 hZ hown wl e E F (g := mkF K.m pc L (.ref a :: st)) rfl rfl (hb C.2.1 d1)) G
theorem inst0_ (C : Cx w K Z a0 EL own code ml rt mn (Rm rf rc rs rl)) {i : Nat} {O : String} (wl : (Cond.classLink own i O).before a0 Z = true) (d : Dc code pc (.instanceof i) 3 pc') (G : Go w K Z EL n0 ss0 Q pc' L (.int 0 :: st) h ss k n) : Go w K Z EL n0 ss0 Q pc L (.null :: st) h ss k n := by
  obtain ⟨d1, rfl⟩ := d
  exact Go.same C (fun X e hZ hown _ => ⟨_, X, e, X.instanceofNull C.1 (g := mkF K.m pc L (.null :: st)) rfl rfl (hb C.2.1 d1)⟩) G
/-- the array at a holds just vs -/
def Ary (Z : State) (h : Heap) (a : Addr) (ty : FieldType) (vs : List Value) : Prop := ∃ c : Cell, Arr Z h a c ty ∧ c.slots = vs.toArray ∧ vs.length < 2 ^ 31
theorem Ary.keep {a : Addr} {ty : FieldType} {vs : List Value} {ws : List Addr} (F : Ary Z h a ty vs) (K : Keep h h' ws) (q : a ∉ ws) : Ary Z h' a ty vs := by
  obtain ⟨c, A, r⟩ := F; exact ⟨c, ⟨K.2.1 a c A.1 q, A.2⟩, r⟩
theorem Ary.lt {a : Addr} {ty : FieldType} {vs : List Value} (F : Ary Z h a ty vs) : a < h.size := by obtain ⟨c, A, -⟩ := F; exact A.lt
theorem Ary.set {a : Addr} {ty : FieldType} {vs : List Value} {i : Nat} {v : Value} (F : Ary Z h a ty vs) (W : Wr h h' a i v) : Ary Z h' a ty (vs.set i v) := by
  obtain ⟨c, A, e, l⟩ := F
  exact ⟨_, A.same W, by simp [Cell.setSlot, e], by simpa using l⟩
theorem Ary.new {a : Addr} {ty : FieldType} {cA : ClassId} {x : Int32} (A : Arr Z h a (newA cA ty x) ty) : Ary Z h a ty (List.replicate x.toNatClampNeg (defaultValue ty)) := ⟨_, A, by simp [newA], by
  have := rng32 x
  simp only [List.length_replicate, Int32.toNatClampNeg]; omega⟩
theorem newarr (C : Cx w K Z a0 EL own code ml rt mn (Rm rf rc rs rl)) {aty : ArrayType} {x : Int32} (wa : (Cond.arrayClass (newarray.typeOf aty)).before a0 Z = true) (hx : ¬ x < 0) (cap : Nat) (hcap : x.toNatClampNeg ≤ cap) (hb8 : cap * 8 ≤ 536870912) (hc : k + 1 ≤ rc) (hl : n + cap ≤ rs) (d : Dc code pc (.newarray aty) 2 pc') (G : ∀ h', Keep h h' [] → h.size < h'.size → n0 ≤ h.size → Ary Z h' h.size (newarray.typeOf aty) (List.replicate x.toNatClampNeg (defaultValue (newarray.typeOf aty))) → Go w K Z EL n0 ss0 Q pc' L (.ref h.size :: st) h' (h.size :: ss) (k + 1) (n + cap)) : Go w K Z EL n0 ss0 Q pc L (.int x :: st) h ss k n := by
  obtain ⟨d1, rfl⟩ := d
  have hR : K.R = Rm rf rc rs rl := C.2.2.2.2.2.2.2.1
  refine Go.grow C (dk := 1) (dn := cap) (P := fun h' => Ary Z h' h.size (newarray.typeOf aty) (List.replicate x.toNatClampNeg (defaultValue (newarray.typeOf aty)))) (fun _ q => q.lt) (fun X e hZ hown => ?_) G
  obtain ⟨T', h', cA, X', e', E, A, r⟩ := newP X C.1 hZ wa e (g := mkF K.m pc L (.int x :: st)) rfl (hb C.2.1 d1) rfl hx hcap hb8 (by rw [hR]; exact hc) (by rw [hR]; exact hl)
  exact ⟨T', h', X', e', E, Ary.new A, r⟩
theorem castore_ (C : Cx w K Z a0 EL own code ml rt mn (Rm rf rc rs rl)) {a : Addr} {j x : Int32} {vs : List Value} (A : Ary Z h a .char vs) (i : Nat) (hj : j.toInt = i) (hi : i < vs.length) (ha : a ∈ ss) (d : Dc code pc .castore 1 pc') (G : ∀ h', Wr h h' a i (.int (nar .char x)) → Ary Z h' a .char (vs.set i (.int (nar .char x))) → Go w K Z EL n0 ss0 Q pc' L st h' ss k n) : Go w K Z EL n0 ss0 Q pc L (.int x :: .int j :: .ref a :: st) h ss k n := by
  obtain ⟨d1, rfl⟩ := d
  have A' := A
  obtain ⟨c, A, e, l⟩ := A
  have ej : j.toNatClampNeg = i := by simp [Int32.toNatClampNeg, hj]
  subst ej
  refine Go.write C ha (fun X eT hZ hown => stC X C.1 hZ eT A (j := j) ?_ (g := mkF K.m pc L (.int x :: .int j :: .ref a :: st)) rfl rfl (hb C.2.1 d1)) (fun h' W => G h' W (A'.set W))
  rintro (q | q)
  · rw [Int32.lt_iff_toInt_lt, hj] at q; have : (0 : Int32).toInt = 0 := rfl; omega
  · rw [e] at q; simp at q; omega
theorem bastore_ (C : Cx w K Z a0 EL own code ml rt mn (Rm rf rc rs rl)) {a : Addr} {j x : Int32} {vs : List Value} (A : Ary Z h a .byte vs) (i : Nat) (hj : j.toInt = i) (hi : i < vs.length) (ha : a ∈ ss) (d : Dc code pc .bastore 1 pc') (G : ∀ h', Wr h h' a i (.int (nar .byte x)) → Ary Z h' a .byte (vs.set i (.int (nar .byte x))) → Go w K Z EL n0 ss0 Q pc' L st h' ss k n) : Go w K Z EL n0 ss0 Q pc L (.int x :: .int j :: .ref a :: st) h ss k n := by
  obtain ⟨d1, rfl⟩ := d
  have A' := A
  obtain ⟨c, A, e, l⟩ := A
  have ej : j.toNatClampNeg = i := by simp [Int32.toNatClampNeg, hj]
  subst ej
  refine Go.write C ha (fun X eT hZ hown => stB X C.1 hZ eT A (j := j) ?_ (g := mkF K.m pc L (.int x :: .int j :: .ref a :: st)) rfl rfl (hb C.2.1 d1)) (fun h' W => G h' W (A'.set W))
  rintro (q | q)
  · rw [Int32.lt_iff_toInt_lt, hj] at q; have : (0 : Int32).toInt = 0 := rfl; omega
  · rw [e] at q; simp at q; omega
theorem caload_ (C : Cx w K Z a0 EL own code ml rt mn (Rm rf rc rs rl)) {a : Addr} {j : Int32} {v : Value} {vs : List Value} (A : Ary Z h a .char vs) (i : Nat) (hj : j.toInt = i) (hv : vs[i]? = some v) (d : Dc code pc .caload 1 pc') (G : Go w K Z EL n0 ss0 Q pc' L (v :: st) h ss k n) : Go w K Z EL n0 ss0 Q pc L (.int j :: .ref a :: st) h ss k n := by
  obtain ⟨d1, rfl⟩ := d
  obtain ⟨c, A, e, l⟩ := A
  have ej : j.toNatClampNeg = i := by simp [Int32.toNatClampNeg, hj]
  have hi : i < vs.length := (List.getElem?_eq_some_iff.mp hv).1
  subst ej
  refine Go.same C (fun X eT hZ hown _ => ⟨_, X, eT, X.caload C.1 (j := j) (v := v) (by rw [eT]; exact A.1) (State.isArrayOf_alike hZ.alike A.2.1) A.2.2 ?_ (by rw [e]; simpa using hv) (g := mkF K.m pc L (.int j :: .ref a :: st)) rfl rfl (hb C.2.1 d1)⟩) G
  rintro (q | q)
  · rw [Int32.lt_iff_toInt_lt, hj] at q; have : (0 : Int32).toInt = 0 := rfl; omega
  · rw [e] at q; simp at q; omega
theorem baload_ (C : Cx w K Z a0 EL own code ml rt mn (Rm rf rc rs rl)) {a : Addr} {j : Int32} {v : Value} {vs : List Value} (A : Ary Z h a .byte vs) (i : Nat) (hj : j.toInt = i) (hv : vs[i]? = some v) (d : Dc code pc .baload 1 pc') (G : Go w K Z EL n0 ss0 Q pc' L (v :: st) h ss k n) : Go w K Z EL n0 ss0 Q pc L (.int j :: .ref a :: st) h ss k n := by
  obtain ⟨d1, rfl⟩ := d
  obtain ⟨c, A, e, l⟩ := A
  have ej : j.toNatClampNeg = i := by simp [Int32.toNatClampNeg, hj]
  have hi : i < vs.length := (List.getElem?_eq_some_iff.mp hv).1
  subst ej
  refine Go.same C (fun X eT hZ hown _ => ⟨_, X, eT, X.baloadBytes C.1 (j := j) (v := v) (by rw [eT]; exact A.1) (State.isArrayOf_alike hZ.alike A.2.1) A.2.2 ?_ (by rw [e]; simpa using hv) (g := mkF K.m pc L (.int j :: .ref a :: st)) rfl rfl (hb C.2.1 d1)⟩) G
  rintro (q | q)
  · rw [Int32.lt_iff_toInt_lt, hj] at q; have : (0 : Int32).toInt = 0 := rfl; omega
  · rw [e] at q; simp at q; omega
theorem iaload_ (C : Cx w K Z a0 EL own code ml rt mn (Rm rf rc rs rl)) {a : Addr} {j : Int32} {v : Value} {vs : List Value} (A : Ary Z h a .int vs) (i : Nat) (hj : j.toInt = i) (hv : vs[i]? = some v) (d : Dc code pc .iaload 1 pc') (G : Go w K Z EL n0 ss0 Q pc' L (v :: st) h ss k n) : Go w K Z EL n0 ss0 Q pc L (.int j :: .ref a :: st) h ss k n := by
  obtain ⟨d1, rfl⟩ := d
  obtain ⟨c, A, e, l⟩ := A
  have ej : j.toNatClampNeg = i := by simp [Int32.toNatClampNeg, hj]
  have hi : i < vs.length := (List.getElem?_eq_some_iff.mp hv).1
  subst ej
  refine Go.same C (fun X eT hZ hown _ => ⟨_, X, eT, X.iaload C.1 (j := j) (v := v) (by rw [eT]; exact A.1) (State.isArrayOf_alike hZ.alike A.2.1) A.2.2 ?_ (by rw [e]; simpa using hv) (g := mkF K.m pc L (.int j :: .ref a :: st)) rfl rfl (hb C.2.1 d1)⟩) G
  rintro (q | q)
  · rw [Int32.lt_iff_toInt_lt, hj] at q; have : (0 : Int32).toInt = 0 := rfl; omega
  · rw [e] at q; simp at q; omega
theorem arrlen (C : Cx w K Z a0 EL own code ml rt mn (Rm rf rc rs rl)) {a : Addr} {ty : FieldType} {vs : List Value} (A : Ary Z h a ty vs) {z : Int32} (hz : z.toInt = vs.length) (d : Dc code pc .arraylength 1 pc') (G : Go w K Z EL n0 ss0 Q pc' L (.int z :: st) h ss k n) : Go w K Z EL n0 ss0 Q pc L (.ref a :: st) h ss k n := by
  obtain ⟨d1, rfl⟩ := d
  obtain ⟨c, A, e, l⟩ := A
  have ez : c.slots.size.toInt32 = z := by
    rw [← Int32.toInt_inj, hz, len_toInt (by rw [e]; simpa using l), e]; simp
  refine Go.same C (fun X eT hZ hown _ => ⟨_, X, eT, fun t r => X.arraylength C.1 (by rw [eT]; exact A.1) (State.isArrayOf_alike hZ.alike A.2.1) (g := mkF K.m pc L (.ref a :: st)) rfl rfl (hb C.2.1 d1) t (by rw [ez]; exact r)⟩) G
theorem new_ (C : Cx w K Z a0 EL own code ml rt mn (Rm rf rc rs rl)) {i : Nat} {O : String} {nn : Nat} (wl : (Cond.classLink own i O).before a0 Z = true) (wi : (Cond.instantiable O nn).before a0 Z = true) (wz : (Cond.initialized O).before a0 Z = true) (hc : k + 1 ≤ rc) (hl : n + nn ≤ rs) (d : Dc code pc (.new i) 3 pc')
    (G : ∀ h', Keep h h' [] → h.size < h'.size → n0 ≤ h.size → (Exa Z h' h.size O ∧ ∀ {O' nm d : String} {ty : FieldType}, Laid Z a0 O O' nm d → parseFieldDescriptor d = some ty → Fld Z h' h.size O' nm d (defaultValue ty)) → Go w K Z EL n0 ss0 Q pc' L (.ref h.size :: st) h' (h.size :: ss) (k + 1) (n + nn)) : Go w K Z EL n0 ss0 Q pc L st h ss k n := by
  obtain ⟨d1, rfl⟩ := d
  have hR : K.R = Rm rf rc rs rl := C.2.2.2.2.2.2.2.1
  refine Go.grow C (dk := 1) (dn := nn) (P := fun h' => Exa Z h' h.size O ∧ ∀ {O' nm d : String} {ty : FieldType}, Laid Z a0 O O' nm d → parseFieldDescriptor d = some ty → Fld Z h' h.size O' nm d (defaultValue ty)) (fun _ q => q.1.lt) (fun X e hZ hown => ?_) G
  obtain ⟨T', h', X', e', E, A, D, -, r⟩ := newO X C.1 hZ hown wl wi wz e (g := mkF K.m pc L st) rfl (hb C.2.1 d1) (by rw [hR]; exact hc) (by rw [hR]; exact hl)
  exact ⟨T', h', X', e', E, ⟨A, D⟩, r⟩
theorem putF_ (C : Cx w K Z a0 EL own code ml rt mn (Rm rf rc rs rl)) {i kk : Nat} {O f D O' : String} {a : Addr} {v v' old : Value} {ty : FieldType} (wl : (Cond.fieldLink own i O f D).before a0 Z = true) (F : Fld Z h a O f D old) (E : Exa Z h a O') (Ly : (Cond.lays O' O f D).before a0 Z = true ∨ ((Cond.laysFinal O' O f D).before a0 Z = true ∧ own = O ∧ mn = "<init>")) (wi : (Cond.instantiable O' kk).before a0 Z = true)
    (hty : parseFieldDescriptor D = some ty) (hn : narrow ty v = v') (hf : fits ty v' = true) (ha : a ∈ ss) (d : Dc code pc (.putfield i) 3 pc')
    (G : ∀ h', Wr h h' a (RoadKit.slotOf Z O f D) v' → Go w K Z EL n0 ss0 Q pc' L st h' ss k n) : Go w K Z EL n0 ss0 Q pc L (v :: .ref a :: st) h ss k n := by
  obtain ⟨d1, rfl⟩ := d
  have hm : K.meth.name = mn := C.2.2.2.2.2.2.1
  exact Go.write C ha (fun X eT hZ hown => putFN X C.1 hZ hown wl Via.refl eT F E (Ly.imp id fun q => ⟨q.1, q.2.1, hm.trans q.2.2⟩) wi hty hn hf (g := mkF K.m pc L (v :: .ref a :: st)) rfl rfl (hb C.2.1 d1)) G
theorem initO_ (C : Cx w K Z a0 EL own code ml rt mn (Rm rf rc rs rl)) {i : Nat} {a : Addr} (w1 : (Cond.methodLink own i Lib.objectInit).before a0 Z = true) (w2 : (Cond.instanceMethod Lib.objectInit).before a0 Z = true) (w3 : (Cond.code Lib.objectInit ⟨#[0xb1]⟩ 1 none).before a0 Z = true) (hL : L.size = ml) (hf : 1 ≤ rf) (hlo : (st.map fun v => v.category).sum + 12 ≤ rl) (d : Dc code pc (.invokespecial i) 3 pc') (G : Go w K Z EL n0 ss0 Q pc' L st h ss k n) : Go w K Z EL n0 ss0 Q pc L (.ref a :: st) h ss k n := by
  obtain ⟨d1, rfl⟩ := d
  have hR : K.R = Rm rf rc rs rl := C.2.2.2.2.2.2.2.1
  exact Go.same C (fun X e hZ hown _ => initO X C.1 hZ hown w1 w2 w3 e (g := mkF K.m pc L (.ref a :: st)) rfl (hL.trans C.2.2.1.symm) rfl (hb C.2.1 d1) (by rw [hR]; exact hf) (W := (st.map fun v => v.category).sum) (by show 2 * 0 + _ ≤ _; omega) (by rw [hR]; exact hlo)) G
theorem retZ (C : Cx w K Z a0 EL own code ml (some .boolean) mn (Rm rf rc rs rl)) {z : Int32} {gs : List Addr} (d : Dc code pc .ireturn 1 pc') (hc : k ≤ rc) (hn : n ≤ rs) (hg : ∀ x ∈ gs, x ∈ ss) (hQ : Q (some (.int (nar .boolean z))) h gs) : Go w K Z EL n0 ss0 Q pc L (.int z :: st) h ss k n := by
  obtain ⟨d1, rfl⟩ := d
  exact Go.leave C nofun (fun X _ r => retN X C.1 (t := .boolean) C.2.2.2.2.1 (by simp) (hb C.2.1 d1) r) hQ hg hc hn
theorem retB (C : Cx w K Z a0 EL own code ml (some .byte) mn (Rm rf rc rs rl)) {z : Int32} {gs : List Addr} (d : Dc code pc .ireturn 1 pc') (hc : k ≤ rc) (hn : n ≤ rs) (hg : ∀ x ∈ gs, x ∈ ss) (hQ : Q (some (.int (nar .byte z))) h gs) : Go w K Z EL n0 ss0 Q pc L (.int z :: st) h ss k n := by
  obtain ⟨d1, rfl⟩ := d
  exact Go.leave C nofun (fun X _ r => retN X C.1 (t := .byte) C.2.2.2.2.1 (by simp) (hb C.2.1 d1) r) hQ hg hc hn
theorem retC (C : Cx w K Z a0 EL own code ml (some .char) mn (Rm rf rc rs rl)) {z : Int32} {gs : List Addr} (d : Dc code pc .ireturn 1 pc') (hc : k ≤ rc) (hn : n ≤ rs) (hg : ∀ x ∈ gs, x ∈ ss) (hQ : Q (some (.int (nar .char z))) h gs) : Go w K Z EL n0 ss0 Q pc L (.int z :: st) h ss k n := by
  obtain ⟨d1, rfl⟩ := d
  exact Go.leave C nofun (fun X _ r => retN X C.1 (t := .char) C.2.2.2.2.1 (by simp) (hb C.2.1 d1) r) hQ hg hc hn
theorem retS (C : Cx w K Z a0 EL own code ml (some .short) mn (Rm rf rc rs rl)) {z : Int32} {gs : List Addr} (d : Dc code pc .ireturn 1 pc') (hc : k ≤ rc) (hn : n ≤ rs) (hg : ∀ x ∈ gs, x ∈ ss) (hQ : Q (some (.int (nar .short z))) h gs) : Go w K Z EL n0 ss0 Q pc L (.int z :: st) h ss k n := by
  obtain ⟨d1, rfl⟩ := d
  exact Go.leave C nofun (fun X _ r => retN X C.1 (t := .short) C.2.2.2.2.1 (by simp) (hb C.2.1 d1) r) hQ hg hc hn
theorem retI_ (C : Cx w K Z a0 EL own code ml (some .int) mn (Rm rf rc rs rl)) {z : Int32} {gs : List Addr} (d : Dc code pc .ireturn 1 pc') (hc : k ≤ rc) (hn : n ≤ rs) (hg : ∀ x ∈ gs, x ∈ ss) (hQ : Q (some (.int z)) h gs) : Go w K Z EL n0 ss0 Q pc L (.int z :: st) h ss k n := by
  obtain ⟨d1, rfl⟩ := d
  refine Go.leave C nofun (fun {T vm0 locs} X {fs} hr => ?_) hQ hg hc hn
  have hret : K.meth.sig.returnType = some .int := C.2.2.2.2.1
  have hx := C.1
  have hm' := X.method'
  have hnn : narrow .int (.int z) = .int z := rfl
  have hd := hb C.2.1 d1
  show Steps K.p.tables K.e K.below (T.setTop { method := K.m, pc := pc, locals := L, stack := _ :: st, locked := none }) _
  jvm_step X.here [X.here.top, hx, hd, hm', hret, hnn]
  first | (intro acts; rw [hr _ acts rfl rfl rfl]) | rw [hr _ _ rfl rfl rfl]
  exact Steps.refl _
theorem retA {ty : FieldType} (C : Cx w K Z a0 EL own code ml (some ty) mn (Rm rf rc rs rl)) {v : Value} {gs : List Addr} (hty : ty.isReference = true) (hv : v.isRef = true) (d : Dc code pc .areturn 1 pc') (hc : k ≤ rc) (hn : n ≤ rs) (hg : ∀ x ∈ gs, x ∈ ss) (hQ : Q (some v) h gs) : Go w K Z EL n0 ss0 Q pc L (v :: st) h ss k n := by
  obtain ⟨d1, rfl⟩ := d
  refine Go.leave C nofun (fun {T vm0 locs} X {fs} hr => ?_) hQ hg hc hn
  have hret : K.meth.sig.returnType = some ty := C.2.2.2.2.1
  have hx := C.1
  have hm' := X.method'
  have hd := hb C.2.1 d1
  show Steps K.p.tables K.e K.below (T.setTop { method := K.m, pc := pc, locals := L, stack := _ :: st, locked := none }) _
  jvm_step X.here [X.here.top, hx, hd, hm', hret, hv, hty]
  first | (intro acts; rw [hr _ acts rfl rfl rfl]) | rw [hr _ _ rfl rfl rfl]
  exact Steps.refl _
theorem retV (C : Cx w K Z a0 EL own code ml none mn (Rm rf rc rs rl)) {gs : List Addr} (d : Dc code pc .return_ 1 pc') (hc : k ≤ rc) (hn : n ≤ rs) (hg : ∀ x ∈ gs, x ∈ ss) (hQ : Q none h gs) : Go w K Z EL n0 ss0 Q pc L [] h ss k n := by
  obtain ⟨d1, rfl⟩ := d
  exact Go.leave C (fun _ => rfl) (fun X _ r => X.returnOut C.1 C.2.2.2.2.1 (hb C.2.1 d1) r) hQ hg hc hn
end Ops
end Jvm.Own
namespace Jvm.Own
open Jvm Jvm.ClassFile Sem Op Lib Jvm.Free Jvm.Stand Jvm.LawKit Jvm.RoadKit
section Calls
variable {w : Bool} {K : IV} {Z : State} {a0 : Array Value} {EL : List (String × Nat)} {n0 : Nat} {ss0 ss : List Addr} {Q : Option Value → Heap → List Addr → Prop} {pc pc' pcT : Nat} {L L' : Array Slot} {st st' stk : List Value} {h h' : Heap} {k n : Nat} {own : String} {code : ByteArray} {ml : Nat} {rt : Option FieldType} {mn : String} {R : Room}
variable {y : MethodName} {bytes : ByteArray} {maxL : Nat} {ret : Option FieldType} {rm : Room} {as : List Value} {ssc : List Addr} {Qc : Option Value → Heap → List Addr → Prop}
def PreC (Z : State) (EL : List (String × Nat)) (n0 : Nat) (R rm : Room) (as : List Value) (h : Heap) (ssc : List Addr) (A : Pt) (a : Array Value) : Prop := a = as.toArray ∧ A.U.heap = h ∧ A.cells + rm.cells ≤ R.cells ∧ A.slots + rm.slots ≤ R.slots ∧ CHv Z EL A.U.vm h ∧ ∀ x ∈ ssc, n0 ≤ x ∧ x < h.size ∧ Safe Z EL A.U.vm h x
def PostC (Z : State) (EL : List (String × Nat)) (n0 : Nat) (rm : Room) (h : Heap) (ssc : List Addr) (Qc : Option Value → Heap → List Addr → Prop) (A : Pt) (_ : Array Value) (v : Option Value) (B : Pt) : Prop := ∃ (L : List Loc) (gs : List Addr), Qc v B.U.heap gs ∧ Fr n0 L ∧ CHr Z EL A.U.vm h B.U.vm B.U.heap ∧ Keep h B.U.heap ssc ∧ Sf Z EL n0 B.U.vm B.U.heap ssc h gs ∧ Old Z n0 B.U.heap ∧ B.locs = A.locs ++ L ∧ B.cells = A.cells + rm.cells ∧ B.slots = A.slots + rm.slots
theorem conBack {p : Program} {l : Launch} {e : Env} {below : List Frame} {s : State} {args : Array Value} {len W : Nat} (M : Con false Z EL n0 y bytes maxL ret rm as h ssc Qc) (hZ : Z.Warmed39 s.vm) (wc : (Cond.code y bytes maxL ret).before a0 Z = true) (wz : (Cond.initialized y.cls).before a0 Z = true) (hf : rm.frames + 1 ≤ R.frames) (hl : W + (maxL + 11) + rm.locals ≤ R.locals) :
    Back l R p e below s args y len W (PreC Z EL n0 R rm as h ssc) (PostC Z EL n0 rm h ssc Qc) :=
  Back.of_free (bytes := bytes) (maxL := maxL) (ret := ret) (E := fun _ first o t L k n => k = rm.cells ∧ n = rm.slots ∧ ∃ v gs, o = .returned v ∧ Qc v t.heap gs ∧ Fr n0 L ∧ CHr Z EL first.vm h t.vm t.heap ∧ Keep h t.heap ssc ∧ Sf Z EL n0 t.vm t.heap ssc h gs ∧ Old Z n0 t.heap) (M l []) hf hl
    (fun m meth c A a Y hp => have hU : Z.Warmed39 A.U.vm := wtrans hZ Y.warmed
      ⟨by show (Cond.and _ .tt).before a A.U = true; rw [Cond.before_and, mv hU wc]; rfl, mv hU wc, mv hU wz, hp.2.2.1, hp.2.2.2.1⟩)
    (fun m meth c A a g mk Y hp => ⟨hp.1, wtrans hZ Y.warmed, hp.2.1, hp.2.2.2.2.1, hp.2.2.2.2.2⟩) (fun _ _ _ _ _ _ _ _ _ => trivial)
    (fun _ _ _ _ ⟨v, L, gs, h1, h2, h3, h4, h5, h6, h7, h8⟩ => ⟨L, _, _, h8, rfl, rfl, v, gs, h1, h2, h3, h4, h5, h6, h7⟩)
    (fun m meth c A a g mk v t L k n Y hp _ _ ⟨e1, e2, v', gs, e3, r⟩ => by cases e3; subst e1 e2; exact ⟨L, gs, r.1, r.2.1, r.2.2.1, r.2.2.2.1, r.2.2.2.2.1, r.2.2.2.2.2, rfl, rfl, rfl⟩)
theorem conBackS {p : Program} {l : Launch} {e : Env} {below : List Frame} {s : State} {args : Array Value} {len W : Nat} (M : Con true Z EL n0 y bytes maxL ret rm as h ssc Qc) (hZ : Z.Warmed39 s.vm) (wc : (Cond.code y bytes maxL ret).before a0 Z = true) (wz : (Cond.initialized y.cls).before a0 Z = true) (hf : rm.frames + 1 ≤ R.frames) (hl : W + (maxL + 11) + rm.locals ≤ R.locals) :
    BackS l R p e below s args y len W (PreC Z EL n0 R rm as h ssc) (PostC Z EL n0 rm h ssc Qc) :=
  BackS.of_freeW (bytes := bytes) (maxL := maxL) (ret := ret) (E := fun _ first o t L k n => k = rm.cells ∧ n = rm.slots ∧ ∃ v gs, o = .returned v ∧ Qc v t.heap gs ∧ Fr n0 L ∧ CHr Z EL first.vm h t.vm t.heap ∧ Keep h t.heap ssc ∧ Sf Z EL n0 t.vm t.heap ssc h gs ∧ Old Z n0 t.heap) (M l []) hf hl
    (fun m meth c A a Y hp => have hU : Z.Warmed39 A.U.vm := wtrans hZ Y.warmed
      ⟨by show (Cond.and _ .tt).before a A.U = true; rw [Cond.before_and, mv hU wc]; rfl, mv hU wc, mv hU wz, hp.2.2.1, hp.2.2.2.1⟩)
    (fun m meth c A a g mk Y hp => ⟨hp.1, wtrans hZ Y.warmed, hp.2.1, hp.2.2.2.2.1, hp.2.2.2.2.2⟩) (fun _ _ _ _ _ _ _ _ _ => trivial)
    (fun _ _ _ _ ⟨v, L, gs, h1, h2, h3, h4, h5, h6, h7, h8⟩ => ⟨L, _, _, h8, rfl, rfl, v, gs, h1, h2, h3, h4, h5, h6, h7⟩)
    (fun m meth c A a g mk v t L k n Y hp _ _ ⟨e1, e2, v', gs, e3, r⟩ => by cases e3; subst e1 e2; exact ⟨L, gs, r.1, r.2.1, r.2.2.1, r.2.2.2.1, r.2.2.2.2.1, r.2.2.2.2.2, rfl, rfl, rfl⟩)
theorem warm1 {vm0 vm₁ : Vm} {s : State} (hZ : Z.Warmed39 vm0) (hE : EW Z a0 EL) (hW : (s.setVm vm0).WarmedH vm₁) (H : CHv Z EL vm0 h) : CHr Z EL vm0 h vm₁ h := by
  have q := CHv.later (h' := h) hZ (hW := (show (Wst Z vm0 h).Warmed39 vm₁ from hW.wide)) hE ⟨Nat.le_refl _, fun _ _ q => q⟩ (Or.inl hW.interned_eq) H
  exact ⟨q.1, Nat.le_refl _, q.2⟩
/-- behind a call -/
theorem after {T : State} {vm0 vm₁ : Vm} {locs : List Loc} {k0 : Nat} (C : Cx w K Z a0 EL own code ml rt mn R) (N : Fr n0 locs) (hS : K.s.Since vm0 k0) (hk : k0 ≤ h.size) (hZ : Z.Warmed39 vm0) (hv : w = false → vm0 = K.s.vm) (hC : CHr Z EL K.s.vm K.s.heap vm0 h) (hF : Sf Z EL n0 vm0 h ss0 K.s.heap ss) (hK : Keep K.s.heap h ss0)
    (hsub : ∀ x ∈ ssc, x ∈ ss) (hW : (K.s.setVm vm0).WarmedH vm₁) {B : Pt} {a : Array Value} {v : Option Value} (hp : PostC Z EL n0 rm h ssc Qc ⟨T.setVm vm₁, locs, k, n⟩ a v B)
    (hX : (w = false ∧ Stand K.p K.l K.e K.R (K.s.setVm vm0) K.m K.args K.below K.meth K.c B.U B.locs B.cells B.slots) ∨ (w = true ∧ Stand K.p K.l K.e K.R (K.s.setVm B.U.vm) K.m K.args K.below K.meth K.c B.U B.locs B.cells B.slots ∧ (K.s.setVm vm0).Since B.U.vm B.U.heap.size)) :
    ∃ gs, Here w K Z EL n0 ss0 B.U B.U.heap (gs ++ ss) (k + rm.cells) (n + rm.slots) ∧ Qc v B.U.heap gs ∧ Keep h B.U.heap ssc := by
  obtain ⟨Lc, gs, hQ, N', hC', hK', hF', hO', l1, l2, l3⟩ := hp
  obtain ⟨U, Ls, kk, nn⟩ := B
  dsimp only [Pt.U, Pt.locs, Pt.cells, Pt.slots] at *
  subst l1 l2 l3
  have D1 := warm1 hZ C.2.2.2.2.2.2.2.2.1 hW hC.1
  have D := D1.trans hC'
  have hKs : Keep K.s.heap U.heap ss0 := hK.trans hK' fun x hx => (hF x (hsub x hx)).2.2.2
  have hFa : Sf Z EL n0 U.vm U.heap ss0 K.s.heap (gs ++ ss) := fun x hx => by
    rcases List.mem_append.mp hx with hx | hx
    · obtain ⟨g1, g2, g3, g4⟩ := hF' x hx
      exact ⟨g1, g2, g3, g4.elim (fun q => (hF x (hsub x q)).2.2.2) fun q => Or.inr (Nat.le_trans hK.1 q)⟩
    · obtain ⟨g1, g2, g3, g4⟩ := hF x hx
      exact ⟨g1, Nat.lt_of_lt_of_le g2 hK'.1, D.safe g2 g3, g4⟩
  refine ⟨gs, ?_, hQ, hK'⟩
  rcases hX with ⟨hw, X⟩ | ⟨hw, X, hS'⟩
  · have hEL : EL = [] := C.2.2.2.2.2.2.2.2.2 hw
    subst hEL
    refine ⟨vm0, _, k0, X, N.app N', rfl, hS, Nat.le_trans hk hK'.1, hZ, hv, chr_nil (Nat.le_trans hK.1 hK'.1), fun x hx => ?_, hO', hKs⟩
    obtain ⟨g1, g2, g3, g4⟩ := hFa x hx
    exact ⟨g1, g2, fun ⟨p, hp, _⟩ => by (cases hp), g4⟩
  · exact ⟨U.vm, _, U.heap.size, X, N.app N', rfl, hS.trans hS' (Nat.le_trans hk hK'.1), Nat.le_refl _, State.Warmed39.trans (t := K.s.setVm vm0) hZ hS'.1, (fun q => by rw [hw] at q; cases q), hC.trans D, hFa, hO', hKs⟩
theorem pre {T : State} {vm0 vm₁ : Vm} {locs : List Loc} (C : Cx w K Z a0 EL own code ml rt mn R) (eT : T.heap = h) (hZ : Z.Warmed39 vm0) (hC : CHr Z EL K.s.vm K.s.heap vm0 h) (hF : Sf Z EL n0 vm0 h ss0 K.s.heap ss) (hsub : ∀ x ∈ ssc, x ∈ ss) (hW : (K.s.setVm vm0).WarmedH vm₁) (hc : k + rm.cells ≤ R.cells) (hn : n + rm.slots ≤ R.slots) :
    PreC Z EL n0 K.R rm as h ssc ⟨T.setVm vm₁, locs, k, n⟩ as.toArray := by
  have hR : K.R = R := C.2.2.2.2.2.2.2.1
  have D1 := warm1 hZ C.2.2.2.2.2.2.2.2.1 hW hC.1
  exact ⟨rfl, eT, by rw [hR]; exact hc, by rw [hR]; exact hn, D1.1, fun x hx => by
    obtain ⟨g1, g2, g3, g4⟩ := hF x (hsub x hx)
    exact ⟨g1, g2, D1.safe g2 g3⟩⟩
theorem callS_ {rf rc rs rl cf cc cs cl : Nat} (C : Cx w K Z a0 EL own code ml rt mn (Rm rf rc rs rl)) {i : Nat} {ps : List FieldType} {r : Option FieldType} (wl : (Cond.methodLink own i y).before a0 Z = true) (ws : (Cond.static y).before a0 Z = true) (wi : (Cond.initialized y.cls).before a0 Z = true) (wc : (Cond.code y bytes maxL ret).before a0 Z = true) (hy : y.cls ≠ "java/lang/invoke/MethodHandle" ∧ y.cls ≠ "java/lang/invoke/VarHandle") (pd : parseMethodDescriptor y.desc = some ⟨ps, r⟩) (hl : as.length = ps.length) (M : Old Z n0 h → Con w Z EL n0 y bytes maxL ret (Rm cf cc cs cl) as h ssc Qc) (hsub : ∀ x ∈ ssc, x ∈ ss) (hL : L.size = ml) (hfr : cf + 1 ≤ rf) (hlo : (st.map fun v => v.category).sum + (maxL + 11) + cl ≤ rl) (hc : k + cc ≤ rc) (hn : n + cs ≤ rs) (d : Dc code pc (.invokestatic i) 3 pc') (hst : stk = as.reverse ++ st) (G : ∀ v h' gs, Keep h h' ssc → Qc v h' gs → Go w K Z EL n0 ss0 Q pc' L (v.toList ++ st) h' (gs ++ ss) (k + cc) (n + cs)) : Go w K Z EL n0 ss0 Q pc L stk h ss k n := by
  obtain ⟨d1, rfl⟩ := d
  subst hst
  intro T H
  obtain ⟨vm0, locs, k0, X, N, eT, hS, hk, hZ, hv, hC, hF, hO, hK⟩ := H
  have hR : K.R = Rm rf rc rs rl := C.2.2.2.2.2.2.2.1
  have hown : (K.s.setVm vm0).vm.findClass own = some K.m.cls := fcl C hS
  have hZ' : Z.Warmed39 (K.s.setVm vm0).vm := hZ
  have hsz : L.size = K.c.maxLocals := hL.trans C.2.2.1.symm
  cases w with
  | false =>
    obtain ⟨v, vm₁, B, hW, X', hp, stp⟩ := Jvm.LawKit.callS X C.1 (y := y) hown (mvT hZ' wl) (mvT hZ' ws) (mvT hZ' wi) (mvT hZ' wc) hy (conBack (W := (st.map fun v => v.category).sum) (M hO) hZ' wc wi (by rw [hR]; exact hfr) (by rw [hR]; exact hlo)) (g := mkF K.m pc L (as.reverse ++ st)) rfl hsz (argsL := as) (rest := st) (lenOf pd hl) rfl (by show 2 * 0 + _ ≤ _; omega) (hb C.2.1 d1) (fun vm₁ hW => pre C eT hZ hC hF hsub hW hc hn)
    obtain ⟨gs, H', hQ, hKe⟩ := after C N hS hk hZ hv hC hF hK hsub hW hp (Or.inl ⟨rfl, X'⟩)
    exact Fns.steps stp (G v _ gs hKe hQ _ H')
  | true =>
    obtain ⟨v, vm₁, B, hW, X', hS', -, hp, stp⟩ := callSS X C.1 (y := y) hown (mvT hZ' wl) (mvT hZ' ws) (mvT hZ' wi) (mvT hZ' wc) hy (conBackS (W := (st.map fun v => v.category).sum) (M hO) hZ' wc wi (by rw [hR]; exact hfr) (by rw [hR]; exact hlo)) (g := mkF K.m pc L (as.reverse ++ st)) rfl hsz (argsL := as) (rest := st) (lenOf pd hl) rfl (by show 2 * 0 + _ ≤ _; omega) (hb C.2.1 d1) (fun vm₁ hW => pre C eT hZ hC hF hsub hW hc hn)
    obtain ⟨gs, H', hQ, hKe⟩ := after C N hS hk hZ hv hC hF hK hsub hW hp (Or.inr ⟨rfl, X', hS'⟩)
    exact Fns.steps (fun t r => stp.trans r) (G v _ gs hKe hQ _ H')
theorem callI_ {rf rc rs rl cf cc cs cl : Nat} (C : Cx w K Z a0 EL own code ml rt mn (Rm rf rc rs rl)) {i : Nat} {ps : List FieldType} {r : Option FieldType} {a : Addr} {as' : List Value} (hy1 : y.name = "<init>") (wl : (Cond.methodLink own i y).before a0 Z = true) (wm : (Cond.instanceMethod y).before a0 Z = true) (wi : (Cond.initialized y.cls).before a0 Z = true) (wc : (Cond.code y bytes maxL none).before a0 Z = true) (hy : y.cls ≠ "java/lang/invoke/MethodHandle" ∧ y.cls ≠ "java/lang/invoke/VarHandle") (pd : parseMethodDescriptor y.desc = some ⟨ps, r⟩) (hl : as'.length = ps.length) (M : Old Z n0 h → Con w Z EL n0 y bytes maxL none (Rm cf cc cs cl) (.ref a :: as') h ssc Qc) (hsub : ∀ x ∈ ssc, x ∈ ss) (hL : L.size = ml) (hfr : cf + 1 ≤ rf) (hlo : (st.map fun v => v.category).sum + (maxL + 11) + cl ≤ rl) (hc : k + cc ≤ rc) (hn : n + cs ≤ rs) (d : Dc code pc (.invokespecial i) 3 pc') (hst : stk = as'.reverse ++ .ref a :: st) (G : ∀ v h' gs, Keep h h' ssc → Qc v h' gs → Go w K Z EL n0 ss0 Q pc' L (v.toList ++ st) h' (gs ++ ss) (k + cc) (n + cs)) : Go w K Z EL n0 ss0 Q pc L stk h ss k n := by
  obtain ⟨d1, rfl⟩ := d
  subst hst
  intro T H
  obtain ⟨vm0, locs, k0, X, N, eT, hS, hk, hZ, hv, hC, hF, hO, hK⟩ := H
  have hR : K.R = Rm rf rc rs rl := C.2.2.2.2.2.2.2.1
  have hown : (K.s.setVm vm0).vm.findClass own = some K.m.cls := fcl C hS
  have hZ' : Z.Warmed39 (K.s.setVm vm0).vm := hZ
  have hsz : L.size = K.c.maxLocals := hL.trans C.2.2.1.symm
  cases w with
  | false =>
    obtain ⟨v, vm₁, B, hW, X', hp, stp⟩ := X.specialBack C.1 (y := y) hy1 hown (mvT hZ' wl) (mvT hZ' wm) (mvT hZ' wc) hy (conBack (W := (st.map fun v => v.category).sum) (M hO) hZ' wc wi (by rw [hR]; exact hfr) (by rw [hR]; exact hlo)) (g := mkF K.m pc L (as'.reverse ++ .ref a :: st)) rfl hsz (Steps.refl _) (a := a) (argsL := as') (rest := st) (lenOf pd hl) rfl (by show 2 * 0 + _ ≤ _; omega) (hb C.2.1 d1) (fun vm₁ hW => pre C eT hZ hC hF hsub hW hc hn)
    obtain ⟨gs, H', hQ, hKe⟩ := after C N hS hk hZ hv hC hF hK hsub hW hp (Or.inl ⟨rfl, X'⟩)
    exact Fns.steps (fun t r => stp.trans r) (G v _ gs hKe hQ _ H')
  | true =>
    obtain ⟨v, vm₁, B, hW, X', hS', -, hp, stp⟩ := X.specialBackS C.1 (y := y) hy1 hown (mvT hZ' wl) (mvT hZ' wm) (mvT hZ' wc) hy (conBackS (W := (st.map fun v => v.category).sum) (M hO) hZ' wc wi (by rw [hR]; exact hfr) (by rw [hR]; exact hlo)) (g := mkF K.m pc L (as'.reverse ++ .ref a :: st)) rfl hsz (Steps.refl _) (a := a) (argsL := as') (rest := st) (lenOf pd hl) rfl (by show 2 * 0 + _ ≤ _; omega) (hb C.2.1 d1) (fun vm₁ hW => pre C eT hZ hC hF hsub hW hc hn)
    obtain ⟨gs, H', hQ, hKe⟩ := after C N hS hk hZ hv hC hF hK hsub hW hp (Or.inr ⟨rfl, X', hS'⟩)
    exact Fns.steps (fun t r => stp.trans r) (G v _ gs hKe hQ _ H')
theorem callV_ {rf rc rs rl cf cc cs cl : Nat} (C : Cx w K Z a0 EL own code ml rt mn (Rm rf rc rs rl)) {i : Nat} {ps : List FieldType} {r : Option FieldType} {a : Addr} {as' : List Value} {O : String} {x : MethodName} (wl : (Cond.methodLink own i x).before a0 Z = true) (wd : (Cond.declares x).before a0 Z = true) (hnf : ∀ s : State, Z.Warmed39 s.vm → NotFace s x) (wse : (Cond.selects O x y).before a0 Z = true) (wm : (Cond.instanceMethod y).before a0 Z = true) (wi : (Cond.initialized y.cls).before a0 Z = true) (wc : (Cond.code y bytes maxL ret).before a0 Z = true) (hy : x.cls ≠ "java/lang/invoke/MethodHandle" ∧ x.cls ≠ "java/lang/invoke/VarHandle") (E : Exa Z h a O) (pd : parseMethodDescriptor x.desc = some ⟨ps, r⟩) (hl : as'.length = ps.length) (M : Old Z n0 h → Con w Z EL n0 y bytes maxL ret (Rm cf cc cs cl) (.ref a :: as') h ssc Qc) (hsub : ∀ x ∈ ssc, x ∈ ss) (hL : L.size = ml) (hfr : cf + 1 ≤ rf) (hlo : (st.map fun v => v.category).sum + (maxL + 11) + cl ≤ rl) (hc : k + cc ≤ rc) (hn : n + cs ≤ rs) (d : Dc code pc (.invokevirtual i) 3 pc') (hst : stk = as'.reverse ++ .ref a :: st) (G : ∀ v h' gs, Keep h h' ssc → Qc v h' gs → Go w K Z EL n0 ss0 Q pc' L (v.toList ++ st) h' (gs ++ ss) (k + cc) (n + cs)) : Go w K Z EL n0 ss0 Q pc L stk h ss k n := by
  obtain ⟨d1, rfl⟩ := d
  subst hst
  intro T H
  obtain ⟨vm0, locs, k0, X, N, eT, hS, hk, hZ, hv, hC, hF, hO, hK⟩ := H
  have hR : K.R = Rm rf rc rs rl := C.2.2.2.2.2.2.2.1
  have hown : (K.s.setVm vm0).vm.findClass own = some K.m.cls := fcl C hS
  have hZ' : Z.Warmed39 (K.s.setVm vm0).vm := hZ
  have hsz : L.size = K.c.maxLocals := hL.trans C.2.2.1.symm
  obtain ⟨cq, kq, qa, qb, qc⟩ := isOf (T := T) hZ' eT E
  cases w with
  | false =>
    obtain ⟨v, vm₁, B, hW, X', hp, stp⟩ := X.virtualBack C.1 (y := x) (z := y) hown (mvT hZ' wl) (mvT hZ' wd) (hnf _ hZ') (mvT hZ' wse) (mvT hZ' wm) hy (conBack (W := (st.map fun v => v.category).sum) (M hO) hZ' wc wi (by rw [hR]; exact hfr) (by rw [hR]; exact hlo)) qa qc (g := mkF K.m pc L (as'.reverse ++ .ref a :: st)) rfl hsz (Steps.refl _) (argsL := as') (rest := st) (lenOf pd hl) rfl (by show 2 * 0 + _ ≤ _; omega) (hb C.2.1 d1) (fun vm₁ hW => pre C eT hZ hC hF hsub hW hc hn)
    obtain ⟨gs, H', hQ, hKe⟩ := after C N hS hk hZ hv hC hF hK hsub hW hp (Or.inl ⟨rfl, X'⟩)
    exact Fns.steps (fun t r => stp.trans r) (G v _ gs hKe hQ _ H')
  | true =>
    obtain ⟨v, vm₁, B, hW, X', hS', -, hp, stp⟩ := X.virtualBackS C.1 (y := x) (z := y) hown (mvT hZ' wl) (mvT hZ' wd) (hnf _ hZ') (mvT hZ' wse) (mvT hZ' wm) hy (conBackS (W := (st.map fun v => v.category).sum) (M hO) hZ' wc wi (by rw [hR]; exact hfr) (by rw [hR]; exact hlo)) qa qc (g := mkF K.m pc L (as'.reverse ++ .ref a :: st)) rfl hsz (Steps.refl _) (argsL := as') (rest := st) (lenOf pd hl) rfl (by show 2 * 0 + _ ≤ _; omega) (hb C.2.1 d1) (fun vm₁ hW => pre C eT hZ hC hF hsub hW hc hn)
    obtain ⟨gs, H', hQ, hKe⟩ := after C N hS hk hZ hv hC hF hK hsub hW hp (Or.inr ⟨rfl, X', hS'⟩)
    exact Fns.steps (fun t r => stp.trans r) (G v _ gs hKe hQ _ H')
theorem callP_ {rf rc rs rl cf cc cs cl : Nat} (C : Cx w K Z a0 EL own code ml rt mn (Rm rf rc rs rl)) {i : Nat} {ps : List FieldType} {r : Option FieldType} {a : Addr} {as' : List Value} {O O' : String} (wl : (Cond.methodLink own i y).before a0 Z = true) (wm : (Cond.instanceMethod y).before a0 Z = true) (wse : (Cond.selects O' y y).before a0 Z = true) (wp : (Cond.privateMethod y).before a0 Z = true) (wi : (Cond.initialized y.cls).before a0 Z = true) (wc : (Cond.code y bytes maxL ret).before a0 Z = true) (hy : y.cls ≠ "java/lang/invoke/MethodHandle" ∧ y.cls ≠ "java/lang/invoke/VarHandle") (E : Exa Z h a O) (pd : parseMethodDescriptor y.desc = some ⟨ps, r⟩) (hl : as'.length = ps.length) (M : Old Z n0 h → Con w Z EL n0 y bytes maxL ret (Rm cf cc cs cl) (.ref a :: as') h ssc Qc) (hsub : ∀ x ∈ ssc, x ∈ ss) (hL : L.size = ml) (hfr : cf + 1 ≤ rf) (hlo : (st.map fun v => v.category).sum + (maxL + 11) + cl ≤ rl) (hc : k + cc ≤ rc) (hn : n + cs ≤ rs) (d : Dc code pc (.invokevirtual i) 3 pc') (hst : stk = as'.reverse ++ .ref a :: st) (G : ∀ v h' gs, Keep h h' ssc → Qc v h' gs → Go w K Z EL n0 ss0 Q pc' L (v.toList ++ st) h' (gs ++ ss) (k + cc) (n + cs)) : Go w K Z EL n0 ss0 Q pc L stk h ss k n := by
  obtain ⟨d1, rfl⟩ := d
  subst hst
  intro T H
  obtain ⟨vm0, locs, k0, X, N, eT, hS, hk, hZ, hv, hC, hF, hO, hK⟩ := H
  have hR : K.R = Rm rf rc rs rl := C.2.2.2.2.2.2.2.1
  have hown : (K.s.setVm vm0).vm.findClass own = some K.m.cls := fcl C hS
  have hZ' : Z.Warmed39 (K.s.setVm vm0).vm := hZ
  have hsz : L.size = K.c.maxLocals := hL.trans C.2.2.1.symm
  obtain ⟨cq, q1, q2⟩ := E.cell
  have hpriv : (K.s.setVm vm0).PrivateAt y := Cond.privateMethod_at (mvP hZ' wp (args := #[]))
  obtain ⟨c2, r2, m2, -, -, q3, -, kP, hkP, hkPi⟩ := Cond.selects_spec (mvT hZ' wse (args := K.args))
  have hself : (Cond.selects y.cls y y).before K.args (K.s.setVm vm0) = true := selects_self_of_private (findClass_of_methodNamed q3) hkP hkPi hpriv (mvT hZ' wm) hy
  cases w with
  | false =>
    obtain ⟨v, vm₁, B, hW, X', hp, stp⟩ := X.privateBack C.1 (y := y) hown (mvT hZ' wl) (mvT hZ' wm) hself hpriv (mvT hZ' wc) hy (conBack (W := (st.map fun v => v.category).sum) (M hO) hZ' wc wi (by rw [hR]; exact hfr) (by rw [hR]; exact hlo)) (g := mkF K.m pc L (as'.reverse ++ .ref a :: st)) rfl hsz (Steps.refl _) (a := a) (by rw [eT]; exact q1) q2 (argsL := as') (rest := st) (lenOf pd hl) rfl (by show 2 * 0 + _ ≤ _; omega) (hb C.2.1 d1) (fun vm₁ hW => pre C eT hZ hC hF hsub hW hc hn)
    obtain ⟨gs, H', hQ, hKe⟩ := after C N hS hk hZ hv hC hF hK hsub hW hp (Or.inl ⟨rfl, X'⟩)
    exact Fns.steps (fun t r => stp.trans r) (G v _ gs hKe hQ _ H')
  | true =>
    obtain ⟨v, vm₁, B, hW, X', hS', -, hp, stp⟩ := X.privateBackS C.1 (y := y) hown (mvT hZ' wl) (mvT hZ' wm) hself hpriv (mvT hZ' wc) hy (conBackS (W := (st.map fun v => v.category).sum) (M hO) hZ' wc wi (by rw [hR]; exact hfr) (by rw [hR]; exact hlo)) (g := mkF K.m pc L (as'.reverse ++ .ref a :: st)) rfl hsz (Steps.refl _) (a := a) (by rw [eT]; exact q1) q2 (argsL := as') (rest := st) (lenOf pd hl) rfl (by show 2 * 0 + _ ≤ _; omega) (hb C.2.1 d1) (fun vm₁ hW => pre C eT hZ hC hF hsub hW hc hn)
    obtain ⟨gs, H', hQ, hKe⟩ := after C N hS hk hZ hv hC hF hK hsub hW hp (Or.inr ⟨rfl, X', hS'⟩)
    exact Fns.steps (fun t r => stp.trans r) (G v _ gs hKe hQ _ H')
theorem callU_ {rf rc rs rl cf cc cs cl : Nat} (C : Cx w K Z a0 EL own code ml rt mn (Rm rf rc rs rl)) {i : Nat} {ps : List FieldType} {r : Option FieldType} {a : Addr} {as' : List Value} {O : String} (wl : (Cond.methodLink own i y).before a0 Z = true) (wsm : (Cond.sameMethod y.cls y.cls y.name y.desc).before a0 Z = true) (wm : (Cond.instanceMethod y).before a0 Z = true) (wsu : (Cond.superclass own y.cls).before a0 Z = true) (hnm : y.name ≠ "<init>") (wi : (Cond.initialized y.cls).before a0 Z = true) (wc : (Cond.code y bytes maxL ret).before a0 Z = true) (E : Exa Z h a O) (pd : parseMethodDescriptor y.desc = some ⟨ps, r⟩) (hl : as'.length = ps.length) (M : Old Z n0 h → Con w Z EL n0 y bytes maxL ret (Rm cf cc cs cl) (.ref a :: as') h ssc Qc) (hsub : ∀ x ∈ ssc, x ∈ ss) (hL : L.size = ml) (hfr : cf + 1 ≤ rf) (hlo : (st.map fun v => v.category).sum + (maxL + 11) + cl ≤ rl) (hc : k + cc ≤ rc) (hn : n + cs ≤ rs) (d : Dc code pc (.invokespecial i) 3 pc') (hst : stk = as'.reverse ++ .ref a :: st) (G : ∀ v h' gs, Keep h h' ssc → Qc v h' gs → Go w K Z EL n0 ss0 Q pc' L (v.toList ++ st) h' (gs ++ ss) (k + cc) (n + cs)) : Go w K Z EL n0 ss0 Q pc L stk h ss k n := by
  obtain ⟨d1, rfl⟩ := d
  subst hst
  intro T H
  obtain ⟨vm0, locs, k0, X, N, eT, hS, hk, hZ, hv, hC, hF, hO, hK⟩ := H
  have hR : K.R = Rm rf rc rs rl := C.2.2.2.2.2.2.2.1
  have hown : (K.s.setVm vm0).vm.findClass own = some K.m.cls := fcl C hS
  have hZ' : Z.Warmed39 (K.s.setVm vm0).vm := hZ
  have hsz : L.size = K.c.maxLocals := hL.trans C.2.2.1.symm
  cases w with
  | false =>
    obtain ⟨v, vm₁, B, hW, X', hp, stp⟩ := superBack X C.1 hZ' (y := y) hown wl wsm wm wsu hnm (conBack (W := (st.map fun v => v.category).sum) (M hO) hZ' wc wi (by rw [hR]; exact hfr) (by rw [hR]; exact hlo)) eT (Ins.self E) (g := mkF K.m pc L (as'.reverse ++ .ref a :: st)) rfl hsz wc (argsL := as') (rest := st) (lenOf pd hl) rfl (by show 2 * 0 + _ ≤ _; omega) (hb C.2.1 d1) (fun vm₁ hW => pre C eT hZ hC hF hsub hW hc hn)
    obtain ⟨gs, H', hQ, hKe⟩ := after C N hS hk hZ hv hC hF hK hsub hW hp (Or.inl ⟨rfl, X'⟩)
    exact Fns.steps (fun t r => stp.trans r) (G v _ gs hKe hQ _ H')
  | true =>
    obtain ⟨v, vm₁, B, hW, X', hS', -, hp, stp⟩ := superBackS X C.1 hZ' (y := y) hown wl wsm wm wsu hnm (conBackS (W := (st.map fun v => v.category).sum) (M hO) hZ' wc wi (by rw [hR]; exact hfr) (by rw [hR]; exact hlo)) eT (Ins.self E) (g := mkF K.m pc L (as'.reverse ++ .ref a :: st)) rfl hsz wc (argsL := as') (rest := st) (lenOf pd hl) rfl (by show 2 * 0 + _ ≤ _; omega) (hb C.2.1 d1) (fun vm₁ hW => pre C eT hZ hC hF hsub hW hc hn)
    obtain ⟨gs, H', hQ, hKe⟩ := after C N hS hk hZ hv hC hF hK hsub hW hp (Or.inr ⟨rfl, X', hS'⟩)
    exact Fns.steps (fun t r => stp.trans r) (G v _ gs hKe hQ _ H')
theorem Ary.ofArv {b : Addr} {kc : ClassId} {ty : FieldType} {z : Int32} {vs : List Value} {dv : Value} (F : Arv Z h b kc ty z vs dv) (hl : z.toNatClampNeg = vs.length) : Ary Z h b ty vs := by
  obtain ⟨c, A, -, e2, -, H, -⟩ := F
  have hlt := rng32 z
  refine ⟨c, A, ?_, by rw [← hl]; simp only [Int32.toNatClampNeg]; omega⟩
  apply Array.ext_getElem?
  intro j
  by_cases q : j < c.slots.size
  · rw [H j q]
    have q' : j < vs.length := by omega
    simp [q']
  · have q' : ¬ j < vs.length := by omega
    rw [Array.getElem?_eq_none (by omega)]
    simp; omega
theorem ldcS_ {w : Bool} {rf rc rs rl : Nat} (hw : w = true) (C : Cx w K Z a0 EL own code ml rt mn (Rm rf rc rs rl)) {i : Nat} {text : String} (wl : (Cond.stringLink own i text).before a0 Z = true) (wS : ∀ a ∈ Bundle.stringAtoms, a.before a0 Z = true) (hmem : (own, i) ∈ EL)
    {vs : List Value} {z : Int32} (ht : (∀ c ∈ text.toList, c.toNat < 256) ∧ text.toList.map (fun c => Value.int (Jvm.Lit.byteI c.toNat.toUInt16)) = vs) (hz : ¬ z < 0) (hl : z.toNatClampNeg = vs.length) {nn : Nat} (hnn : 4 * text.toList.length ≤ nn) (hbig : nn ≤ 536870912) (hc : k + 2 ≤ rc) (hn : n + (nn + 4) ≤ rs)
    (d : Dc code pc (.ldc i) 2 pc') (G : ∀ h' a b, Keep h h' [] → Exa Z h' a "java/lang/String" → Fld Z h' a "java/lang/String" "coder" "B" (.int 0) → Fld Z h' a "java/lang/String" "value" "[B" (.ref b) → Ary Z h' b .byte vs → (∀ x ∈ ss, x ≠ a ∧ x ≠ b) → Go w K Z EL n0 ss0 Q pc' L (.ref a :: st) h' ss (k + 2) (n + (nn + 4))) : Go w K Z EL n0 ss0 Q pc L st h ss k n := by
  obtain ⟨d1, rfl⟩ := d
  intro T H
  obtain ⟨vm0, locs, k0, X, N, eT, hS, hk, hZ, hv, hC, hF, hO, hK⟩ := H
  have hR : K.R = Rm rf rc rs rl := C.2.2.2.2.2.2.2.1
  have hown : vm0.findClass own = some K.m.cls := fcl C hS
  obtain ⟨a, T', h', k1, b, kb, X', e', E, hS', hk', hZ', -, g1, g2, g3, g4, -, -, hCr, -, hSf, stp⟩ := ldcCH X C.1 hZ hown wl wS eT hS hk C.2.2.2.2.2.2.2.2.1 hmem hC.1 ht hz hl (g := mkF K.m pc L st) rfl (hb C.2.1 d1) hnn hbig (by rw [hR]; exact hc) (by rw [hR]; exact hn)
  have hF' : Sf Z EL n0 T'.vm h' ss0 K.s.heap ss := fun x hx => by
    obtain ⟨f1, f2, f3, f4⟩ := hF x hx
    exact ⟨f1, Nat.lt_of_lt_of_le f2 E.1, hCr.safe f2 f3, f4⟩
  exact Fns.steps stp (G h' a b ((Keep.refl h []).ext E) g1 g2 g3 (Ary.ofArv g4 hl) (fun x hx => hSf x (hF' x hx).2.2.1) T' ⟨T'.vm, locs, k1, X', N, e', hS', hk', hZ', (fun q => by rw [hw] at q; cases q), hC.trans hCr, hF', hO.ext E, hK.ext E⟩)
end Calls
end Jvm.Own
namespace Jvm.Own
open Jvm Jvm.ClassFile Sem Op Lib Jvm.Free Jvm.Stand Jvm.LawKit Jvm.RoadKit
/-- two roads that meet again with an int on the stack -/
theorem Go.join {w : Bool} {K : IV} {Z : State} {EL : List (String × Nat)} {n0 : Nat} {ss0 ss : List Addr} {Q : Option Value → Heap → List Addr → Prop} {pc pcJ : Nat} {L LJ : Array Slot} {st stJ : List Value} {h : Heap} {k n : Nat} {c : Prop} [Decidable c] {x y : Int32}
    (B : (c → Go w K Z EL n0 ss0 Q pcJ LJ (.int x :: stJ) h ss k n) → (¬ c → Go w K Z EL n0 ss0 Q pcJ LJ (.int y :: stJ) h ss k n) → Go w K Z EL n0 ss0 Q pc L st h ss k n) (G : Go w K Z EL n0 ss0 Q pcJ LJ (.int (if c then x else y) :: stJ) h ss k n) : Go w K Z EL n0 ss0 Q pc L st h ss k n :=
  B (fun q => by rw [if_pos q] at G; exact G) (fun q => by rw [if_neg q] at G; exact G)
end Jvm.Own
namespace Jvm.Own
open Jvm Jvm.ClassFile Sem Op Lib Jvm.Free Jvm.Stand Jvm.LawKit Jvm.RoadKit
/-! OWN KIT 4: Strings, plain facts on chars and indices -/
theorem catR {v : Value} (h : v.isRef = true) : v.category = 1 := by cases v <;> simp_all [Value.isRef, Value.category]
theorem st1 {L L' : Array Slot} {j : Nat} {v : Value} {o : Slot} (hold : L[j]? = some o) (ho : o = .unset ∨ ∃ w, o = .val w ∧ w.category = 1) (hv : v.category = 1) (e : L.setIfInBounds j (.val v) = L') : storeLocals L j v = some L' := e ▸ XS.store1 hold ho hv
def isCh (c : Int32) : Prop := 0 ≤ c.toInt ∧ c.toInt < 65536
def chs (cs : List Int32) : List Value := cs.map Value.int
def lat (cs : List Int32) : List Value := cs.map fun c => Value.int (nar .byte c)
def utf (cs : List Int32) : List Value := cs.flatMap fun c => [Value.int (nar .byte c), Value.int (nar .byte (c >>> 8))]
theorem chs_len (cs : List Int32) : (chs cs).length = cs.length := by simp [chs]
theorem lat_len (cs : List Int32) : (lat cs).length = cs.length := by simp [lat]
theorem utf_len (cs : List Int32) : (utf cs).length = 2 * cs.length := by
  induction cs with
  | nil => rfl
  | cons c r ih => simp [utf] at ih ⊢; omega
theorem i32e {x y : Int32} (h : x.toInt = y.toInt) : x = y := Int32.toInt_inj.mp h
theorem lt32 (x y : Int32) : x < y ↔ x.toInt < y.toInt := Int32.lt_iff_toInt_lt
theorem narc (x : Int32) : ((nar .char x).toInt - x.toInt) % 65536 = 0 ∧ 0 ≤ (nar .char x).toInt ∧ (nar .char x).toInt < 65536 := c_i2c x
theorem narb (x : Int32) : ((nar .byte x).toInt - x.toInt) % 256 = 0 ∧ -128 ≤ (nar .byte x).toInt ∧ (nar .byte x).toInt < 128 := c_i2b x
theorem narc_id {x : Int32} (h : isCh x) : nar .char x = x := i32e (by have := narc x; have := h.1; have := h.2; omega)
theorem narc_ch (x : Int32) : isCh (nar .char x) := (narc x).2
theorem narb_id {x : Int32} (h : -128 ≤ x.toInt ∧ x.toInt < 128) : nar .byte x = x := i32e (by have := narb x; omega)
theorem narb_idem (x : Int32) : nar .byte (nar .byte x) = nar .byte x := narb_id (narb x).2
theorem narc_idem (x : Int32) : nar .char (nar .char x) = nar .char x := narc_id (narc_ch x)
theorem mask8 (x : Int32) : (x &&& 255).toInt = x.toInt % 256 := c_mask x 255 8 (by decide) (by decide)
theorem lat_char {c : Int32} (h : 0 ≤ c.toInt ∧ c.toInt < 256) : nar .char (nar .byte c &&& 255) = c := by
  have e := mask8 (nar .byte c)
  have := narb c
  rw [narc_id (by unfold isCh; omega)]
  exact i32e (by omega)
theorem narb_inj {x y : Int32} (hx : 0 ≤ x.toInt ∧ x.toInt < 256) (hy : 0 ≤ y.toInt ∧ y.toInt < 256) (h : nar .byte x = nar .byte y) : x = y := i32e (by
  have a := narb x; have b := narb y; rw [h] at a; omega)
def natI (i : Nat) : Int32 := Nat.toInt32 i
theorem natI_toInt {i : Nat} (h : i < 2 ^ 31) : (natI i).toInt = i := len_toInt h
theorem natI_clamp {i : Nat} (h : i < 2 ^ 31) : (natI i).toNatClampNeg = i := by
  show (natI i).toInt.toNat = i
  rw [natI_toInt h]; rfl
theorem natI_succ {i : Nat} (h : i + 1 < 2 ^ 31) : natI i + 1 = natI (i + 1) := i32e (by
  have a := c_iadd (natI i) 1
  have b := natI_toInt (i := i) (by omega)
  have c := natI_toInt h
  have d : (1 : Int32).toInt = 1 := rfl
  have := rng32 (natI i + 1)
  omega)
/-- the bytes of a String that spells cs -/
def Byt (cs : List Int32) (z : Int32) (vs : List Value) : Prop := ((∀ c ∈ cs, c.toInt < 256) ∧ z = 0 ∧ vs = lat cs) ∨ ((∃ c ∈ cs, 256 ≤ c.toInt) ∧ z = 1 ∧ vs = utf cs)
abbrev sS : String := "java/lang/String"
/-- at a lies a String that spells cs -/
def Str (Z : State) (h : Heap) (a : Addr) (cs : List Int32) : Prop := Exa Z h a "java/lang/String" ∧ (∀ c ∈ cs, isCh c) ∧ cs.length ≤ 4096 ∧ ∃ (b : Addr) (z : Int32) (vs : List Value), Fld Z h a "java/lang/String" "value" "[B" (.ref b) ∧ Fld Z h a "java/lang/String" "coder" "B" (.int z) ∧ Ary Z h b .byte vs ∧ Byt cs z vs
section Facts
variable {Z : State} {h h' : Heap} {a b x : Addr} {cs cs' : List Int32} {a0 : Array Value}
theorem Str.keep (F : Str Z h a cs) (K : Keep h h' []) : Str Z h' a cs := by
  obtain ⟨E, h1, h2, b, z, vs, F1, F2, A, B⟩ := F
  exact ⟨E.keep K, h1, h2, b, z, vs, F1.keep K nin0, F2.keep K nin0, A.keep K nin0, B⟩
theorem Str.keepX {C : String} {kk : Nat} (F : Str Z h a cs) (K : Keep h h' [x]) (E : Exa Z h x C) (hC : "java/lang/String" ≠ C) (wi : (Cond.instantiable C kk).before a0 Z = true) : Str Z h' a cs := by
  obtain ⟨E0, h1, h2, b, z, vs, F1, F2, A, B⟩ := F
  have n1 : a ∉ [x] := ninS (ne_exa E0 E hC) nin0
  have n2 : b ∉ [x] := ninS (by obtain ⟨c, A', -⟩ := A; exact (ne_arr E wi A').symm) nin0
  exact ⟨E0.keep K, h1, h2, b, z, vs, F1.keep K n1, F2.keep K n1, A.keep K n2, B⟩
theorem Str.lt (F : Str Z h a cs) : a < h.size := F.1.lt
theorem Fld.fn {C n d : String} {v w : Value} (F : Fld Z h a C n d v) (G : Fld Z h a C n d w) : v = w := by
  by_cases q : v = w
  · exact q
  · exact absurd rfl (F.ne G q)
theorem Ary.fn {ty : FieldType} {vs ws : List Value} (F : Ary Z h a ty vs) (G : Ary Z h a ty ws) : vs = ws := by
  obtain ⟨c, A, e, -⟩ := F
  obtain ⟨c', A', e', -⟩ := G
  cases A.1.symm.trans A'.1
  rw [e] at e'
  simpa using e'
theorem lat_inj {cs cs' : List Int32} (h : ∀ c ∈ cs, 0 ≤ c.toInt ∧ c.toInt < 256) (h' : ∀ c ∈ cs', 0 ≤ c.toInt ∧ c.toInt < 256) (e : lat cs = lat cs') : cs = cs' := by
  induction cs generalizing cs' with
  | nil => cases cs' with
    | nil => rfl
    | cons _ _ => simp [lat] at e
  | cons c r ih => cases cs' with
    | nil => simp [lat] at e
    | cons c' r' =>
      simp only [lat, List.map_cons, List.cons.injEq, Value.int.injEq] at e
      rw [narb_inj (h c (by simp)) (h' c' (by simp)) e.1, ih (fun x hx => h x (by simp [hx])) (fun x hx => h' x (by simp [hx])) e.2]
theorem utf1_inj {x y : Int32} (hx : isCh x) (hy : isCh y) (h : nar .byte x = nar .byte y) (h' : nar .byte (x >>> 8) = nar .byte (y >>> 8)) : x = y := i32e (by
  have a := narb x; have b := narb y; rw [h] at a
  have a' := narb (x >>> 8); have b' := narb (y >>> 8); rw [h'] at a'
  have e1 : (x >>> 8).toInt = x.toInt / 256 := c_ishr x 8 8 (by decide)
  have e2 : (y >>> 8).toInt = y.toInt / 256 := c_ishr y 8 8 (by decide)
  have := hx.1; have := hx.2; have := hy.1; have := hy.2
  omega)
theorem utf_inj {cs cs' : List Int32} (h : ∀ c ∈ cs, isCh c) (h' : ∀ c ∈ cs', isCh c) (e : utf cs = utf cs') : cs = cs' := by
  induction cs generalizing cs' with
  | nil => cases cs' with
    | nil => rfl
    | cons _ _ => simp [utf] at e
  | cons c r ih => cases cs' with
    | nil => simp [utf] at e
    | cons c' r' =>
      simp only [utf, List.flatMap_cons, List.cons_append, List.nil_append, List.cons.injEq, Value.int.injEq] at e
      rw [utf1_inj (h c (by simp)) (h' c' (by simp)) e.1 e.2.1, ih (fun x hx => h x (by simp [hx])) (fun x hx => h' x (by simp [hx])) e.2.2]
theorem Byt.iff {z z' : Int32} {vs vs' : List Value} (h : ∀ c ∈ cs, isCh c) (h' : ∀ c ∈ cs', isCh c) (B : Byt cs z vs) (B' : Byt cs' z' vs') : (z = z' ∧ vs = vs') ↔ cs = cs' := by
  constructor
  · rintro ⟨rfl, rfl⟩
    rcases B with ⟨q, rfl, rfl⟩ | ⟨q, rfl, rfl⟩ <;> rcases B' with ⟨q', e1, e2⟩ | ⟨q', e1, e2⟩
    · exact lat_inj (fun c hc => ⟨(h c hc).1, q c hc⟩) (fun c hc => ⟨(h' c hc).1, q' c hc⟩) e2
    · exact absurd e1 (by decide)
    · exact absurd e1 (by decide)
    · exact utf_inj h h' e2
  · rintro rfl
    rcases B with ⟨q, rfl, rfl⟩ | ⟨⟨c, hc, q⟩, rfl, rfl⟩ <;> rcases B' with ⟨q', e1, e2⟩ | ⟨⟨c', hc', q'⟩, e1, e2⟩
    · exact ⟨e1.symm, e2.symm⟩
    · have := q c' hc'; omega
    · have := q' c hc; omega
    · exact ⟨e1.symm, e2.symm⟩
theorem Str.fn (F : Str Z h a cs) (G : Str Z h a cs') : cs = cs' := by
  obtain ⟨-, h1, -, b, z, vs, F1, F2, A, B⟩ := F
  obtain ⟨-, h1', -, b', z', vs', F1', F2', A', B'⟩ := G
  have e1 := Fld.fn F1 F1'
  have e2 := Fld.fn F2 F2'
  simp only [Value.ref.injEq, Value.int.injEq] at e1 e2
  subst e1
  exact (Byt.iff h1 h1' B B').mp ⟨e2, A.fn A'⟩
end Facts
end Jvm.Own
namespace Jvm.Own
open Jvm Jvm.ClassFile Sem Op Lib Jvm.Free Jvm.Stand Jvm.LawKit Jvm.RoadKit
section Facts2
variable {Z : State} {h h' : Heap} {a b x : Addr} {cs cs' : List Int32} {a0 : Array Value}
theorem Ary.ne {ty ty' : FieldType} {vs ws : List Value} (F : Ary Z h a ty vs) (G : Ary Z h b ty' ws) (q : ty ≠ ty') : a ≠ b := fun e => by
  subst e
  obtain ⟨c, A, -⟩ := F
  obtain ⟨c', A', -⟩ := G
  cases A.1.symm.trans A'.1
  obtain ⟨-, k, hk, comp, hkind⟩ := A.2.1
  obtain ⟨-, k', hk', comp', hkind'⟩ := A'.2.1
  cases hk.symm.trans hk'
  have := hkind.symm.trans hkind'
  injection this with _ e
  exact q e
theorem Ary.neX {ty : FieldType} {vs : List Value} {C : String} {kk : Nat} (F : Ary Z h a ty vs) (E : Exa Z h x C) (wi : (Cond.instantiable C kk).before a0 Z = true) : a ≠ x := by
  obtain ⟨c, A, -⟩ := F
  exact (ne_arr E wi A).symm
theorem Ary.other {ty : FieldType} {vs : List Value} {sl : Nat} {v : Value} (F : Ary Z h a ty vs) (W : Wr h h' b sl v) (q : a ≠ b) : Ary Z h' a ty vs := F.keep (Keep.of_wr W) (ninS q nin0)
/-- how many chars ahead of the first above 255 -/
def pfx (cs : List Int32) : Nat := (cs.takeWhile fun c => decide (c.toInt < 256)).length
theorem pfx_all (h : ∀ c ∈ cs, c.toInt < 256) : pfx cs = cs.length := by
  induction cs with
  | nil => rfl
  | cons x r ih =>
    have e := ih (fun c hc => h c (by simp [hc]))
    have hx := h x (by simp)
    simp only [pfx] at e
    simp [pfx, List.takeWhile_cons, hx, e]
theorem pfx_at {i : Nat} {c : Int32} (h : ∀ c ∈ cs.take i, c.toInt < 256) (hc : cs[i]? = some c) (q : 256 ≤ c.toInt) : pfx cs = i := by
  induction cs generalizing i with
  | nil => simp at hc
  | cons x r ih =>
    cases i with
    | zero =>
      simp at hc; subst hc
      simp [pfx, List.takeWhile_cons, show ¬ x.toInt < 256 by omega]
    | succ i =>
      have hx : x.toInt < 256 := h x (by simp)
      have := ih (i := i) (fun c hc => h c (by simp [hc])) (by simpa using hc)
      simp only [pfx] at this
      simp [pfx, List.takeWhile_cons, hx, this]
theorem lat_set {i m : Nat} {c : Int32} (hm : i + (m + 1) = cs.length) (hc : cs[i]? = some c) : (lat (cs.take i) ++ List.replicate (m + 1) (Value.int 0)).set i (.int (nar .byte (nar .byte c))) = lat (cs.take (i + 1)) ++ List.replicate m (Value.int 0) := by
  have hi : i < cs.length := by omega
  have hl : (lat (cs.take i)).length = i := by rw [lat_len, List.length_take]; omega
  rw [List.set_append_right _ _ (by omega), hl, Nat.sub_self, List.replicate_succ, List.set_cons_zero, narb_idem]
  have e : cs.take (i + 1) = cs.take i ++ [c] := by
    rw [List.take_add_one, hc]; rfl
  rw [e]
  simp [lat]
theorem take_lt {i : Nat} {c : Int32} (h : ∀ c ∈ cs.take i, c.toInt < 256) (hc : cs[i]? = some c) (q : c.toInt < 256) : ∀ c ∈ cs.take (i + 1), c.toInt < 256 := by
  have e : cs.take (i + 1) = cs.take i ++ [c] := by
    rw [List.take_add_one, hc]; rfl
  rw [e]
  intro x hx
  rcases List.mem_append.mp hx with hx | hx
  · exact h x hx
  · simp at hx; subst hx; exact q
theorem chs_at {i : Nat} {c : Int32} (hc : cs[i]? = some c) : (chs cs)[i]? = some (.int c) := by simp [chs, hc]
theorem lat_at {i : Nat} {c : Int32} (hc : cs[i]? = some c) : (lat cs)[i]? = some (.int (nar .byte c)) := by simp [lat, hc]
theorem utf_at {i : Nat} {c : Int32} (hc : cs[i]? = some c) : (utf cs)[2 * i]? = some (.int (nar .byte c)) ∧ (utf cs)[2 * i + 1]? = some (.int (nar .byte (c >>> 8))) := by
  induction cs generalizing i with
  | nil => simp at hc
  | cons x r ih =>
    cases i with
    | zero => simp at hc; subst hc; simp [utf]
    | succ i =>
      have := ih (i := i) (by simpa using hc)
      simp only [utf] at this ⊢
      simp only [List.flatMap_cons, List.cons_append, List.nil_append]
      have e1 : 2 * (i + 1) = (2 * i) + 1 + 1 := by omega
      have e2 : 2 * (i + 1) + 1 = (2 * i + 1) + 1 + 1 := by omega
      rw [e2, e1]
      simpa using this
end Facts2
end Jvm.Own
namespace Jvm.Own
open Jvm Jvm.ClassFile Sem Op Lib Jvm.Free Jvm.Stand Jvm.LawKit Jvm.RoadKit
section Facts3
variable {cs cs' : List Int32}
theorem pfx_le (cs : List Int32) : pfx cs ≤ cs.length := (List.takeWhile_sublist _).length_le
theorem pfx_take (cs : List Int32) : ∀ c ∈ cs.take (pfx cs), c.toInt < 256 := by
  induction cs with
  | nil => simp
  | cons x r ih =>
    by_cases hx : x.toInt < 256
    · intro c hc
      have e : pfx (x :: r) = pfx r + 1 := by simp [pfx, List.takeWhile_cons, hx]
      rw [e, List.take_succ_cons] at hc
      rcases List.mem_cons.mp hc with rfl | hc
      · exact hx
      · exact ih c hc
    · intro c hc
      have e : pfx (x :: r) = 0 := by simp [pfx, List.takeWhile_cons, hx]
      rw [e] at hc; simp at hc
theorem pfx_full (h : pfx cs = cs.length) : ∀ c ∈ cs, c.toInt < 256 := by
  have := pfx_take cs; rw [h, List.take_length] at this; exact this
theorem pfx_next (h : pfx cs < cs.length) : ∃ c, cs[pfx cs]? = some c ∧ 256 ≤ c.toInt := by
  induction cs with
  | nil => simp at h
  | cons x r ih =>
    by_cases hx : x.toInt < 256
    · have e : pfx (x :: r) = pfx r + 1 := by simp [pfx, List.takeWhile_cons, hx]
      obtain ⟨c, h1, h2⟩ := ih (by rw [e] at h; simpa using h)
      exact ⟨c, by rw [e]; simpa using h1, h2⟩
    · have e : pfx (x :: r) = 0 := by simp [pfx, List.takeWhile_cons, hx]
      exact ⟨x, by rw [e]; simp, by omega⟩
theorem Byt.length {z : Int32} {vs : List Value} (B : Byt cs z vs) : (z = 0 ∧ vs.length = cs.length) ∨ (z = 1 ∧ vs.length = 2 * cs.length) := by
  rcases B with ⟨-, rfl, rfl⟩ | ⟨-, rfl, rfl⟩
  · exact Or.inl ⟨rfl, lat_len _⟩
  · exact Or.inr ⟨rfl, utf_len _⟩
theorem Byt.len_lt {z : Int32} {vs : List Value} (B : Byt cs z vs) (hl : cs.length ≤ 4096) : vs.length < 2 ^ 31 := by rcases B.length with ⟨-, e⟩ | ⟨-, e⟩ <;> omega
theorem Byt.coder {z y : Int32} {vs : List Value} (B : Byt cs z vs) (h1 : 1 ≤ cs.length) (hl : cs.length ≤ 4096) (hy : y.toInt = vs.length) : nar .byte (nar .byte (ushr (natI cs.length - y) 31)) = z := by
  have e1 := natI_toInt (i := cs.length) (by omega)
  have e2 := c_isub (natI cs.length) y
  have e3 := rng32 (natI cs.length - y)
  have e4 : (ushr (natI cs.length - y) 31).toInt = ((natI cs.length - y).toInt % 4294967296) / (2 ^ 31 : Nat) := c_iushr _ 31 31 (by decide) (by decide)
  have e6 : ((2 ^ 31 : Nat) : Int) = 2147483648 := by decide
  rw [e6] at e4
  have e5 : (ushr (natI cs.length - y) 31) = z := i32e (by
    rcases B.length with ⟨rfl, e⟩ | ⟨rfl, e⟩
    · have : (0 : Int32).toInt = 0 := rfl; omega
    · have : (1 : Int32).toInt = 1 := rfl; omega)
  rw [e5]
  rcases B.length with ⟨rfl, e⟩ | ⟨rfl, e⟩ <;> rfl
theorem Byt.ints {z : Int32} {vs : List Value} (B : Byt cs z vs) (hl : cs.length ≤ 4096) : ∃ xs : List Int32, vs = xs.map Value.int ∧ xs.length ≤ 8192 := by
  rcases B with ⟨-, -, rfl⟩ | ⟨-, -, rfl⟩
  · exact ⟨cs.map (nar .byte), by simp [lat], by simp; omega⟩
  · refine ⟨cs.flatMap fun c => [nar .byte c, nar .byte (c >>> 8)], by simp [utf, List.map_flatMap], ?_⟩
    have := utf_len cs
    have e : (utf cs).length = (cs.flatMap fun c => [nar .byte c, nar .byte (c >>> 8)]).length := by
      rw [← List.length_map Value.int]; simp [utf, List.map_flatMap]
    omega
end Facts3
end Jvm.Own
namespace Jvm.Own
open Jvm Jvm.ClassFile Sem Op Lib Jvm.Free Jvm.Stand Jvm.LawKit Jvm.RoadKit
section Facts4
variable {cs : List Int32}
theorem shl1 {x : Int32} {i : Nat} (h : x.toInt = i) (hi : i < 2 ^ 30) : (x <<< (1 &&& 31)).toInt = (2 * i : Nat) := by
  have a := c_ishl x 1 1 (by decide)
  have b := rng32 (x <<< (1 &&& 31))
  have e : ((2 ^ 1 : Nat) : Int) = 2 := by decide
  rw [e] at a
  have c : (x <<< (1 &&& 31)).toInt = 2 * i := by omega
  rw [c]; rfl
theorem shr1 {x : Int32} {m : Nat} (h : x.toInt = (2 * m : Nat)) : (x >>> (1 &&& 31)).toInt = m := by
  have a := c_ishr x 1 1 (by decide)
  have e : ((2 ^ 1 : Nat) : Int) = 2 := by decide
  rw [e] at a
  omega
theorem shr0 (x : Int32) : x >>> (0 &&& 31) = x := i32e (by
  have a := c_ishr x 0 0 (by decide)
  have e : ((2 ^ 0 : Nat) : Int) = 1 := by decide
  rw [e] at a; omega)
theorem utf_char {c : Int32} (h : isCh c) : nar .char (((nar .byte c &&& 255) <<< (0 &&& 31)) ||| ((nar .byte (c >>> 8) &&& 255) <<< (8 &&& 31))) = c := by
  obtain ⟨h1, h2⟩ := h
  have e8 : (c >>> 8).toInt = c.toInt / 256 := c_ishr c 8 8 (by decide)
  have m1 := mask8 (nar .byte c)
  have m2 := mask8 (nar .byte (c >>> 8))
  have n1 := narb c
  have n2 := narb (c >>> 8)
  have s1 := c_ishl (nar .byte c &&& 255) 0 0 (by decide)
  have s2 := c_ishl (nar .byte (c >>> 8) &&& 255) 8 8 (by decide)
  have r1 := rng32 ((nar .byte c &&& 255) <<< (0 &&& 31))
  have r2 := rng32 ((nar .byte (c >>> 8) &&& 255) <<< (8 &&& 31))
  have z0 : ((2 ^ 0 : Nat) : Int) = 1 := by decide
  have z8 : ((2 ^ 8 : Nat) : Int) = 256 := by decide
  rw [z0] at s1
  rw [z8] at s2
  have f1 : ((nar .byte c &&& 255) <<< (0 &&& 31)).toInt = c.toInt % 256 := by omega
  have f2 : ((nar .byte (c >>> 8) &&& 255) <<< (8 &&& 31)).toInt = c.toInt / 256 * 256 := by omega
  have o := c_or' ((nar .byte c &&& 255) <<< (0 &&& 31)) ((nar .byte (c >>> 8) &&& 255) <<< (8 &&& 31)) 8 (by decide) 256 z8.symm (by rw [f2]; omega) (by rw [f1]; omega) (by rw [f1]; omega)
  have r3 := rng32 (((nar .byte c &&& 255) <<< (0 &&& 31)) ||| ((nar .byte (c >>> 8) &&& 255) <<< (8 &&& 31)))
  have f3 : (((nar .byte c &&& 255) <<< (0 &&& 31)) ||| ((nar .byte (c >>> 8) &&& 255) <<< (8 &&& 31))) = c := i32e (by omega)
  rw [f3, narc_id ⟨h1, h2⟩]
theorem utf_set {i m : Nat} {c : Int32} (hm : i + (m + 1) = cs.length) (hc : cs[i]? = some c) : ((utf (cs.take i) ++ List.replicate (2 * (m + 1)) (Value.int 0)).set (2 * i) (.int (nar .byte c))).set (2 * i + 1) (.int (nar .byte (c >>> 8))) = utf (cs.take (i + 1)) ++ List.replicate (2 * m) (Value.int 0) := by
  have hi : i < cs.length := by omega
  have hl : (utf (cs.take i)).length = 2 * i := by rw [utf_len, List.length_take]; omega
  rw [List.set_append_right _ _ (by omega), hl, Nat.sub_self, List.set_append_right _ _ (by omega), hl, show 2 * (m + 1) = 2 * m + 1 + 1 by omega, List.replicate_succ, List.replicate_succ, List.set_cons_zero, show 2 * i + 1 - 2 * i = 1 by omega, List.set_cons_succ, List.set_cons_zero]
  have e : cs.take (i + 1) = cs.take i ++ [c] := by
    rw [List.take_add_one, hc]; rfl
  rw [e]
  simp [utf]
theorem Byt.isr {z y : Int32} {vs : List Value} (B : Byt cs z vs) (hl : cs.length ≤ 4096) (hy : y.toInt = vs.length) : y >>> (z &&& 31) = natI cs.length := i32e (by
  rw [natI_toInt (by omega)]
  rcases B.length with ⟨rfl, e⟩ | ⟨rfl, e⟩
  · rw [shr0, hy, e]
  · exact shr1 (by rw [hy, e]))
theorem Byt.z01 {z : Int32} {vs : List Value} (B : Byt cs z vs) : z = 0 ∨ z = 1 := B.length.imp (·.1) (·.1)
theorem Byt.nb {z : Int32} {vs : List Value} (B : Byt cs z vs) : nar .byte z = z := by rcases B.z01 with rfl | rfl <;> rfl
theorem Byt.zero {vs : List Value} (B : Byt cs 0 vs) : (∀ c ∈ cs, c.toInt < 256) ∧ vs = lat cs := by
  rcases B with ⟨q, -, e⟩ | ⟨-, q, -⟩
  · exact ⟨q, e⟩
  · exact absurd q (by decide)
theorem Byt.one {vs : List Value} (B : Byt cs 1 vs) : vs = utf cs := by
  rcases B with ⟨-, q, -⟩ | ⟨-, -, e⟩
  · exact absurd q (by decide)
  · exact e
end Facts4
end Jvm.Own
namespace Jvm.Own
open Jvm Jvm.ClassFile Sem Op Lib Jvm.Free Jvm.Stand Jvm.LawKit Jvm.RoadKit
theorem eq_val {args : Array Value} {first s : State} {o : Option Outcome} {idx : List Nat} {t : Term} {q : Int32} (h : (Jvm.Cond.eq t (.int q)).value args first o s idx = some true) : t.eval args first o idx s = some (.int q) := by
  obtain ⟨x, y, h1, h2, k1, k2⟩ := cmp_v (Or.inl h)
  cases (Term.int_eval q).symm.trans h2
  obtain ⟨z, rfl⟩ := k2
  have := gotT (Cond.eq_ints h1 h2) h
  rw [h1, this]
end Jvm.Own
namespace Jvm.Own
open Jvm Jvm.ClassFile Sem Op Lib Jvm.Free Jvm.Stand Jvm.LawKit Jvm.RoadKit
theorem Ary.fill {Z : State} {h : Heap} {b : Addr} {ty : FieldType} {v w : Value} {i j m n : Nat} (F : Ary Z h b ty ((List.replicate i v ++ List.replicate m w).set i v)) (hm : m = n + 1) (hj : j = i + 1) : Ary Z h b ty (List.replicate j v ++ List.replicate n w) := by
  subst hm hj
  have e : (List.replicate i v ++ List.replicate (n + 1) w).set i v = List.replicate (i + 1) v ++ List.replicate n w := by
    rw [List.set_append_right _ _ (by simp), List.length_replicate, Nat.sub_self, List.replicate_succ, List.set_cons_zero, List.replicate_succ', List.append_assoc]; rfl
  rw [e] at F; exact F
end Jvm.Own
namespace Jvm.Own
open Jvm Jvm.ClassFile Sem Op Lib Jvm.Free Jvm.Stand Jvm.LawKit Jvm.RoadKit
/-! OWN KIT 5: System.arraycopy between byte arrays, clone of a byte array -/
section Copy
variable {w : Bool} {K : IV} {Z : State} {a0 : Array Value} {EL : List (String × Nat)} {n0 : Nat} {ss0 ss : List Addr} {Q : Option Value → Heap → List Addr → Prop} {pc pc' pcT : Nat} {L L' : Array Slot} {st st' : List Value} {h h' : Heap} {k n : Nat} {own : String} {code : ByteArray} {ml : Nat} {rt : Option FieldType} {mn : String} {rf rc rs rl : Nat} {R : Room}
theorem Go.writeK (C : Cx w K Z a0 EL own code ml rt mn R) {a : Addr} {P : Heap → Prop} (ha : a ∈ ss) (hs : ∀ {T : State} {vm0 : Vm} {locs : List Loc}, Stand K.p K.l K.e K.R (K.s.setVm vm0) K.m K.args K.below K.meth K.c T locs k n → T.heap = h → Z.Warmed39 (K.s.setVm vm0).vm → (K.s.setVm vm0).vm.findClass own = some K.m.cls →
      ∃ T' h' J, Stand K.p K.l K.e K.R (K.s.setVm vm0) K.m K.args K.below K.meth K.c T' (locs ++ J) k n ∧ (∀ y ∈ J, y.base = a) ∧ T'.heap = h' ∧ Keep h h' [a] ∧ h'.size = h.size ∧ P h' ∧ ∀ t, Steps K.p.tables K.e K.below (T'.setTop (mkF K.m pc' L' st')) t → Steps K.p.tables K.e K.below (T.setTop (mkF K.m pc L st)) t)
    (G : ∀ h', Keep h h' [a] → P h' → Go w K Z EL n0 ss0 Q pc' L' st' h' ss k n) : Go w K Z EL n0 ss0 Q pc L st h ss k n := by
  intro T H
  obtain ⟨vm0, locs, k0, X, N, eT, hS, hk, hZ, hv, hC, hF, hO, hK⟩ := H
  obtain ⟨T', h', J, X', hJ, eT', Kp, sz, hP, st'⟩ := hs X eT hZ (fcl C hS)
  obtain ⟨f1, f2, f3, f4⟩ := hF a ha
  have hall : ∀ x ∈ [a], Safe Z EL vm0 h x := allS f3 all0
  refine Fns.steps st' (G h' Kp hP T' ⟨vm0, _, k0, X', N.app (fun y hy => by rw [hJ y hy]; exact f1), eT', hS, by rw [sz]; exact hk, hZ, hv, hC.trans (CHr.keep Kp hall hC.1), ?_, hO.keep Kp (allS f1 all0), hK.trans Kp (allS f4 all0)⟩)
  intro x hx
  obtain ⟨g1, g2, g3, g4⟩ := hF x hx
  exact ⟨g1, by rw [sz]; exact g2, Safe.keep Kp hall hC.1 g3, g4⟩
/-- ws with n of vs (from sp on) laid over it from dp on -/
def over (ws vs : List Value) (sp dp n : Nat) : List Value := ws.take dp ++ (vs.drop sp).take n ++ ws.drop (dp + n)
theorem over_len {ws vs : List Value} {sp dp n : Nat} (h1 : sp + n ≤ vs.length) (h2 : dp + n ≤ ws.length) : (over ws vs sp dp n).length = ws.length := by
  simp [over]; omega
theorem over_get {ws vs : List Value} {sp dp n : Nat} (h1 : sp + n ≤ vs.length) (h2 : dp + n ≤ ws.length) (j : Nat) : (over ws vs sp dp n)[j]? = if dp ≤ j ∧ j < dp + n then vs[sp + (j - dp)]? else ws[j]? := by
  unfold over
  have l1 : (ws.take dp).length = dp := by simp; omega
  have l2 : ((vs.drop sp).take n).length = n := by simp; omega
  by_cases q : j < dp
  · rw [if_neg (by omega), List.append_assoc, List.getElem?_append_left (by omega), List.getElem?_take_of_lt q]
  · by_cases q2 : j < dp + n
    · rw [if_pos ⟨by omega, q2⟩, List.append_assoc, List.getElem?_append_right (by omega), List.getElem?_append_left (by omega), l1, List.getElem?_take_of_lt (by omega), List.getElem?_drop]
    · rw [if_neg (by omega), List.getElem?_append_right (by rw [List.length_append]; omega), List.length_append, l1, l2, List.getElem?_drop]
      congr 1; omega
theorem acopy_ (C : Cx w K Z a0 EL own code ml rt mn (Rm rf rc rs rl)) {i : Nat} {src dst : Addr} {sp dp m : Int32} {vs ws : List Value} (wl : (Cond.methodLink own i acN).before a0 Z = true) (wn : (Cond.native acN).before a0 Z = true) (wst : (Cond.static acN).before a0 Z = true) (wi : (Cond.initialized "java/lang/System").before a0 Z = true)
    (A : Ary Z h src .byte vs) (B : Ary Z h dst .byte ws) (spn dpn mn' : Nat) (e1 : sp.toInt = spn) (e2 : dp.toInt = dpn) (e3 : m.toInt = mn') (h1 : spn + mn' ≤ vs.length) (h2 : dpn + mn' ≤ ws.length) (hf : ∀ v ∈ (vs.drop spn).take mn', fits .byte v = true) (hd : dst ∈ ss)
    (hL : L.size = ml) (hfr : 1 ≤ rf) (hlo : (st.map fun v => v.category).sum + (nativeFrameWords "java/lang/System" "arraycopy" 5 + 11) ≤ rl) (d : Dc code pc (.invokestatic i) 3 pc')
    (G : ∀ h', Keep h h' [dst] → Ary Z h' dst .byte (over ws vs spn dpn mn') → Go w K Z EL n0 ss0 Q pc' L st h' ss k n) : Go w K Z EL n0 ss0 Q pc L (.int m :: .int dp :: .ref dst :: .int sp :: .ref src :: st) h ss k n := by
  obtain ⟨d1, rfl⟩ := d
  have hR : K.R = Rm rf rc rs rl := C.2.2.2.2.2.2.2.1
  have z0 : (0 : Int32).toInt = 0 := rfl
  obtain ⟨cs, As, es, ls⟩ := A
  obtain ⟨cd, Ad, ed, ld⟩ := B
  obtain ⟨⟨ss1, ks, hks, sComp, hsk⟩, ss2⟩ := As.2
  obtain ⟨⟨dd1, kd, hkd, dComp, hdk⟩, dd2⟩ := Ad.2
  have ns : sp.toNatClampNeg = spn := by simp only [Int32.toNatClampNeg, e1]; rfl
  have nd : dp.toNatClampNeg = dpn := by simp only [Int32.toNatClampNeg, e2]; rfl
  have nm : m.toNatClampNeg = mn' := by simp only [Int32.toNatClampNeg, e3]; rfl
  have hget : ∀ j, j < mn' → ∃ v, vs[spn + j]? = some v ∧ cs.slots.getD (spn + j) .null = v := fun j hj => by
    have hlt : spn + j < vs.length := by omega
    refine ⟨vs[spn + j], List.getElem?_eq_getElem hlt, ?_⟩
    rw [es]; simp [Array.getD, hlt]
  have hvals : ∀ j, j < mn' → fits .byte (cs.slots.getD (spn + j) .null) = true := fun j hj => by
    obtain ⟨v, q1, q2⟩ := hget j hj
    rw [q2]
    refine hf v (List.mem_of_getElem? (i := j) ?_)
    rw [List.getElem?_take_of_lt hj, List.getElem?_drop]; exact q1
  refine Go.writeK C (a := dst) (P := fun h' => Ary Z h' dst .byte (over ws vs spn dpn mn')) hd (fun {T vm0 locs} X eT hZ hown => ?_) G
  obtain ⟨ks', hks', hes⟩ := hZ.alike.2.2 _ _ hks
  obtain ⟨kd', hkd', hed⟩ := hZ.alike.2.2 _ _ hkd
  have hTs : T.heap[src]? = some cs := by rw [eT]; exact As.1
  have hTd : T.heap[dst]? = some cd := by rw [eT]; exact Ad.1
  obtain ⟨vm₁, hW, X', stp⟩ := X.arraycopyK C.1 hown (mvT hZ wl) (mvT hZ wn) (mvT hZ wst) (mvT hZ wi) (src := src) (dst := dst) (srcPos := sp) (destPos := dp) (n := m) hTs hTd
    ss1 dd1 ss2 dd2 hks' hkd' (by rw [hes]; exact hsk) (by rw [hed]; exact hdk) rfl
    (by rw [Int32.lt_iff_toInt_lt, e1, z0]; omega) (by rw [Int32.lt_iff_toInt_lt, e2, z0]; omega) (by rw [Int32.lt_iff_toInt_lt, e3, z0]; omega) (by rw [e1, e3, es]; simp; omega) (by rw [e2, e3, ed]; simp; omega)
    (fun vm₁ hW j hj => by
      rw [nm] at hj; rw [ns]
      refine ⟨hvals j hj, ?_⟩
      have q := hvals j hj
      cases hv : cs.slots.getD (spn + j) .null with
      | ref x => rw [hv] at q; cases q
      | _ => trivial)
    (g := mkF K.m pc L (.int m :: .int dp :: .ref dst :: .int sp :: .ref src :: st)) rfl (hL.trans C.2.2.1.symm) rfl (hb C.2.1 d1) (by rw [hR]; exact hfr) (by show 2 * 0 + _ + _ ≤ _; rw [hR]; show _ ≤ rl; omega)
  have f0 := Cell.storeRun_facts cd dp.toNatClampNeg (cs.stretch sp.toNatClampNeg m.toNatClampNeg)
  have hlen : (cs.stretch sp.toNatClampNeg m.toNatClampNeg).length = mn' := by simp [Cell.stretch, nm]
  have hother : ∀ x, dst ≠ x → ((T.setVm vm₁).setCell dst (copied cs cd sp dp m)).heap[x]? = h[x]? := fun x hx => by rw [State.heap_setCell_other hx]; show T.heap[x]? = _; rw [eT]
  have hself : ((T.setVm vm₁).setCell dst (copied cs cd sp dp m)).heap[dst]? = some (copied cs cd sp dp m) := State.heap_setCell_self (s := T.setVm vm₁) hTd
  have hsz : ((T.setVm vm₁).setCell dst (copied cs cd sp dp m)).heap.size = h.size := by rw [← eT]; simp [State.setCell]
  refine ⟨_, _, _, X', ?_, rfl, ⟨Nat.le_of_eq hsz.symm, ?_, ?_⟩, hsz, ?_, stp⟩
  · intro y hy
    simp only [copyLocs, List.mem_map] at hy
    obtain ⟨q, -, rfl⟩ := hy; rfl
  · intro x c hx hn
    rw [hother x (fun e => hn (by simp [e]))]; exact hx
  · intro x c hx
    by_cases q : dst = x
    · subst q
      cases hx.symm.trans Ad.1
      exact ⟨_, hself, f0.1, f0.2.1, f0.2.2.1⟩
    · exact ⟨c, by rw [hother x q]; exact hx, rfl, rfl, rfl⟩
  · refine ⟨copied cs cd sp dp m, ⟨hself, ⟨fun q => by rw [f0.2.1]; exact dd1 q, kd, by rw [f0.1]; exact hkd, dComp, hdk⟩, by rw [f0.2.1]; exact dd2⟩, ?_, by rw [over_len h1 h2]; exact ld⟩
    apply Array.ext_getElem?
    intro j
    rw [Cell.storeRun_get _ _ _ _ (by rw [hlen, nd, ed]; simpa using h2), hlen, nd, show (over ws vs spn dpn mn').toArray[j]? = (over ws vs spn dpn mn')[j]? from List.getElem?_toArray, over_get h1 h2]
    by_cases q : dpn ≤ j ∧ j < dpn + mn'
    · rw [if_pos q, if_pos q]
      obtain ⟨v, q1, q2⟩ := hget (j - dpn) (by omega)
      rw [q1]
      simp only [Cell.stretch, ns, nm]
      rw [List.getElem?_map, List.getElem?_range (by omega)]
      simp only [Option.map_some, q2]
    · rw [if_neg q, if_neg q, ed]; simp
end Copy
end Jvm.Own
namespace Jvm.Own
open Jvm Jvm.ClassFile Sem Op Lib Jvm.Free Jvm.Stand Jvm.LawKit Jvm.RoadKit
/-! OWN KIT 6: byte arrays whose class is known, their clone; StringBuilders that hold Latin-1 -/
section Clone
variable {w : Bool} {K : IV} {Z : State} {a0 : Array Value} {EL : List (String × Nat)} {n0 : Nat} {ss0 ss : List Addr} {Q : Option Value → Heap → List Addr → Prop} {pc pc' pcT : Nat} {L L' : Array Slot} {st st' : List Value} {h h' : Heap} {k n : Nat} {own : String} {code : ByteArray} {ml : Nat} {rt : Option FieldType} {mn : String} {rf rc rs rl : Nat}
def ByA (Z : State) (h : Heap) (b : Addr) (vs : List Value) : Prop := Ary Z h b .byte vs ∧ Exa Z h b "[B" ∧ ∀ v ∈ vs, fits .byte v = true
theorem ByA.keep {b : Addr} {vs : List Value} {ws : List Addr} (F : ByA Z h b vs) (Kp : Keep h h' ws) (q : b ∉ ws) : ByA Z h' b vs := ⟨F.1.keep Kp q, F.2.1.keep Kp, F.2.2⟩
theorem fits0 : fits .byte (.int 0) = true := by decide
theorem fits_lat {cs : List Int32} : ∀ v ∈ lat cs, fits .byte v = true := by
  intro v hv
  simp only [lat, List.mem_map] at hv
  obtain ⟨c, -, rfl⟩ := hv
  exact fits_nar_byte c
theorem newarrB (C : Cx w K Z a0 EL own code ml rt mn (Rm rf rc rs rl)) {x : Int32} (wa : (Cond.arrayClass .byte).before a0 Z = true) (hx : ¬ x < 0) (cap : Nat) (hcap : x.toNatClampNeg ≤ cap) (hb8 : cap * 8 ≤ 536870912) (hc : k + 1 ≤ rc) (hl : n + cap ≤ rs) (d : Dc code pc (.newarray .byte) 2 pc')
    (G : ∀ h', Keep h h' [] → h.size < h'.size → n0 ≤ h.size → ByA Z h' h.size (List.replicate x.toNatClampNeg (.int 0)) → Go w K Z EL n0 ss0 Q pc' L (.ref h.size :: st) h' (h.size :: ss) (k + 1) (n + cap)) : Go w K Z EL n0 ss0 Q pc L (.int x :: st) h ss k n := by
  obtain ⟨d1, rfl⟩ := d
  have hR : K.R = Rm rf rc rs rl := C.2.2.2.2.2.2.2.1
  refine Go.grow C (dk := 1) (dn := cap) (P := fun h' => ByA Z h' h.size (List.replicate x.toNatClampNeg (.int 0))) (fun _ q => q.1.lt) (fun {T vm0 locs} X e hZ hown => ?_) G
  obtain ⟨cA, kA, comp, h1, h2, h3, X', stp⟩ := X.newarrayPrim C.1 (mvA hZ (show (Cond.arrayClass (newarray.typeOf .byte)).before a0 Z = true from wa)) (g := mkF K.m pc L (.int x :: st)) rfl (hb C.2.1 d1) rfl hx (Nat.le_trans (Nat.mul_le_mul hcap (by decide)) hb8) (by rw [hR]; exact hc) (by rw [hR]; show _ ≤ rs; omega)
  subst e
  rw [hZ.alike.findClass] at h1
  obtain ⟨kZ, z1, -⟩ := Vm.findClass_spec h1
  obtain ⟨k', z2, z3⟩ := hZ.alike.2.2 _ _ z1
  cases h2.symm.trans z2
  have hkind : kZ.kind = .array comp .byte := by rw [← show kA.kind = .array comp .byte from h3, z3]
  have hget : (T.heap.push (newA cA .byte x))[T.heap.size]? = some (newA cA .byte x) := by simp
  refine ⟨_, _, X'.more (Nat.le_refl _) (by omega), rfl, ⟨by show T.heap.size ≤ (T.heap.push _).size; simp, fun a c q => ?_⟩, ⟨Ary.new ⟨hget, ⟨by simp [newA], kZ, z1, comp, hkind⟩, by simp [newA]⟩, ⟨newA cA .byte x, kZ, hget, h1, z1, rfl, fun q => by rw [hkind] at q; cases q⟩, fun v hv => by rw [List.mem_replicate] at hv; rw [hv.2]; exact fits0⟩, stp⟩
  show (T.heap.push _)[a]? = _
  rw [Array.getElem?_push_lt (Array.getElem?_eq_some_iff.mp q).1]; exact (Array.getElem?_eq_getElem _).symm.trans q
theorem cloneB_ (C : Cx w K Z a0 EL own code ml rt mn (Rm rf rc rs rl)) {i : Nat} {b : Addr} {vs : List Value} (w1 : (Cond.methodLink own i ⟨"[B", "clone", "()Ljava/lang/Object;"⟩).before a0 Z = true) (w2 : (Cond.sameMethod "[B" "java/lang/Object" "clone" "()Ljava/lang/Object;").before a0 Z = true) (w3 : (Cond.native ⟨"java/lang/Object", "clone", "()Ljava/lang/Object;"⟩).before a0 Z = true)
    (w4 : (Cond.instanceMethod ⟨"java/lang/Object", "clone", "()Ljava/lang/Object;"⟩).before a0 Z = true) (w5 : (Cond.selects "[B" ⟨"[B", "clone", "()Ljava/lang/Object;"⟩ ⟨"java/lang/Object", "clone", "()Ljava/lang/Object;"⟩).before a0 Z = true) (w6 : (Cond.castable "[B" "java/lang/Cloneable").before a0 Z = true)
    (B : ByA Z h b vs) (hL : L.size = ml) (hf : 1 ≤ rf) (hlo : (st.map fun v => v.category).sum + 14 ≤ rl) (cap : Nat) (hcap : vs.length ≤ cap) (hc : k + 1 ≤ rc) (hs : n + cap ≤ rs) (d : Dc code pc (.invokevirtual i) 3 pc')
    (G : ∀ h', Keep h h' [] → h.size < h'.size → n0 ≤ h.size → ByA Z h' h.size vs → Go w K Z EL n0 ss0 Q pc' L (.ref h.size :: st) h' (h.size :: ss) (k + 1) (n + cap)) : Go w K Z EL n0 ss0 Q pc L (.ref b :: st) h ss k n := by
  obtain ⟨d1, rfl⟩ := d
  have hR : K.R = Rm rf rc rs rl := C.2.2.2.2.2.2.2.1
  obtain ⟨⟨cl, A, ea, la⟩, E, F⟩ := B
  have hFC : FitC Z cl := fitC_of A fun j _ v hv => F v (by rw [ea] at hv; exact List.mem_of_getElem? (by simpa using hv))
  refine Go.grow C (dk := 1) (dn := cap) (P := fun h' => ByA Z h' h.size vs) (fun _ q => q.1.lt) (fun {T vm0 locs} X e hZ hown => ?_) G
  obtain ⟨T', h', X', e', Ex, A', E', stp⟩ := cloneA X C.1 hZ hown w1 w2 w3 w4 w5 w6 e A E hFC (g := mkF K.m pc L (.ref b :: st)) rfl (hL.trans C.2.2.1.symm) rfl (hb C.2.1 d1) (by rw [hR]; exact hf) (W := (st.map fun v => v.category).sum) (cap := cap) (by show 2 * 0 + _ ≤ _; omega) (by rw [hR]; exact hlo) (by rw [ea]; simpa using hcap) (by rw [hR]; exact hc) (by rw [hR]; exact hs)
  exact ⟨T', h', X', e', Ex, ⟨⟨_, A', ea, la⟩, E', F⟩, stp⟩
end Clone
end Jvm.Own
namespace Jvm.Own
open Jvm Jvm.ClassFile Sem Op Lib Jvm.Free Jvm.Stand Jvm.LawKit Jvm.RoadKit
section Builder
variable {Z : State} {a0 : Array Value} {h h' : Heap} {a b x : Addr} {cs ds : List Int32} {cap : Nat}
/-- at a lies a StringBuilder (coder 0) that holds cs, its array at b, of cap bytes -/
def Sb (Z : State) (h : Heap) (a b : Addr) (cs : List Int32) (cap : Nat) : Prop := Exa Z h a "java/lang/StringBuilder" ∧ Fld Z h a "java/lang/AbstractStringBuilder" "value" "[B" (.ref b) ∧ Fld Z h a "java/lang/AbstractStringBuilder" "count" "I" (.int (natI cs.length)) ∧ Fld Z h a "java/lang/AbstractStringBuilder" "coder" "B" (.int 0) ∧ (∃ rest : List Value, ByA Z h b (lat cs ++ rest) ∧ cs.length + rest.length = cap) ∧ (∀ c ∈ cs, 0 ≤ c.toInt ∧ c.toInt < 256) ∧ cap ≤ 4096
theorem Sb.keep {ws : List Addr} (F : Sb Z h a b cs cap) (Kp : Keep h h' ws) (q1 : a ∉ ws) (q2 : b ∉ ws) : Sb Z h' a b cs cap := by
  obtain ⟨E, V, N, C, ⟨r, B, hl⟩, hc⟩ := F
  exact ⟨E.keep Kp, V.keep Kp q1, N.keep Kp q1, C.keep Kp q1, ⟨r, B.keep Kp q2, hl⟩, hc⟩
theorem Sb.le (F : Sb Z h a b cs cap) : cs.length ≤ cap ∧ cap ≤ 4096 := by
  obtain ⟨-, -, -, -, ⟨r, -, hl⟩, -, h2⟩ := F; omega
theorem shl0 (x : Int32) : x <<< (0 &&& 31) = x := i32e (by
  have s := c_ishl x 0 0 (by decide)
  have z0 : ((2 ^ 0 : Nat) : Int) = 1 := by decide
  have := rng32 (x <<< (0 &&& 31)); have := rng32 x
  rw [z0] at s; omega)
theorem natI_sub {i j : Nat} (h : j ≤ i) (hi : i < 2 ^ 31) : natI i - natI j = natI (i - j) := i32e (by
  have a1 := natI_toInt (i := i) hi; have a2 := natI_toInt (i := j) (by omega); have a3 := c_isub (natI i) (natI j); have a4 := rng32 (natI i - natI j); have a5 := natI_toInt (i := i - j) (by omega); omega)
theorem natI_plus {i n : Nat} (h : i + n < 2 ^ 31) : natI i + natI n = natI (i + n) := i32e (by
  have a1 := natI_toInt (i := i) (by omega); have a2 := natI_toInt (i := n) (by omega); have a3 := c_iadd (natI i) (natI n); have a4 := rng32 (natI i + natI n); have a5 := natI_toInt h; omega)
theorem natI_lt {i j : Nat} (hi : i < 2 ^ 31) (hj : j < 2 ^ 31) : natI i < natI j ↔ i < j := by
  rw [lt32, natI_toInt hi, natI_toInt hj]; omega
theorem natI_inj {i j : Nat} (hi : i < 2 ^ 31) (hj : j < 2 ^ 31) : natI i = natI j ↔ i = j := by
  constructor
  · intro e; have := congrArg Int32.toInt e; rw [natI_toInt hi, natI_toInt hj] at this; omega
  · intro e; rw [e]
theorem lat_app : lat (cs ++ ds) = lat cs ++ lat ds := by simp [lat]
theorem over_end {rest : List Value} (h1 : ds.length ≤ rest.length) : over (lat cs ++ rest) (lat ds) 0 cs.length ds.length = lat (cs ++ ds) ++ rest.drop ds.length := by
  have l1 : (lat cs).length = cs.length := lat_len cs
  have l2 : (lat ds).length = ds.length := lat_len ds
  unfold over
  rw [lat_app, List.drop_zero, List.take_of_length_le (Nat.le_of_eq l2), show (lat cs ++ rest).take cs.length = lat cs by rw [← l1, List.take_left'] ; rfl, show (lat cs ++ rest).drop (cs.length + ds.length) = rest.drop ds.length by rw [List.drop_append, l1]; simp; omega]
theorem over_zero {vs : List Value} {m : Nat} (h1 : vs.length ≤ m) (w : Value) : over (List.replicate m w) vs 0 0 vs.length = vs ++ List.replicate (m - vs.length) w := by
  unfold over
  simp
theorem over_sub {vs : List Value} {s m : Nat} (w : Value) (h : s + m ≤ vs.length) : over (List.replicate m w) vs s 0 m = (vs.drop s).take m := by
  unfold over
  simp
end Builder
end Jvm.Own
namespace Jvm.Own
open Jvm Jvm.ClassFile Sem Op Lib Jvm.Free Jvm.Stand Jvm.LawKit Jvm.RoadKit
theorem same_of {Z : State} {a0 : Array Value} {y x : MethodName} {O : String} (hxy : x.cls = y.cls) (wd : (Jvm.Cond.declares y).before a0 Z = true) (wse : (Jvm.Cond.selects O x x).before a0 Z = true) (hy : y.cls ≠ "java/lang/invoke/MethodHandle" ∧ y.cls ≠ "java/lang/invoke/VarHandle") : (Jvm.Cond.sameMethod y.cls y.cls y.name y.desc).before a0 Z = true := by
  obtain ⟨m, meth, h1, -⟩ := Cond.declares_spec wd
  obtain ⟨c, r, m', q1, q2, q3, q4, k, hk, hki⟩ := Cond.selects_spec wse
  have hf := State.methodFound?_of_named h1 hy
  have hc := findClass_of_methodNamed h1
  have hc' := findClass_of_methodNamed q3
  rw [hxy, hc] at hc'
  have he : m.cls = m'.cls := Option.some.inj hc'
  rw [← he] at hk
  have h1' : Z.methodNamed? ⟨y.cls, y.name, y.desc⟩ = some m := h1
  simp [Cond.before, Cond.holds, Cond.value, hc, hf, h1', hk, hki]
end Jvm.Own
namespace Jvm.Own
open Jvm Jvm.ClassFile Sem Op Lib Jvm.Free Jvm.Stand Jvm.LawKit Jvm.RoadKit
/-- neither the String at s nor its array lies at x -/
def NotIn (Z : State) (h : Heap) (s x : Addr) : Prop := s ≠ x ∧ ∀ b, Fld Z h s "java/lang/String" "value" "[B" (.ref b) → b ≠ x
theorem Fld.keepBack {Z : State} {h h' : Heap} {a : Addr} {C n d : String} {v w : Value} {ws : List Addr} (F : Fld Z h a C n d v) (Kp : Keep h h' ws) (q : a ∉ ws) (G : Fld Z h' a C n d w) : Fld Z h a C n d w := by
  have := Fld.fn (F.keep Kp q) G; subst this; exact F
theorem Str.keep2 {Z : State} {h h' : Heap} {s a b : Addr} {cs : List Int32} (F : Str Z h s cs) (Kp : Keep h h' [a, b]) (h1 : NotIn Z h s a) (h2 : NotIn Z h s b) : Str Z h' s cs := by
  obtain ⟨E, hc, hl, c, z, vs, V, Cd, A, B⟩ := F
  have n1 : s ∉ [a, b] := ninS h1.1 (ninS h2.1 nin0)
  have n2 : c ∉ [a, b] := ninS (h1.2 c V) (ninS (h2.2 c V) nin0)
  exact ⟨E.keep Kp, hc, hl, c, z, vs, V.keep Kp n1, Cd.keep Kp n1, A.keep Kp n2, B⟩
theorem NotIn.keep {Z : State} {h h' : Heap} {s x : Addr} {cs : List Int32} (N : NotIn Z h s x) (F : Str Z h s cs) (Kp : Keep h h' []) : NotIn Z h' s x := by
  obtain ⟨-, -, -, c, z, vs, V, -⟩ := F
  exact ⟨N.1, fun b G => by have := Fld.fn (V.keep Kp nin0) G; cases this; exact N.2 c V⟩
theorem NotIn.of {Z : State} {h : Heap} {s x c : Addr} (h1 : s ≠ x) (V : Fld Z h s "java/lang/String" "value" "[B" (.ref c)) (h2 : c ≠ x) : NotIn Z h s x := ⟨h1, fun b F => by
  have := Fld.fn V F; cases this; exact h2⟩
end Jvm.Own
namespace Jvm.Own
open Jvm Jvm.ClassFile Sem Op Lib Jvm.Free Jvm.Stand Jvm.LawKit Jvm.RoadKit
/-- a class that a 'selects' word shows to be no interface, for another of its methods -/
theorem nf_sel {s : State} {args : Array Value} {O : String} {x y : MethodName} (hxy : x.cls = y.cls) (h : (Jvm.Cond.selects O x x).before args s = true) : NotFace s y := fun r0 h0 => by
  obtain ⟨c, r, m', q1, q2, q3, q4, k, hk, hki⟩ := Cond.selects_spec h
  have hc := findClass_of_methodNamed h0
  have hc' := findClass_of_methodNamed q3
  rw [hxy, hc] at hc'
  have he : r0.cls = m'.cls := Option.some.inj hc'
  exact ⟨k, by rw [he]; exact hk, hki⟩
end Jvm.Own
namespace Jvm.Own
open Jvm Jvm.ClassFile Sem Op Lib Jvm.Free Jvm.Stand Jvm.LawKit Jvm.RoadKit
/-- baload of an array given as a cell -/
theorem baloadC_ {w : Bool} {K : IV} {Z : State} {a0 : Array Value} {EL : List (String × Nat)} {own : String} {code : ByteArray} {ml : Nat} {rt : Option FieldType} {mn : String} {rf rc rs rl n0 pc pc' k n : Nat} {ss0 ss : List Addr} {Q : Option Value → Heap → List Addr → Prop} {L : Array Slot} {st : List Value} {h : Heap} (C : Cx w K Z a0 EL own code ml rt mn (Rm rf rc rs rl)) {a : Addr} {c : Cell} {j : Int32} {v : Value} (A : Arr Z h a c .byte) (i : Nat) (hj : j.toInt = i) (hv : c.slots[i]? = some v) (d : Dc code pc .baload 1 pc') (G : Go w K Z EL n0 ss0 Q pc' L (v :: st) h ss k n) : Go w K Z EL n0 ss0 Q pc L (.int j :: .ref a :: st) h ss k n := by
  obtain ⟨d1, rfl⟩ := d
  have ej : j.toNatClampNeg = i := by simp [Int32.toNatClampNeg, hj]
  have hi : i < c.slots.size := (Array.getElem?_eq_some_iff.mp hv).1
  subst ej
  refine Go.same C (fun X eT hZ hown _ => ⟨_, X, eT, X.baloadBytes C.1 (j := j) (v := v) (by rw [eT]; exact A.1) (State.isArrayOf_alike hZ.alike A.2.1) A.2.2 ?_ hv (g := mkF K.m pc L (.int j :: .ref a :: st)) rfl rfl (hb C.2.1 d1)⟩) G
  rintro (q | q)
  · rw [Int32.lt_iff_toInt_lt, hj] at q; have : (0 : Int32).toInt = 0 := rfl; omega
  · omega
theorem natI_mul (a b : Nat) : natI a * natI b = natI (a * b) := i32e (by
  have h := c_imul (natI a) (natI b)
  rw [show natI a * natI b = natI (a * b) from (Int32.ofNat_mul a b).symm])
theorem natI_add (a b : Nat) : natI a + natI b = natI (a + b) := (Int32.ofNat_add a b).symm
theorem and15 (y : Int64) : ∃ m : Fin 16, y &&& 15 = Int64.ofNat m.val := by
  refine ⟨⟨y.toBitVec.toNat % 16, Nat.mod_lt _ (by decide)⟩, ?_⟩
  apply Int64.toBitVec_inj.mp
  apply BitVec.eq_of_toNat_eq
  have e : (y &&& 15).toBitVec.toNat = y.toBitVec.toNat % 16 := by
    rw [Int64.toBitVec_and, BitVec.toNat_and]
    exact Nat.and_two_pow_sub_one_eq_mod _ 4
  rw [e, Int64.toBitVec_ofNat']
  simp only [BitVec.toNat_ofNat]
  have := Nat.mod_lt y.toBitVec.toNat (show 0 < 16 by decide)
  omega
def dg (p : Int64) (i : Int32) : Int32 := Int64.toInt32 ((ushrL p (4 * i) &&& 15) % 10)
theorem dg_nat (p : Int64) (i : Int32) : ∃ k : Nat, k < 10 ∧ dg p i = natI k := by
  obtain ⟨m, hm⟩ := and15 (ushrL p (4 * i))
  unfold dg
  rw [hm]
  have : ∀ m : Fin 16, ∃ k : Fin 10, Int64.toInt32 (Int64.ofNat m.val % 10) = natI k.val := by decide
  obtain ⟨k, hk⟩ := this m
  exact ⟨k.val, k.isLt, hk⟩
/-- the number that decimal digits (chars) spell -/
def dv (c : Int32) : Nat := (c.toInt - 48).toNat
def num (cs : List Int32) : Nat := cs.foldl (fun n c => n * 10 + dv c) 0
theorem num_step {cs : List Int32} {i : Nat} {c : Int32} (hc : cs[i]? = some c) : num (cs.take (i + 1)) = num (cs.take i) * 10 + dv c := by
  unfold num
  rw [List.take_add_one, hc, List.foldl_append]
  rfl
theorem dv_nat {k : Nat} (hk : k < 10) : dv (natI (48 + k)) = k := by unfold dv; rw [natI_toInt (by omega)]; omega
theorem num_lt {cs : List Int32} (h : ∀ c ∈ cs, 48 ≤ c.toInt ∧ c.toInt < 58) (i : Nat) (hi : i ≤ cs.length) : num (cs.take i) < 10 ^ i := by
  induction i with
  | zero => simp [num]
  | succ i ih =>
    obtain ⟨c, hc⟩ : ∃ c, cs[i]? = some c := ⟨_, List.getElem?_eq_getElem (by omega)⟩
    rw [num_step hc]
    have := ih (by omega)
    have hd := h c (List.mem_of_getElem? hc)
    have : dv c < 10 := by unfold dv; omega
    rw [Nat.pow_succ]
    omega
theorem dig_nat {c : Int32} (h : 48 ≤ c.toInt ∧ c.toInt < 58) : ∃ k : Nat, k < 10 ∧ c = natI (48 + k) := ⟨(c.toInt - 48).toNat, by omega, i32e (by rw [natI_toInt (by omega)]; omega)⟩
end Jvm.Own
namespace Jvm.Pilot.@@N@@
open Jvm Jvm.ClassFile Sem Op Lib Jvm.Free Jvm.Stand Jvm.LawKit Jvm.RoadKit Jvm.Own Jvm.Pilot.@@N@@.Jvm.D
abbrev WD : Bool := true
abbrev EL0 : List (String × Nat) := [("com/example/kolejka/kolejka/Dialect$KeyRange", 16), ("java/lang/StringLatin1", 151)]
theorem hWE : WD = false → EL0 = [] := fun h => by cases h
theorem hEL {Z : State} {a0 : Array Value} (hw : ∀ d ∈ tables_1, d.before a0 Z = true) : EW Z a0 EL0 := EW.cons (hw _ (List.mem_of_getElem? (i := 39) rfl)) (by decide +kernel) (EW.cons (hw _ (List.mem_of_getElem? (i := 109) rfl)) (by decide +kernel) (EW.nil))
theorem wS {Z : State} {a0 : Array Value} (hw : ∀ d ∈ tables_1, d.before a0 Z = true) : ∀ a ∈ Bundle.stringAtoms, a.before a0 Z = true := by
  intro d hd
  simp only [Bundle.stringAtoms, List.mem_cons, List.not_mem_nil, or_false] at hd
  rcases hd with rfl | rfl | rfl | rfl | rfl | rfl | rfl
  · exact (hw _ (List.mem_of_getElem? (i := 7) rfl))
  · exact (hw _ (List.mem_of_getElem? (i := 6) rfl))
  · exact (hw _ (List.mem_of_getElem? (i := 24) rfl))
  · exact (hw _ (List.mem_of_getElem? (i := 34) rfl))
  · exact (hw _ (List.mem_of_getElem? (i := 32) rfl))
  · exact (hw _ (List.mem_of_getElem? (i := 40) rfl))
  · exact (hw _ (List.mem_of_getElem? (i := 41) rfl))
def Stt (Z : State) : Prop := (∃ cv : Int32, ¬ cv = 0 ∧ Sta Z Z.heap "java/lang/String" "COMPACT_STRINGS" "Z" (.int cv)) ∧ (∃ v : Value, v.isRef = true ∧ Sta Z Z.heap "jdk/internal/util/Preconditions" "SIOOBE_FORMATTER" "Ljava/util/function/BiFunction;" v) ∧ Sta Z Z.heap "java/lang/StringUTF16" "$assertionsDisabled" "Z" (.int 1) ∧ Sta Z Z.heap "java/lang/StringUTF16" "HI_BYTE_SHIFT" "I" (.int 0) ∧ Sta Z Z.heap "java/lang/StringUTF16" "LO_BYTE_SHIFT" "I" (.int 8) ∧ True
theorem st_c {Z : State} (hs : Stt Z) : (∃ cv : Int32, ¬ cv = 0 ∧ Sta Z Z.heap "java/lang/String" "COMPACT_STRINGS" "Z" (.int cv)) := hs.1
theorem st_f {Z : State} (hs : Stt Z) : (∃ v : Value, v.isRef = true ∧ Sta Z Z.heap "jdk/internal/util/Preconditions" "SIOOBE_FORMATTER" "Ljava/util/function/BiFunction;" v) := hs.2.1
theorem st_a {Z : State} (hs : Stt Z) : Sta Z Z.heap "java/lang/StringUTF16" "$assertionsDisabled" "Z" (.int 1) := hs.2.2.1
theorem st_hi {Z : State} (hs : Stt Z) : Sta Z Z.heap "java/lang/StringUTF16" "HI_BYTE_SHIFT" "I" (.int 0) := hs.2.2.2.1
theorem st_lo {Z : State} (hs : Stt Z) : Sta Z Z.heap "java/lang/StringUTF16" "LO_BYTE_SHIFT" "I" (.int 8) := hs.2.2.2.2.1
theorem d0_0 : Dc method_3_code 0 (.iload_n 0) 1 1 := ⟨by decide +kernel, rfl⟩
theorem d0_1 : Db method_3_code 1 (.ifCond .ne 19) 3 4 (19) 20 := ⟨by decide +kernel, rfl, by decide, by decide⟩
theorem d0_4 : Dc method_3_code 4 (.new 25) 3 7 := ⟨by decide +kernel, rfl⟩
theorem d0_7 : Dc method_3_code 7 (.dup) 1 8 := ⟨by decide +kernel, rfl⟩
theorem d0_8 : Dc method_3_code 8 (.iconst 1) 1 9 := ⟨by decide +kernel, rfl⟩
theorem d0_9 : Dc method_3_code 9 (.newarray .char) 2 11 := ⟨by decide +kernel, rfl⟩
theorem d0_11 : Dc method_3_code 11 (.dup) 1 12 := ⟨by decide +kernel, rfl⟩
theorem d0_12 : Dc method_3_code 12 (.iconst 0) 1 13 := ⟨by decide +kernel, rfl⟩
theorem d0_13 : Dc method_3_code 13 (.iload 4) 2 15 := ⟨by decide +kernel, rfl⟩
theorem d0_15 : Dc method_3_code 15 (.castore) 1 16 := ⟨by decide +kernel, rfl⟩
theorem d0_16 : Dc method_3_code 16 (.invokespecial 33) 3 19 := ⟨by decide +kernel, rfl⟩
theorem d0_19 : Dc method_3_code 19 (.areturn) 1 20 := ⟨by decide +kernel, rfl⟩
theorem d0_20 : Dc method_3_code 20 (.iload_n 0) 1 21 := ⟨by decide +kernel, rfl⟩
theorem d0_21 : Dc method_3_code 21 (.iconst 1) 1 22 := ⟨by decide +kernel, rfl⟩
theorem d0_22 : Db method_3_code 22 (.if_icmp .ne 23) 3 25 (23) 45 := ⟨by decide +kernel, rfl, by decide, by decide⟩
theorem d0_25 : Dc method_3_code 25 (.new 25) 3 28 := ⟨by decide +kernel, rfl⟩
theorem d0_28 : Dc method_3_code 28 (.dup) 1 29 := ⟨by decide +kernel, rfl⟩
theorem d0_29 : Dc method_3_code 29 (.iconst 2) 1 30 := ⟨by decide +kernel, rfl⟩
theorem d0_30 : Dc method_3_code 30 (.newarray .char) 2 32 := ⟨by decide +kernel, rfl⟩
theorem d0_32 : Dc method_3_code 32 (.dup) 1 33 := ⟨by decide +kernel, rfl⟩
theorem d0_33 : Dc method_3_code 33 (.iconst 0) 1 34 := ⟨by decide +kernel, rfl⟩
theorem d0_34 : Dc method_3_code 34 (.iload_n 1) 1 35 := ⟨by decide +kernel, rfl⟩
theorem d0_35 : Dc method_3_code 35 (.castore) 1 36 := ⟨by decide +kernel, rfl⟩
theorem d0_36 : Dc method_3_code 36 (.dup) 1 37 := ⟨by decide +kernel, rfl⟩
theorem d0_37 : Dc method_3_code 37 (.iconst 1) 1 38 := ⟨by decide +kernel, rfl⟩
theorem d0_38 : Dc method_3_code 38 (.iload 4) 2 40 := ⟨by decide +kernel, rfl⟩
theorem d0_40 : Dc method_3_code 40 (.castore) 1 41 := ⟨by decide +kernel, rfl⟩
theorem d0_41 : Dc method_3_code 41 (.invokespecial 33) 3 44 := ⟨by decide +kernel, rfl⟩
theorem d0_44 : Dc method_3_code 44 (.areturn) 1 45 := ⟨by decide +kernel, rfl⟩
theorem d0_45 : Dc method_3_code 45 (.iload_n 0) 1 46 := ⟨by decide +kernel, rfl⟩
theorem d0_46 : Dc method_3_code 46 (.iconst 2) 1 47 := ⟨by decide +kernel, rfl⟩
theorem d0_47 : Db method_3_code 47 (.if_icmp .ne 27) 3 50 (27) 74 := ⟨by decide +kernel, rfl, by decide, by decide⟩
theorem d0_50 : Dc method_3_code 50 (.new 25) 3 53 := ⟨by decide +kernel, rfl⟩
theorem d0_53 : Dc method_3_code 53 (.dup) 1 54 := ⟨by decide +kernel, rfl⟩
theorem d0_54 : Dc method_3_code 54 (.iconst 3) 1 55 := ⟨by decide +kernel, rfl⟩
theorem d0_55 : Dc method_3_code 55 (.newarray .char) 2 57 := ⟨by decide +kernel, rfl⟩
theorem d0_57 : Dc method_3_code 57 (.dup) 1 58 := ⟨by decide +kernel, rfl⟩
theorem d0_58 : Dc method_3_code 58 (.iconst 0) 1 59 := ⟨by decide +kernel, rfl⟩
theorem d0_59 : Dc method_3_code 59 (.iload_n 1) 1 60 := ⟨by decide +kernel, rfl⟩
theorem d0_60 : Dc method_3_code 60 (.castore) 1 61 := ⟨by decide +kernel, rfl⟩
theorem d0_61 : Dc method_3_code 61 (.dup) 1 62 := ⟨by decide +kernel, rfl⟩
theorem d0_62 : Dc method_3_code 62 (.iconst 1) 1 63 := ⟨by decide +kernel, rfl⟩
theorem d0_63 : Dc method_3_code 63 (.iload_n 2) 1 64 := ⟨by decide +kernel, rfl⟩
theorem d0_64 : Dc method_3_code 64 (.castore) 1 65 := ⟨by decide +kernel, rfl⟩
theorem d0_65 : Dc method_3_code 65 (.dup) 1 66 := ⟨by decide +kernel, rfl⟩
theorem d0_66 : Dc method_3_code 66 (.iconst 2) 1 67 := ⟨by decide +kernel, rfl⟩
theorem d0_67 : Dc method_3_code 67 (.iload 4) 2 69 := ⟨by decide +kernel, rfl⟩
theorem d0_69 : Dc method_3_code 69 (.castore) 1 70 := ⟨by decide +kernel, rfl⟩
theorem d0_70 : Dc method_3_code 70 (.invokespecial 33) 3 73 := ⟨by decide +kernel, rfl⟩
theorem d0_73 : Dc method_3_code 73 (.areturn) 1 74 := ⟨by decide +kernel, rfl⟩
theorem d0_74 : Dc method_3_code 74 (.new 25) 3 77 := ⟨by decide +kernel, rfl⟩
theorem d0_77 : Dc method_3_code 77 (.dup) 1 78 := ⟨by decide +kernel, rfl⟩
theorem d0_78 : Dc method_3_code 78 (.iconst 4) 1 79 := ⟨by decide +kernel, rfl⟩
theorem d0_79 : Dc method_3_code 79 (.newarray .char) 2 81 := ⟨by decide +kernel, rfl⟩
theorem d0_81 : Dc method_3_code 81 (.dup) 1 82 := ⟨by decide +kernel, rfl⟩
theorem d0_82 : Dc method_3_code 82 (.iconst 0) 1 83 := ⟨by decide +kernel, rfl⟩
theorem d0_83 : Dc method_3_code 83 (.iload_n 1) 1 84 := ⟨by decide +kernel, rfl⟩
theorem d0_84 : Dc method_3_code 84 (.castore) 1 85 := ⟨by decide +kernel, rfl⟩
theorem d0_85 : Dc method_3_code 85 (.dup) 1 86 := ⟨by decide +kernel, rfl⟩
theorem d0_86 : Dc method_3_code 86 (.iconst 1) 1 87 := ⟨by decide +kernel, rfl⟩
theorem d0_87 : Dc method_3_code 87 (.iload_n 2) 1 88 := ⟨by decide +kernel, rfl⟩
theorem d0_88 : Dc method_3_code 88 (.castore) 1 89 := ⟨by decide +kernel, rfl⟩
theorem d0_89 : Dc method_3_code 89 (.dup) 1 90 := ⟨by decide +kernel, rfl⟩
theorem d0_90 : Dc method_3_code 90 (.iconst 2) 1 91 := ⟨by decide +kernel, rfl⟩
theorem d0_91 : Dc method_3_code 91 (.iload_n 3) 1 92 := ⟨by decide +kernel, rfl⟩
theorem d0_92 : Dc method_3_code 92 (.castore) 1 93 := ⟨by decide +kernel, rfl⟩
theorem d0_93 : Dc method_3_code 93 (.dup) 1 94 := ⟨by decide +kernel, rfl⟩
theorem d0_94 : Dc method_3_code 94 (.iconst 3) 1 95 := ⟨by decide +kernel, rfl⟩
theorem d0_95 : Dc method_3_code 95 (.iload 4) 2 97 := ⟨by decide +kernel, rfl⟩
theorem d0_97 : Dc method_3_code 97 (.castore) 1 98 := ⟨by decide +kernel, rfl⟩
theorem d0_98 : Dc method_3_code 98 (.invokespecial 33) 3 101 := ⟨by decide +kernel, rfl⟩
theorem d0_101 : Dc method_3_code 101 (.areturn) 1 102 := ⟨by decide +kernel, rfl⟩
theorem d1_0 : Dc jdk_42_method_3_code 0 (.aload_n 0) 1 1 := ⟨by decide +kernel, rfl⟩
theorem d1_1 : Dc jdk_42_method_3_code 1 (.aload_n 1) 1 2 := ⟨by decide +kernel, rfl⟩
theorem d1_2 : Dc jdk_42_method_3_code 2 (.iconst 0) 1 3 := ⟨by decide +kernel, rfl⟩
theorem d1_3 : Dc jdk_42_method_3_code 3 (.aload_n 1) 1 4 := ⟨by decide +kernel, rfl⟩
theorem d1_4 : Dc jdk_42_method_3_code 4 (.arraylength) 1 5 := ⟨by decide +kernel, rfl⟩
theorem d1_5 : Dc jdk_42_method_3_code 5 (.aconst_null) 1 6 := ⟨by decide +kernel, rfl⟩
theorem d1_6 : Dc jdk_42_method_3_code 6 (.invokespecial 27) 3 9 := ⟨by decide +kernel, rfl⟩
theorem d1_9 : Dc jdk_42_method_3_code 9 (.return_) 1 10 := ⟨by decide +kernel, rfl⟩
theorem d2_0 : Dc jdk_42_method_149_code 0 (.aload_n 0) 1 1 := ⟨by decide +kernel, rfl⟩
theorem d2_1 : Dc jdk_42_method_149_code 1 (.invokespecial 1) 3 4 := ⟨by decide +kernel, rfl⟩
theorem d2_4 : Dc jdk_42_method_149_code 4 (.iload_n 3) 1 5 := ⟨by decide +kernel, rfl⟩
theorem d2_5 : Db jdk_42_method_149_code 5 (.ifCond .ne 22) 3 8 (22) 27 := ⟨by decide +kernel, rfl, by decide, by decide⟩
theorem d2_27 : Dc jdk_42_method_149_code 27 (.getstatic 38) 3 30 := ⟨by decide +kernel, rfl⟩
theorem d2_30 : Db jdk_42_method_149_code 30 (.ifCond .eq 28) 3 33 (28) 58 := ⟨by decide +kernel, rfl, by decide, by decide⟩
theorem d2_33 : Dc jdk_42_method_149_code 33 (.aload_n 1) 1 34 := ⟨by decide +kernel, rfl⟩
theorem d2_34 : Dc jdk_42_method_149_code 34 (.iload_n 2) 1 35 := ⟨by decide +kernel, rfl⟩
theorem d2_35 : Dc jdk_42_method_149_code 35 (.iload_n 3) 1 36 := ⟨by decide +kernel, rfl⟩
theorem d2_36 : Dc jdk_42_method_149_code 36 (.invokestatic 177) 3 39 := ⟨by decide +kernel, rfl⟩
theorem d2_39 : Dc jdk_42_method_149_code 39 (.astore 5) 2 41 := ⟨by decide +kernel, rfl⟩
theorem d2_41 : Dc jdk_42_method_149_code 41 (.aload_n 0) 1 42 := ⟨by decide +kernel, rfl⟩
theorem d2_42 : Dc jdk_42_method_149_code 42 (.aload 5) 2 44 := ⟨by decide +kernel, rfl⟩
theorem d2_44 : Dc jdk_42_method_149_code 44 (.iload_n 3) 1 45 := ⟨by decide +kernel, rfl⟩
theorem d2_45 : Dc jdk_42_method_149_code 45 (.invokestatic 47) 3 48 := ⟨by decide +kernel, rfl⟩
theorem d2_48 : Dc jdk_42_method_149_code 48 (.putfield 15) 3 51 := ⟨by decide +kernel, rfl⟩
theorem d2_51 : Dc jdk_42_method_149_code 51 (.aload_n 0) 1 52 := ⟨by decide +kernel, rfl⟩
theorem d2_52 : Dc jdk_42_method_149_code 52 (.aload 5) 2 54 := ⟨by decide +kernel, rfl⟩
theorem d2_54 : Dc jdk_42_method_149_code 54 (.putfield 9) 3 57 := ⟨by decide +kernel, rfl⟩
theorem d2_57 : Dc jdk_42_method_149_code 57 (.return_) 1 58 := ⟨by decide +kernel, rfl⟩
theorem d4_0 : Dc jdk_52_method_16_code 0 (.iload_n 2) 1 1 := ⟨by decide +kernel, rfl⟩
theorem d4_1 : Dc jdk_52_method_16_code 1 (.newarray .byte) 2 3 := ⟨by decide +kernel, rfl⟩
theorem d4_3 : Dc jdk_52_method_16_code 3 (.astore_n 3) 1 4 := ⟨by decide +kernel, rfl⟩
theorem d4_4 : Dc jdk_52_method_16_code 4 (.aload_n 0) 1 5 := ⟨by decide +kernel, rfl⟩
theorem d4_5 : Dc jdk_52_method_16_code 5 (.iload_n 1) 1 6 := ⟨by decide +kernel, rfl⟩
theorem d4_6 : Dc jdk_52_method_16_code 6 (.aload_n 3) 1 7 := ⟨by decide +kernel, rfl⟩
theorem d4_7 : Dc jdk_52_method_16_code 7 (.iconst 0) 1 8 := ⟨by decide +kernel, rfl⟩
theorem d4_8 : Dc jdk_52_method_16_code 8 (.iload_n 2) 1 9 := ⟨by decide +kernel, rfl⟩
theorem d4_9 : Dc jdk_52_method_16_code 9 (.invokestatic 115) 3 12 := ⟨by decide +kernel, rfl⟩
theorem d4_12 : Dc jdk_52_method_16_code 12 (.istore 4) 2 14 := ⟨by decide +kernel, rfl⟩
theorem d4_14 : Dc jdk_52_method_16_code 14 (.iload 4) 2 16 := ⟨by decide +kernel, rfl⟩
theorem d4_16 : Dc jdk_52_method_16_code 16 (.iload_n 2) 1 17 := ⟨by decide +kernel, rfl⟩
theorem d4_17 : Db jdk_52_method_16_code 17 (.if_icmp .eq 40) 3 20 (40) 57 := ⟨by decide +kernel, rfl, by decide, by decide⟩
theorem d4_20 : Dc jdk_52_method_16_code 20 (.aload_n 0) 1 21 := ⟨by decide +kernel, rfl⟩
theorem d4_21 : Dc jdk_52_method_16_code 21 (.iload_n 1) 1 22 := ⟨by decide +kernel, rfl⟩
theorem d4_22 : Dc jdk_52_method_16_code 22 (.iload_n 2) 1 23 := ⟨by decide +kernel, rfl⟩
theorem d4_23 : Dc jdk_52_method_16_code 23 (.invokestatic 119) 3 26 := ⟨by decide +kernel, rfl⟩
theorem d4_26 : Dc jdk_52_method_16_code 26 (.astore 5) 2 28 := ⟨by decide +kernel, rfl⟩
theorem d4_28 : Dc jdk_52_method_16_code 28 (.aload 5) 2 30 := ⟨by decide +kernel, rfl⟩
theorem d4_30 : Dc jdk_52_method_16_code 30 (.iload 4) 2 32 := ⟨by decide +kernel, rfl⟩
theorem d4_32 : Dc jdk_52_method_16_code 32 (.invokestatic 71) 3 35 := ⟨by decide +kernel, rfl⟩
theorem d4_35 : Dc jdk_52_method_16_code 35 (.sipush 255) 3 38 := ⟨by decide +kernel, rfl⟩
theorem d4_38 : Db jdk_52_method_16_code 38 (.if_icmp .gt 16) 3 41 (16) 54 := ⟨by decide +kernel, rfl, by decide, by decide⟩
theorem d4_54 : Dc jdk_52_method_16_code 54 (.aload 5) 2 56 := ⟨by decide +kernel, rfl⟩
theorem d4_56 : Dc jdk_52_method_16_code 56 (.areturn) 1 57 := ⟨by decide +kernel, rfl⟩
theorem d4_57 : Dc jdk_52_method_16_code 57 (.aload_n 3) 1 58 := ⟨by decide +kernel, rfl⟩
theorem d4_58 : Dc jdk_52_method_16_code 58 (.areturn) 1 59 := ⟨by decide +kernel, rfl⟩
theorem d5_0 : Dc jdk_52_method_21_code 0 (.iconst 0) 1 1 := ⟨by decide +kernel, rfl⟩
theorem d5_1 : Dc jdk_52_method_21_code 1 (.istore 5) 2 3 := ⟨by decide +kernel, rfl⟩
theorem d5_3 : Dc jdk_52_method_21_code 3 (.iload 5) 2 5 := ⟨by decide +kernel, rfl⟩
theorem d5_5 : Dc jdk_52_method_21_code 5 (.iload 4) 2 7 := ⟨by decide +kernel, rfl⟩
theorem d5_7 : Db jdk_52_method_21_code 7 (.if_icmp .ge 37) 3 10 (37) 44 := ⟨by decide +kernel, rfl, by decide, by decide⟩
theorem d5_10 : Dc jdk_52_method_21_code 10 (.aload_n 0) 1 11 := ⟨by decide +kernel, rfl⟩
theorem d5_11 : Dc jdk_52_method_21_code 11 (.iload_n 1) 1 12 := ⟨by decide +kernel, rfl⟩
theorem d5_12 : Dc jdk_52_method_21_code 12 (.caload) 1 13 := ⟨by decide +kernel, rfl⟩
theorem d5_13 : Dc jdk_52_method_21_code 13 (.istore 6) 2 15 := ⟨by decide +kernel, rfl⟩
theorem d5_15 : Dc jdk_52_method_21_code 15 (.iload 6) 2 17 := ⟨by decide +kernel, rfl⟩
theorem d5_17 : Dc jdk_52_method_21_code 17 (.sipush 255) 3 20 := ⟨by decide +kernel, rfl⟩
theorem d5_20 : Db jdk_52_method_21_code 20 (.if_icmp .le 6) 3 23 (6) 26 := ⟨by decide +kernel, rfl, by decide, by decide⟩
theorem d5_23 : Dc jdk_52_method_21_code 23 (.iload 5) 2 25 := ⟨by decide +kernel, rfl⟩
theorem d5_25 : Dc jdk_52_method_21_code 25 (.ireturn) 1 26 := ⟨by decide +kernel, rfl⟩
theorem d5_26 : Dc jdk_52_method_21_code 26 (.aload_n 2) 1 27 := ⟨by decide +kernel, rfl⟩
theorem d5_27 : Dc jdk_52_method_21_code 27 (.iload_n 3) 1 28 := ⟨by decide +kernel, rfl⟩
theorem d5_28 : Dc jdk_52_method_21_code 28 (.iload 6) 2 30 := ⟨by decide +kernel, rfl⟩
theorem d5_30 : Dc jdk_52_method_21_code 30 (.i2b) 1 31 := ⟨by decide +kernel, rfl⟩
theorem d5_31 : Dc jdk_52_method_21_code 31 (.bastore) 1 32 := ⟨by decide +kernel, rfl⟩
theorem d5_32 : Dc jdk_52_method_21_code 32 (.iinc 1 1) 3 35 := ⟨by decide +kernel, rfl⟩
theorem d5_35 : Dc jdk_52_method_21_code 35 (.iinc 3 1) 3 38 := ⟨by decide +kernel, rfl⟩
theorem d5_38 : Dc jdk_52_method_21_code 38 (.iinc 5 1) 3 41 := ⟨by decide +kernel, rfl⟩
theorem d5_41 : Db jdk_52_method_21_code 41 (.goto (-38)) 3 44 (-38) 3 := ⟨by decide +kernel, rfl, by decide, by decide⟩
theorem d5_44 : Dc jdk_52_method_21_code 44 (.iload 4) 2 46 := ⟨by decide +kernel, rfl⟩
theorem d5_46 : Dc jdk_52_method_21_code 46 (.ireturn) 1 47 := ⟨by decide +kernel, rfl⟩
theorem d6_0 : Dc jdk_52_method_15_code 0 (.iload_n 1) 1 1 := ⟨by decide +kernel, rfl⟩
theorem d6_1 : Dc jdk_52_method_15_code 1 (.aload_n 0) 1 2 := ⟨by decide +kernel, rfl⟩
theorem d6_2 : Dc jdk_52_method_15_code 2 (.arraylength) 1 3 := ⟨by decide +kernel, rfl⟩
theorem d6_3 : Dc jdk_52_method_15_code 3 (.isub) 1 4 := ⟨by decide +kernel, rfl⟩
theorem d6_4 : Dc jdk_52_method_15_code 4 (.bipush 31) 2 6 := ⟨by decide +kernel, rfl⟩
theorem d6_6 : Dc jdk_52_method_15_code 6 (.iushr) 1 7 := ⟨by decide +kernel, rfl⟩
theorem d6_7 : Dc jdk_52_method_15_code 7 (.i2b) 1 8 := ⟨by decide +kernel, rfl⟩
theorem d6_8 : Dc jdk_52_method_15_code 8 (.ireturn) 1 9 := ⟨by decide +kernel, rfl⟩
theorem d7_0 : Dc prog_8_method_2_code 0 (.aload_n 0) 1 1 := ⟨by decide +kernel, rfl⟩
theorem d7_1 : Dc prog_8_method_2_code 1 (.ldc 16) 2 3 := ⟨by decide +kernel, rfl⟩
theorem d7_3 : Dc prog_8_method_2_code 3 (.invokevirtual 18) 3 6 := ⟨by decide +kernel, rfl⟩
theorem d7_6 : Db prog_8_method_2_code 6 (.ifCond .ne 35) 3 9 (35) 41 := ⟨by decide +kernel, rfl, by decide, by decide⟩
theorem d7_41 : Dc prog_8_method_2_code 41 (.new 8) 3 44 := ⟨by decide +kernel, rfl⟩
theorem d7_44 : Dc prog_8_method_2_code 44 (.dup) 1 45 := ⟨by decide +kernel, rfl⟩
theorem d7_45 : Dc prog_8_method_2_code 45 (.aload_n 0) 1 46 := ⟨by decide +kernel, rfl⟩
theorem d7_46 : Dc prog_8_method_2_code 46 (.new 26) 3 49 := ⟨by decide +kernel, rfl⟩
theorem d7_49 : Dc prog_8_method_2_code 49 (.dup) 1 50 := ⟨by decide +kernel, rfl⟩
theorem d7_50 : Dc prog_8_method_2_code 50 (.invokespecial 28) 3 53 := ⟨by decide +kernel, rfl⟩
theorem d7_53 : Dc prog_8_method_2_code 53 (.aload_n 0) 1 54 := ⟨by decide +kernel, rfl⟩
theorem d7_54 : Dc prog_8_method_2_code 54 (.iconst 0) 1 55 := ⟨by decide +kernel, rfl⟩
theorem d7_55 : Dc prog_8_method_2_code 55 (.aload_n 0) 1 56 := ⟨by decide +kernel, rfl⟩
theorem d7_56 : Dc prog_8_method_2_code 56 (.invokevirtual 44) 3 59 := ⟨by decide +kernel, rfl⟩
theorem d7_59 : Dc prog_8_method_2_code 59 (.iconst 1) 1 60 := ⟨by decide +kernel, rfl⟩
theorem d7_60 : Dc prog_8_method_2_code 60 (.isub) 1 61 := ⟨by decide +kernel, rfl⟩
theorem d7_61 : Dc prog_8_method_2_code 61 (.invokevirtual 48) 3 64 := ⟨by decide +kernel, rfl⟩
theorem d7_64 : Dc prog_8_method_2_code 64 (.invokevirtual 31) 3 67 := ⟨by decide +kernel, rfl⟩
theorem d7_67 : Dc prog_8_method_2_code 67 (.bipush 48) 2 69 := ⟨by decide +kernel, rfl⟩
theorem d7_69 : Dc prog_8_method_2_code 69 (.invokevirtual 52) 3 72 := ⟨by decide +kernel, rfl⟩
theorem d7_72 : Dc prog_8_method_2_code 72 (.invokevirtual 37) 3 75 := ⟨by decide +kernel, rfl⟩
theorem d7_75 : Dc prog_8_method_2_code 75 (.invokespecial 55) 3 78 := ⟨by decide +kernel, rfl⟩
theorem d7_78 : Dc prog_8_method_2_code 78 (.areturn) 1 79 := ⟨by decide +kernel, rfl⟩
theorem d8_0 : Dc jdk_42_method_77_code 0 (.aload_n 0) 1 1 := ⟨by decide +kernel, rfl⟩
theorem d8_1 : Dc jdk_42_method_77_code 1 (.aload_n 1) 1 2 := ⟨by decide +kernel, rfl⟩
theorem d8_2 : Dc jdk_42_method_77_code 2 (.aload_n 0) 1 3 := ⟨by decide +kernel, rfl⟩
theorem d8_3 : Dc jdk_42_method_77_code 3 (.invokevirtual 505) 3 6 := ⟨by decide +kernel, rfl⟩
theorem d8_6 : Dc jdk_42_method_77_code 6 (.aload_n 1) 1 7 := ⟨by decide +kernel, rfl⟩
theorem d8_7 : Dc jdk_42_method_77_code 7 (.invokevirtual 505) 3 10 := ⟨by decide +kernel, rfl⟩
theorem d8_10 : Dc jdk_42_method_77_code 10 (.isub) 1 11 := ⟨by decide +kernel, rfl⟩
theorem d8_11 : Dc jdk_42_method_77_code 11 (.invokevirtual 624) 3 14 := ⟨by decide +kernel, rfl⟩
theorem d8_14 : Dc jdk_42_method_77_code 14 (.ireturn) 1 15 := ⟨by decide +kernel, rfl⟩
theorem d9_0 : Dc jdk_42_method_54_code 0 (.aload_n 0) 1 1 := ⟨by decide +kernel, rfl⟩
theorem d9_1 : Dc jdk_42_method_54_code 1 (.getfield 9) 3 4 := ⟨by decide +kernel, rfl⟩
theorem d9_4 : Dc jdk_42_method_54_code 4 (.arraylength) 1 5 := ⟨by decide +kernel, rfl⟩
theorem d9_5 : Dc jdk_42_method_54_code 5 (.aload_n 0) 1 6 := ⟨by decide +kernel, rfl⟩
theorem d9_6 : Dc jdk_42_method_54_code 6 (.invokevirtual 335) 3 9 := ⟨by decide +kernel, rfl⟩
theorem d9_9 : Dc jdk_42_method_54_code 9 (.ishr) 1 10 := ⟨by decide +kernel, rfl⟩
theorem d9_10 : Dc jdk_42_method_54_code 10 (.ireturn) 1 11 := ⟨by decide +kernel, rfl⟩
theorem d10_0 : Dc jdk_42_method_152_code 0 (.getstatic 38) 3 3 := ⟨by decide +kernel, rfl⟩
theorem d10_3 : Db jdk_42_method_152_code 3 (.ifCond .eq 10) 3 6 (10) 13 := ⟨by decide +kernel, rfl, by decide, by decide⟩
theorem d10_6 : Dc jdk_42_method_152_code 6 (.aload_n 0) 1 7 := ⟨by decide +kernel, rfl⟩
theorem d10_7 : Dc jdk_42_method_152_code 7 (.getfield 15) 3 10 := ⟨by decide +kernel, rfl⟩
theorem d10_10 : Db jdk_42_method_152_code 10 (.goto 4) 3 13 (4) 14 := ⟨by decide +kernel, rfl, by decide, by decide⟩
theorem d10_14 : Dc jdk_42_method_152_code 14 (.ireturn) 1 15 := ⟨by decide +kernel, rfl⟩
theorem d11_0 : Dc jdk_42_method_75_code 0 (.iload_n 2) 1 1 := ⟨by decide +kernel, rfl⟩
theorem d11_1 : Db jdk_42_method_75_code 1 (.ifCond .lt 16) 3 4 (16) 17 := ⟨by decide +kernel, rfl, by decide, by decide⟩
theorem d11_4 : Dc jdk_42_method_75_code 4 (.iload_n 2) 1 5 := ⟨by decide +kernel, rfl⟩
theorem d11_5 : Dc jdk_42_method_75_code 5 (.aload_n 0) 1 6 := ⟨by decide +kernel, rfl⟩
theorem d11_6 : Dc jdk_42_method_75_code 6 (.invokevirtual 505) 3 9 := ⟨by decide +kernel, rfl⟩
theorem d11_9 : Dc jdk_42_method_75_code 9 (.aload_n 1) 1 10 := ⟨by decide +kernel, rfl⟩
theorem d11_10 : Dc jdk_42_method_75_code 10 (.invokevirtual 505) 3 13 := ⟨by decide +kernel, rfl⟩
theorem d11_13 : Dc jdk_42_method_75_code 13 (.isub) 1 14 := ⟨by decide +kernel, rfl⟩
theorem d11_14 : Db jdk_42_method_75_code 14 (.if_icmp .le 5) 3 17 (5) 19 := ⟨by decide +kernel, rfl, by decide, by decide⟩
theorem d11_19 : Dc jdk_42_method_75_code 19 (.aload_n 0) 1 20 := ⟨by decide +kernel, rfl⟩
theorem d11_20 : Dc jdk_42_method_75_code 20 (.getfield 9) 3 23 := ⟨by decide +kernel, rfl⟩
theorem d11_23 : Dc jdk_42_method_75_code 23 (.astore_n 3) 1 24 := ⟨by decide +kernel, rfl⟩
theorem d11_24 : Dc jdk_42_method_75_code 24 (.aload_n 1) 1 25 := ⟨by decide +kernel, rfl⟩
theorem d11_25 : Dc jdk_42_method_75_code 25 (.getfield 9) 3 28 := ⟨by decide +kernel, rfl⟩
theorem d11_28 : Dc jdk_42_method_75_code 28 (.astore 4) 2 30 := ⟨by decide +kernel, rfl⟩
theorem d11_30 : Dc jdk_42_method_75_code 30 (.iconst 0) 1 31 := ⟨by decide +kernel, rfl⟩
theorem d11_31 : Dc jdk_42_method_75_code 31 (.istore 5) 2 33 := ⟨by decide +kernel, rfl⟩
theorem d11_33 : Dc jdk_42_method_75_code 33 (.aload 4) 2 35 := ⟨by decide +kernel, rfl⟩
theorem d11_35 : Dc jdk_42_method_75_code 35 (.arraylength) 1 36 := ⟨by decide +kernel, rfl⟩
theorem d11_36 : Dc jdk_42_method_75_code 36 (.istore 6) 2 38 := ⟨by decide +kernel, rfl⟩
theorem d11_38 : Dc jdk_42_method_75_code 38 (.aload_n 0) 1 39 := ⟨by decide +kernel, rfl⟩
theorem d11_39 : Dc jdk_42_method_75_code 39 (.invokevirtual 335) 3 42 := ⟨by decide +kernel, rfl⟩
theorem d11_42 : Dc jdk_42_method_75_code 42 (.istore 7) 2 44 := ⟨by decide +kernel, rfl⟩
theorem d11_44 : Dc jdk_42_method_75_code 44 (.iload 7) 2 46 := ⟨by decide +kernel, rfl⟩
theorem d11_46 : Dc jdk_42_method_75_code 46 (.aload_n 1) 1 47 := ⟨by decide +kernel, rfl⟩
theorem d11_47 : Dc jdk_42_method_75_code 47 (.invokevirtual 335) 3 50 := ⟨by decide +kernel, rfl⟩
theorem d11_50 : Db jdk_42_method_75_code 50 (.if_icmp .ne 32) 3 53 (32) 82 := ⟨by decide +kernel, rfl, by decide, by decide⟩
theorem d11_53 : Dc jdk_42_method_75_code 53 (.iload 7) 2 55 := ⟨by decide +kernel, rfl⟩
theorem d11_55 : Dc jdk_42_method_75_code 55 (.iconst 1) 1 56 := ⟨by decide +kernel, rfl⟩
theorem d11_56 : Db jdk_42_method_75_code 56 (.if_icmp .ne 7) 3 59 (7) 63 := ⟨by decide +kernel, rfl, by decide, by decide⟩
theorem d11_63 : Dc jdk_42_method_75_code 63 (.aload_n 3) 1 64 := ⟨by decide +kernel, rfl⟩
theorem d11_64 : Dc jdk_42_method_75_code 64 (.iload_n 2) 1 65 := ⟨by decide +kernel, rfl⟩
theorem d11_65 : Dc jdk_42_method_75_code 65 (.aload 4) 2 67 := ⟨by decide +kernel, rfl⟩
theorem d11_67 : Dc jdk_42_method_75_code 67 (.iconst 0) 1 68 := ⟨by decide +kernel, rfl⟩
theorem d11_68 : Dc jdk_42_method_75_code 68 (.iload 6) 2 70 := ⟨by decide +kernel, rfl⟩
theorem d11_70 : Dc jdk_42_method_75_code 70 (.invokestatic 607) 3 73 := ⟨by decide +kernel, rfl⟩
theorem d11_73 : Db jdk_42_method_75_code 73 (.ifCond .ge 7) 3 76 (7) 80 := ⟨by decide +kernel, rfl, by decide, by decide⟩
theorem d11_76 : Dc jdk_42_method_75_code 76 (.iconst 1) 1 77 := ⟨by decide +kernel, rfl⟩
theorem d11_77 : Db jdk_42_method_75_code 77 (.goto 4) 3 80 (4) 81 := ⟨by decide +kernel, rfl, by decide, by decide⟩
theorem d11_81 : Dc jdk_42_method_75_code 81 (.ireturn) 1 82 := ⟨by decide +kernel, rfl⟩
theorem d11_82 : Dc jdk_42_method_75_code 82 (.iload 7) 2 84 := ⟨by decide +kernel, rfl⟩
theorem d11_84 : Db jdk_42_method_75_code 84 (.ifCond .ne 5) 3 87 (5) 89 := ⟨by decide +kernel, rfl, by decide, by decide⟩
theorem d11_89 : Dc jdk_42_method_75_code 89 (.iload 5) 2 91 := ⟨by decide +kernel, rfl⟩
theorem d11_91 : Dc jdk_42_method_75_code 91 (.iload 6) 2 93 := ⟨by decide +kernel, rfl⟩
theorem d11_93 : Db jdk_42_method_75_code 93 (.if_icmp .ge 28) 3 96 (28) 121 := ⟨by decide +kernel, rfl, by decide, by decide⟩
theorem d11_96 : Dc jdk_42_method_75_code 96 (.aload_n 3) 1 97 := ⟨by decide +kernel, rfl⟩
theorem d11_97 : Dc jdk_42_method_75_code 97 (.iload_n 2) 1 98 := ⟨by decide +kernel, rfl⟩
theorem d11_98 : Dc jdk_42_method_75_code 98 (.iinc 2 1) 3 101 := ⟨by decide +kernel, rfl⟩
theorem d11_101 : Dc jdk_42_method_75_code 101 (.invokestatic 360) 3 104 := ⟨by decide +kernel, rfl⟩
theorem d11_104 : Dc jdk_42_method_75_code 104 (.aload 4) 2 106 := ⟨by decide +kernel, rfl⟩
theorem d11_106 : Dc jdk_42_method_75_code 106 (.iload 5) 2 108 := ⟨by decide +kernel, rfl⟩
theorem d11_108 : Dc jdk_42_method_75_code 108 (.iinc 5 1) 3 111 := ⟨by decide +kernel, rfl⟩
theorem d11_111 : Dc jdk_42_method_75_code 111 (.baload) 1 112 := ⟨by decide +kernel, rfl⟩
theorem d11_112 : Dc jdk_42_method_75_code 112 (.sipush 255) 3 115 := ⟨by decide +kernel, rfl⟩
theorem d11_115 : Dc jdk_42_method_75_code 115 (.iand) 1 116 := ⟨by decide +kernel, rfl⟩
theorem d11_116 : Db jdk_42_method_75_code 116 (.if_icmp .eq (-27)) 3 119 (-27) 89 := ⟨by decide +kernel, rfl, by decide, by decide⟩
theorem d11_121 : Dc jdk_42_method_75_code 121 (.iconst 1) 1 122 := ⟨by decide +kernel, rfl⟩
theorem d11_122 : Dc jdk_42_method_75_code 122 (.ireturn) 1 123 := ⟨by decide +kernel, rfl⟩
theorem d12_0 : Dc jdk_48_method_14_code 0 (.iconst 0) 1 1 := ⟨by decide +kernel, rfl⟩
theorem d12_1 : Dc jdk_48_method_14_code 1 (.istore 5) 2 3 := ⟨by decide +kernel, rfl⟩
theorem d12_3 : Dc jdk_48_method_14_code 3 (.iload 4) 2 5 := ⟨by decide +kernel, rfl⟩
theorem d12_5 : Dc jdk_48_method_14_code 5 (.bipush 7) 2 7 := ⟨by decide +kernel, rfl⟩
theorem d12_7 : Db jdk_48_method_14_code 7 (.if_icmp .le 63) 3 10 (63) 70 := ⟨by decide +kernel, rfl, by decide, by decide⟩
theorem d12_70 : Dc jdk_48_method_14_code 70 (.iload 5) 2 72 := ⟨by decide +kernel, rfl⟩
theorem d12_72 : Dc jdk_48_method_14_code 72 (.iload 4) 2 74 := ⟨by decide +kernel, rfl⟩
theorem d12_74 : Db jdk_48_method_14_code 74 (.if_icmp .ge 27) 3 77 (27) 101 := ⟨by decide +kernel, rfl, by decide, by decide⟩
theorem d12_77 : Dc jdk_48_method_14_code 77 (.aload_n 0) 1 78 := ⟨by decide +kernel, rfl⟩
theorem d12_78 : Dc jdk_48_method_14_code 78 (.iload_n 1) 1 79 := ⟨by decide +kernel, rfl⟩
theorem d12_79 : Dc jdk_48_method_14_code 79 (.iload 5) 2 81 := ⟨by decide +kernel, rfl⟩
theorem d12_81 : Dc jdk_48_method_14_code 81 (.iadd) 1 82 := ⟨by decide +kernel, rfl⟩
theorem d12_82 : Dc jdk_48_method_14_code 82 (.baload) 1 83 := ⟨by decide +kernel, rfl⟩
theorem d12_83 : Dc jdk_48_method_14_code 83 (.aload_n 2) 1 84 := ⟨by decide +kernel, rfl⟩
theorem d12_84 : Dc jdk_48_method_14_code 84 (.iload_n 3) 1 85 := ⟨by decide +kernel, rfl⟩
theorem d12_85 : Dc jdk_48_method_14_code 85 (.iload 5) 2 87 := ⟨by decide +kernel, rfl⟩
theorem d12_87 : Dc jdk_48_method_14_code 87 (.iadd) 1 88 := ⟨by decide +kernel, rfl⟩
theorem d12_88 : Dc jdk_48_method_14_code 88 (.baload) 1 89 := ⟨by decide +kernel, rfl⟩
theorem d12_89 : Db jdk_48_method_14_code 89 (.if_icmp .eq 6) 3 92 (6) 95 := ⟨by decide +kernel, rfl, by decide, by decide⟩
theorem d12_95 : Dc jdk_48_method_14_code 95 (.iinc 5 1) 3 98 := ⟨by decide +kernel, rfl⟩
theorem d12_98 : Db jdk_48_method_14_code 98 (.goto (-28)) 3 101 (-28) 70 := ⟨by decide +kernel, rfl, by decide, by decide⟩
theorem d12_101 : Dc jdk_48_method_14_code 101 (.iconst (-1)) 1 102 := ⟨by decide +kernel, rfl⟩
theorem d12_102 : Dc jdk_48_method_14_code 102 (.ireturn) 1 103 := ⟨by decide +kernel, rfl⟩
theorem d13_0 : Dc jdk_67_method_1_code 0 (.aload_n 0) 1 1 := ⟨by decide +kernel, rfl⟩
theorem d13_1 : Dc jdk_67_method_1_code 1 (.bipush 16) 2 3 := ⟨by decide +kernel, rfl⟩
theorem d13_3 : Dc jdk_67_method_1_code 3 (.invokespecial 1) 3 6 := ⟨by decide +kernel, rfl⟩
theorem d13_6 : Dc jdk_67_method_1_code 6 (.return_) 1 7 := ⟨by decide +kernel, rfl⟩
theorem d14_0 : Dc jdk_68_method_2_code 0 (.aload_n 0) 1 1 := ⟨by decide +kernel, rfl⟩
theorem d14_1 : Dc jdk_68_method_2_code 1 (.invokespecial 3) 3 4 := ⟨by decide +kernel, rfl⟩
theorem d14_4 : Dc jdk_68_method_2_code 4 (.getstatic 18) 3 7 := ⟨by decide +kernel, rfl⟩
theorem d14_7 : Db jdk_68_method_2_code 7 (.ifCond .eq 18) 3 10 (18) 25 := ⟨by decide +kernel, rfl, by decide, by decide⟩
theorem d14_10 : Dc jdk_68_method_2_code 10 (.aload_n 0) 1 11 := ⟨by decide +kernel, rfl⟩
theorem d14_11 : Dc jdk_68_method_2_code 11 (.iload_n 1) 1 12 := ⟨by decide +kernel, rfl⟩
theorem d14_12 : Dc jdk_68_method_2_code 12 (.newarray .byte) 2 14 := ⟨by decide +kernel, rfl⟩
theorem d14_14 : Dc jdk_68_method_2_code 14 (.putfield 15) 3 17 := ⟨by decide +kernel, rfl⟩
theorem d14_17 : Dc jdk_68_method_2_code 17 (.aload_n 0) 1 18 := ⟨by decide +kernel, rfl⟩
theorem d14_18 : Dc jdk_68_method_2_code 18 (.iconst 0) 1 19 := ⟨by decide +kernel, rfl⟩
theorem d14_19 : Dc jdk_68_method_2_code 19 (.putfield 22) 3 22 := ⟨by decide +kernel, rfl⟩
theorem d14_22 : Db jdk_68_method_2_code 22 (.goto 16) 3 25 (16) 38 := ⟨by decide +kernel, rfl, by decide, by decide⟩
theorem d14_38 : Dc jdk_68_method_2_code 38 (.return_) 1 39 := ⟨by decide +kernel, rfl⟩
theorem d15_0 : Dc jdk_42_method_92_code 0 (.aload_n 0) 1 1 := ⟨by decide +kernel, rfl⟩
theorem d15_1 : Dc jdk_42_method_92_code 1 (.invokevirtual 505) 3 4 := ⟨by decide +kernel, rfl⟩
theorem d15_4 : Dc jdk_42_method_92_code 4 (.istore_n 3) 1 5 := ⟨by decide +kernel, rfl⟩
theorem d15_5 : Dc jdk_42_method_92_code 5 (.iload_n 1) 1 6 := ⟨by decide +kernel, rfl⟩
theorem d15_6 : Dc jdk_42_method_92_code 6 (.iload_n 2) 1 7 := ⟨by decide +kernel, rfl⟩
theorem d15_7 : Dc jdk_42_method_92_code 7 (.iload_n 3) 1 8 := ⟨by decide +kernel, rfl⟩
theorem d15_8 : Dc jdk_42_method_92_code 8 (.invokestatic 521) 3 11 := ⟨by decide +kernel, rfl⟩
theorem d15_11 : Dc jdk_42_method_92_code 11 (.iload_n 1) 1 12 := ⟨by decide +kernel, rfl⟩
theorem d15_12 : Db jdk_42_method_92_code 12 (.ifCond .ne 10) 3 15 (10) 22 := ⟨by decide +kernel, rfl, by decide, by decide⟩
theorem d15_15 : Dc jdk_42_method_92_code 15 (.iload_n 2) 1 16 := ⟨by decide +kernel, rfl⟩
theorem d15_16 : Dc jdk_42_method_92_code 16 (.iload_n 3) 1 17 := ⟨by decide +kernel, rfl⟩
theorem d15_17 : Db jdk_42_method_92_code 17 (.if_icmp .ne 5) 3 20 (5) 22 := ⟨by decide +kernel, rfl, by decide, by decide⟩
theorem d15_22 : Dc jdk_42_method_92_code 22 (.iload_n 2) 1 23 := ⟨by decide +kernel, rfl⟩
theorem d15_23 : Dc jdk_42_method_92_code 23 (.iload_n 1) 1 24 := ⟨by decide +kernel, rfl⟩
theorem d15_24 : Dc jdk_42_method_92_code 24 (.isub) 1 25 := ⟨by decide +kernel, rfl⟩
theorem d15_25 : Dc jdk_42_method_92_code 25 (.istore 4) 2 27 := ⟨by decide +kernel, rfl⟩
theorem d15_27 : Dc jdk_42_method_92_code 27 (.aload_n 0) 1 28 := ⟨by decide +kernel, rfl⟩
theorem d15_28 : Dc jdk_42_method_92_code 28 (.invokevirtual 492) 3 31 := ⟨by decide +kernel, rfl⟩
theorem d15_31 : Db jdk_42_method_92_code 31 (.ifCond .eq 16) 3 34 (16) 47 := ⟨by decide +kernel, rfl, by decide, by decide⟩
theorem d15_34 : Dc jdk_42_method_92_code 34 (.aload_n 0) 1 35 := ⟨by decide +kernel, rfl⟩
theorem d15_35 : Dc jdk_42_method_92_code 35 (.getfield 9) 3 38 := ⟨by decide +kernel, rfl⟩
theorem d15_38 : Dc jdk_42_method_92_code 38 (.iload_n 1) 1 39 := ⟨by decide +kernel, rfl⟩
theorem d15_39 : Dc jdk_42_method_92_code 39 (.iload 4) 2 41 := ⟨by decide +kernel, rfl⟩
theorem d15_41 : Dc jdk_42_method_92_code 41 (.invokestatic 685) 3 44 := ⟨by decide +kernel, rfl⟩
theorem d15_44 : Db jdk_42_method_92_code 44 (.goto 13) 3 47 (13) 57 := ⟨by decide +kernel, rfl, by decide, by decide⟩
theorem d15_47 : Dc jdk_42_method_92_code 47 (.aload_n 0) 1 48 := ⟨by decide +kernel, rfl⟩
theorem d15_48 : Dc jdk_42_method_92_code 48 (.getfield 9) 3 51 := ⟨by decide +kernel, rfl⟩
theorem d15_51 : Dc jdk_42_method_92_code 51 (.iload_n 1) 1 52 := ⟨by decide +kernel, rfl⟩
theorem d15_52 : Dc jdk_42_method_92_code 52 (.iload 4) 2 54 := ⟨by decide +kernel, rfl⟩
theorem d15_54 : Dc jdk_42_method_92_code 54 (.invokestatic 689) 3 57 := ⟨by decide +kernel, rfl⟩
theorem d15_57 : Dc jdk_42_method_92_code 57 (.areturn) 1 58 := ⟨by decide +kernel, rfl⟩
theorem d16_0 : Dc jdk_42_method_158_code 0 (.iload_n 0) 1 1 := ⟨by decide +kernel, rfl⟩
theorem d16_1 : Dc jdk_42_method_158_code 1 (.iload_n 1) 1 2 := ⟨by decide +kernel, rfl⟩
theorem d16_2 : Dc jdk_42_method_158_code 2 (.iload_n 2) 1 3 := ⟨by decide +kernel, rfl⟩
theorem d16_3 : Dc jdk_42_method_158_code 3 (.getstatic 1053) 3 6 := ⟨by decide +kernel, rfl⟩
theorem d16_6 : Dc jdk_42_method_158_code 6 (.invokestatic 1062) 3 9 := ⟨by decide +kernel, rfl⟩
theorem d16_9 : Dc jdk_42_method_158_code 9 (.pop) 1 10 := ⟨by decide +kernel, rfl⟩
theorem d16_10 : Dc jdk_42_method_158_code 10 (.return_) 1 11 := ⟨by decide +kernel, rfl⟩
theorem d17_0 : Dc jdk_41_method_12_code 0 (.iload_n 0) 1 1 := ⟨by decide +kernel, rfl⟩
theorem d17_1 : Db jdk_41_method_12_code 1 (.ifCond .lt 13) 3 4 (13) 14 := ⟨by decide +kernel, rfl, by decide, by decide⟩
theorem d17_4 : Dc jdk_41_method_12_code 4 (.iload_n 0) 1 5 := ⟨by decide +kernel, rfl⟩
theorem d17_5 : Dc jdk_41_method_12_code 5 (.iload_n 1) 1 6 := ⟨by decide +kernel, rfl⟩
theorem d17_6 : Db jdk_41_method_12_code 6 (.if_icmp .gt 8) 3 9 (8) 14 := ⟨by decide +kernel, rfl, by decide, by decide⟩
theorem d17_9 : Dc jdk_41_method_12_code 9 (.iload_n 1) 1 10 := ⟨by decide +kernel, rfl⟩
theorem d17_10 : Dc jdk_41_method_12_code 10 (.iload_n 2) 1 11 := ⟨by decide +kernel, rfl⟩
theorem d17_11 : Db jdk_41_method_12_code 11 (.if_icmp .le 11) 3 14 (11) 22 := ⟨by decide +kernel, rfl, by decide, by decide⟩
theorem d17_22 : Dc jdk_41_method_12_code 22 (.iload_n 0) 1 23 := ⟨by decide +kernel, rfl⟩
theorem d17_23 : Dc jdk_41_method_12_code 23 (.ireturn) 1 24 := ⟨by decide +kernel, rfl⟩
theorem d18_0 : Dc jdk_42_method_154_code 0 (.getstatic 38) 3 3 := ⟨by decide +kernel, rfl⟩
theorem d18_3 : Db jdk_42_method_154_code 3 (.ifCond .eq 14) 3 6 (14) 17 := ⟨by decide +kernel, rfl, by decide, by decide⟩
theorem d18_6 : Dc jdk_42_method_154_code 6 (.aload_n 0) 1 7 := ⟨by decide +kernel, rfl⟩
theorem d18_7 : Dc jdk_42_method_154_code 7 (.getfield 15) 3 10 := ⟨by decide +kernel, rfl⟩
theorem d18_10 : Db jdk_42_method_154_code 10 (.ifCond .ne 7) 3 13 (7) 17 := ⟨by decide +kernel, rfl, by decide, by decide⟩
theorem d18_13 : Dc jdk_42_method_154_code 13 (.iconst 1) 1 14 := ⟨by decide +kernel, rfl⟩
theorem d18_14 : Db jdk_42_method_154_code 14 (.goto 4) 3 17 (4) 18 := ⟨by decide +kernel, rfl, by decide, by decide⟩
theorem d18_17 : Dc jdk_42_method_154_code 17 (.iconst 0) 1 18 := ⟨by decide +kernel, rfl⟩
theorem d18_18 : Dc jdk_42_method_154_code 18 (.ireturn) 1 19 := ⟨by decide +kernel, rfl⟩
theorem d19_0 : Dc jdk_43_method_47_code 0 (.iload_n 2) 1 1 := ⟨by decide +kernel, rfl⟩
theorem d19_1 : Db jdk_43_method_47_code 1 (.ifCond .ne 6) 3 4 (6) 7 := ⟨by decide +kernel, rfl, by decide, by decide⟩
theorem d19_4 : Dc jdk_43_method_47_code 4 (.ldc 151) 2 6 := ⟨by decide +kernel, rfl⟩
theorem d19_6 : Dc jdk_43_method_47_code 6 (.areturn) 1 7 := ⟨by decide +kernel, rfl⟩
theorem d19_7 : Dc jdk_43_method_47_code 7 (.new 1) 3 10 := ⟨by decide +kernel, rfl⟩
theorem d19_10 : Dc jdk_43_method_47_code 10 (.dup) 1 11 := ⟨by decide +kernel, rfl⟩
theorem d19_11 : Dc jdk_43_method_47_code 11 (.aload_n 0) 1 12 := ⟨by decide +kernel, rfl⟩
theorem d19_12 : Dc jdk_43_method_47_code 12 (.iload_n 1) 1 13 := ⟨by decide +kernel, rfl⟩
theorem d19_13 : Dc jdk_43_method_47_code 13 (.iload_n 1) 1 14 := ⟨by decide +kernel, rfl⟩
theorem d19_14 : Dc jdk_43_method_47_code 14 (.iload_n 2) 1 15 := ⟨by decide +kernel, rfl⟩
theorem d19_15 : Dc jdk_43_method_47_code 15 (.iadd) 1 16 := ⟨by decide +kernel, rfl⟩
theorem d19_16 : Dc jdk_43_method_47_code 16 (.invokestatic 232) 3 19 := ⟨by decide +kernel, rfl⟩
theorem d19_19 : Dc jdk_43_method_47_code 19 (.iconst 0) 1 20 := ⟨by decide +kernel, rfl⟩
theorem d19_20 : Dc jdk_43_method_47_code 20 (.invokespecial 112) 3 23 := ⟨by decide +kernel, rfl⟩
theorem d19_23 : Dc jdk_43_method_47_code 23 (.areturn) 1 24 := ⟨by decide +kernel, rfl⟩
theorem d20_0 : Dc jdk_67_method_7_code 0 (.aload_n 0) 1 1 := ⟨by decide +kernel, rfl⟩
theorem d20_1 : Dc jdk_67_method_7_code 1 (.aload_n 1) 1 2 := ⟨by decide +kernel, rfl⟩
theorem d20_2 : Dc jdk_67_method_7_code 2 (.invokespecial 29) 3 5 := ⟨by decide +kernel, rfl⟩
theorem d20_5 : Dc jdk_67_method_7_code 5 (.pop) 1 6 := ⟨by decide +kernel, rfl⟩
theorem d20_6 : Dc jdk_67_method_7_code 6 (.aload_n 0) 1 7 := ⟨by decide +kernel, rfl⟩
theorem d20_7 : Dc jdk_67_method_7_code 7 (.areturn) 1 8 := ⟨by decide +kernel, rfl⟩
theorem d21_0 : Dc jdk_68_method_22_code 0 (.aload_n 1) 1 1 := ⟨by decide +kernel, rfl⟩
theorem d21_1 : Db jdk_68_method_22_code 1 (.ifnonnull 8) 3 4 (8) 9 := ⟨by decide +kernel, rfl, by decide, by decide⟩
theorem d21_9 : Dc jdk_68_method_22_code 9 (.aload_n 1) 1 10 := ⟨by decide +kernel, rfl⟩
theorem d21_10 : Dc jdk_68_method_22_code 10 (.invokevirtual 32) 3 13 := ⟨by decide +kernel, rfl⟩
theorem d21_13 : Dc jdk_68_method_22_code 13 (.istore_n 2) 1 14 := ⟨by decide +kernel, rfl⟩
theorem d21_14 : Dc jdk_68_method_22_code 14 (.aload_n 0) 1 15 := ⟨by decide +kernel, rfl⟩
theorem d21_15 : Dc jdk_68_method_22_code 15 (.aload_n 0) 1 16 := ⟨by decide +kernel, rfl⟩
theorem d21_16 : Dc jdk_68_method_22_code 16 (.getfield 79) 3 19 := ⟨by decide +kernel, rfl⟩
theorem d21_19 : Dc jdk_68_method_22_code 19 (.iload_n 2) 1 20 := ⟨by decide +kernel, rfl⟩
theorem d21_20 : Dc jdk_68_method_22_code 20 (.iadd) 1 21 := ⟨by decide +kernel, rfl⟩
theorem d21_21 : Dc jdk_68_method_22_code 21 (.invokevirtual 100) 3 24 := ⟨by decide +kernel, rfl⟩
theorem d21_24 : Dc jdk_68_method_22_code 24 (.aload_n 0) 1 25 := ⟨by decide +kernel, rfl⟩
theorem d21_25 : Dc jdk_68_method_22_code 25 (.aload_n 0) 1 26 := ⟨by decide +kernel, rfl⟩
theorem d21_26 : Dc jdk_68_method_22_code 26 (.getfield 79) 3 29 := ⟨by decide +kernel, rfl⟩
theorem d21_29 : Dc jdk_68_method_22_code 29 (.aload_n 1) 1 30 := ⟨by decide +kernel, rfl⟩
theorem d21_30 : Dc jdk_68_method_22_code 30 (.invokevirtual 208) 3 33 := ⟨by decide +kernel, rfl⟩
theorem d21_33 : Dc jdk_68_method_22_code 33 (.aload_n 0) 1 34 := ⟨by decide +kernel, rfl⟩
theorem d21_34 : Dc jdk_68_method_22_code 34 (.dup) 1 35 := ⟨by decide +kernel, rfl⟩
theorem d21_35 : Dc jdk_68_method_22_code 35 (.getfield 79) 3 38 := ⟨by decide +kernel, rfl⟩
theorem d21_38 : Dc jdk_68_method_22_code 38 (.iload_n 2) 1 39 := ⟨by decide +kernel, rfl⟩
theorem d21_39 : Dc jdk_68_method_22_code 39 (.iadd) 1 40 := ⟨by decide +kernel, rfl⟩
theorem d21_40 : Dc jdk_68_method_22_code 40 (.putfield 79) 3 43 := ⟨by decide +kernel, rfl⟩
theorem d21_43 : Dc jdk_68_method_22_code 43 (.aload_n 0) 1 44 := ⟨by decide +kernel, rfl⟩
theorem d21_44 : Dc jdk_68_method_22_code 44 (.areturn) 1 45 := ⟨by decide +kernel, rfl⟩
theorem d22_0 : Dc jdk_68_method_9_code 0 (.aload_n 0) 1 1 := ⟨by decide +kernel, rfl⟩
theorem d22_1 : Dc jdk_68_method_9_code 1 (.getfield 15) 3 4 := ⟨by decide +kernel, rfl⟩
theorem d22_4 : Dc jdk_68_method_9_code 4 (.arraylength) 1 5 := ⟨by decide +kernel, rfl⟩
theorem d22_5 : Dc jdk_68_method_9_code 5 (.aload_n 0) 1 6 := ⟨by decide +kernel, rfl⟩
theorem d22_6 : Dc jdk_68_method_9_code 6 (.getfield 22) 3 9 := ⟨by decide +kernel, rfl⟩
theorem d22_9 : Dc jdk_68_method_9_code 9 (.ishr) 1 10 := ⟨by decide +kernel, rfl⟩
theorem d22_10 : Dc jdk_68_method_9_code 10 (.istore_n 2) 1 11 := ⟨by decide +kernel, rfl⟩
theorem d22_11 : Dc jdk_68_method_9_code 11 (.iload_n 1) 1 12 := ⟨by decide +kernel, rfl⟩
theorem d22_12 : Dc jdk_68_method_9_code 12 (.iload_n 2) 1 13 := ⟨by decide +kernel, rfl⟩
theorem d22_13 : Dc jdk_68_method_9_code 13 (.isub) 1 14 := ⟨by decide +kernel, rfl⟩
theorem d22_14 : Db jdk_68_method_9_code 14 (.ifCond .le 24) 3 17 (24) 38 := ⟨by decide +kernel, rfl, by decide, by decide⟩
theorem d22_38 : Dc jdk_68_method_9_code 38 (.return_) 1 39 := ⟨by decide +kernel, rfl⟩
theorem d23_0 : Dc jdk_68_method_73_code 0 (.aload_n 0) 1 1 := ⟨by decide +kernel, rfl⟩
theorem d23_1 : Dc jdk_68_method_73_code 1 (.aload_n 2) 1 2 := ⟨by decide +kernel, rfl⟩
theorem d23_2 : Dc jdk_68_method_73_code 2 (.invokevirtual 397) 3 5 := ⟨by decide +kernel, rfl⟩
theorem d23_5 : Dc jdk_68_method_73_code 5 (.aload_n 2) 1 6 := ⟨by decide +kernel, rfl⟩
theorem d23_6 : Dc jdk_68_method_73_code 6 (.aload_n 0) 1 7 := ⟨by decide +kernel, rfl⟩
theorem d23_7 : Dc jdk_68_method_73_code 7 (.getfield 15) 3 10 := ⟨by decide +kernel, rfl⟩
theorem d23_10 : Dc jdk_68_method_73_code 10 (.iload_n 1) 1 11 := ⟨by decide +kernel, rfl⟩
theorem d23_11 : Dc jdk_68_method_73_code 11 (.aload_n 0) 1 12 := ⟨by decide +kernel, rfl⟩
theorem d23_12 : Dc jdk_68_method_73_code 12 (.getfield 22) 3 15 := ⟨by decide +kernel, rfl⟩
theorem d23_15 : Dc jdk_68_method_73_code 15 (.invokevirtual 399) 3 18 := ⟨by decide +kernel, rfl⟩
theorem d23_18 : Dc jdk_68_method_73_code 18 (.return_) 1 19 := ⟨by decide +kernel, rfl⟩
theorem d24_0 : Dc jdk_68_method_71_code 0 (.getstatic 18) 3 3 := ⟨by decide +kernel, rfl⟩
theorem d24_3 : Db jdk_68_method_71_code 3 (.ifCond .eq 18) 3 6 (18) 21 := ⟨by decide +kernel, rfl, by decide, by decide⟩
theorem d24_6 : Dc jdk_68_method_71_code 6 (.aload_n 0) 1 7 := ⟨by decide +kernel, rfl⟩
theorem d24_7 : Dc jdk_68_method_71_code 7 (.getfield 22) 3 10 := ⟨by decide +kernel, rfl⟩
theorem d24_10 : Dc jdk_68_method_71_code 10 (.aload_n 1) 1 11 := ⟨by decide +kernel, rfl⟩
theorem d24_11 : Dc jdk_68_method_71_code 11 (.invokevirtual 40) 3 14 := ⟨by decide +kernel, rfl⟩
theorem d24_14 : Db jdk_68_method_71_code 14 (.if_icmp .eq 7) 3 17 (7) 21 := ⟨by decide +kernel, rfl, by decide, by decide⟩
theorem d24_17 : Dc jdk_68_method_71_code 17 (.aload_n 0) 1 18 := ⟨by decide +kernel, rfl⟩
theorem d24_18 : Dc jdk_68_method_71_code 18 (.invokevirtual 195) 3 21 := ⟨by decide +kernel, rfl⟩
theorem d24_21 : Dc jdk_68_method_71_code 21 (.return_) 1 22 := ⟨by decide +kernel, rfl⟩
theorem d25_0 : Dc jdk_42_method_147_code 0 (.aload_n 0) 1 1 := ⟨by decide +kernel, rfl⟩
theorem d25_1 : Dc jdk_42_method_147_code 1 (.invokevirtual 335) 3 4 := ⟨by decide +kernel, rfl⟩
theorem d25_4 : Dc jdk_42_method_147_code 4 (.iload_n 3) 1 5 := ⟨by decide +kernel, rfl⟩
theorem d25_5 : Db jdk_42_method_147_code 5 (.if_icmp .ne 23) 3 8 (23) 28 := ⟨by decide +kernel, rfl, by decide, by decide⟩
theorem d25_8 : Dc jdk_42_method_147_code 8 (.aload_n 0) 1 9 := ⟨by decide +kernel, rfl⟩
theorem d25_9 : Dc jdk_42_method_147_code 9 (.getfield 9) 3 12 := ⟨by decide +kernel, rfl⟩
theorem d25_12 : Dc jdk_42_method_147_code 12 (.iconst 0) 1 13 := ⟨by decide +kernel, rfl⟩
theorem d25_13 : Dc jdk_42_method_147_code 13 (.aload_n 1) 1 14 := ⟨by decide +kernel, rfl⟩
theorem d25_14 : Dc jdk_42_method_147_code 14 (.iload_n 2) 1 15 := ⟨by decide +kernel, rfl⟩
theorem d25_15 : Dc jdk_42_method_147_code 15 (.iload_n 3) 1 16 := ⟨by decide +kernel, rfl⟩
theorem d25_16 : Dc jdk_42_method_147_code 16 (.ishl) 1 17 := ⟨by decide +kernel, rfl⟩
theorem d25_17 : Dc jdk_42_method_147_code 17 (.aload_n 0) 1 18 := ⟨by decide +kernel, rfl⟩
theorem d25_18 : Dc jdk_42_method_147_code 18 (.getfield 9) 3 21 := ⟨by decide +kernel, rfl⟩
theorem d25_21 : Dc jdk_42_method_147_code 21 (.arraylength) 1 22 := ⟨by decide +kernel, rfl⟩
theorem d25_22 : Dc jdk_42_method_147_code 22 (.invokestatic 212) 3 25 := ⟨by decide +kernel, rfl⟩
theorem d25_25 : Db jdk_42_method_147_code 25 (.goto 18) 3 28 (18) 43 := ⟨by decide +kernel, rfl, by decide, by decide⟩
theorem d25_43 : Dc jdk_42_method_147_code 43 (.return_) 1 44 := ⟨by decide +kernel, rfl⟩
theorem d26_0 : Dc jdk_67_method_14_code 0 (.aload_n 0) 1 1 := ⟨by decide +kernel, rfl⟩
theorem d26_1 : Dc jdk_67_method_14_code 1 (.iload_n 1) 1 2 := ⟨by decide +kernel, rfl⟩
theorem d26_2 : Dc jdk_67_method_14_code 2 (.invokespecial 50) 3 5 := ⟨by decide +kernel, rfl⟩
theorem d26_5 : Dc jdk_67_method_14_code 5 (.pop) 1 6 := ⟨by decide +kernel, rfl⟩
theorem d26_6 : Dc jdk_67_method_14_code 6 (.aload_n 0) 1 7 := ⟨by decide +kernel, rfl⟩
theorem d26_7 : Dc jdk_67_method_14_code 7 (.areturn) 1 8 := ⟨by decide +kernel, rfl⟩
theorem d27_0 : Dc jdk_68_method_31_code 0 (.aload_n 0) 1 1 := ⟨by decide +kernel, rfl⟩
theorem d27_1 : Dc jdk_68_method_31_code 1 (.aload_n 0) 1 2 := ⟨by decide +kernel, rfl⟩
theorem d27_2 : Dc jdk_68_method_31_code 2 (.getfield 79) 3 5 := ⟨by decide +kernel, rfl⟩
theorem d27_5 : Dc jdk_68_method_31_code 5 (.iconst 1) 1 6 := ⟨by decide +kernel, rfl⟩
theorem d27_6 : Dc jdk_68_method_31_code 6 (.iadd) 1 7 := ⟨by decide +kernel, rfl⟩
theorem d27_7 : Dc jdk_68_method_31_code 7 (.invokevirtual 100) 3 10 := ⟨by decide +kernel, rfl⟩
theorem d27_10 : Dc jdk_68_method_31_code 10 (.aload_n 0) 1 11 := ⟨by decide +kernel, rfl⟩
theorem d27_11 : Dc jdk_68_method_31_code 11 (.invokevirtual 83) 3 14 := ⟨by decide +kernel, rfl⟩
theorem d27_14 : Db jdk_68_method_31_code 14 (.ifCond .eq 31) 3 17 (31) 45 := ⟨by decide +kernel, rfl, by decide, by decide⟩
theorem d27_17 : Dc jdk_68_method_31_code 17 (.iload_n 1) 1 18 := ⟨by decide +kernel, rfl⟩
theorem d27_18 : Dc jdk_68_method_31_code 18 (.invokestatic 191) 3 21 := ⟨by decide +kernel, rfl⟩
theorem d27_21 : Db jdk_68_method_31_code 21 (.ifCond .eq 24) 3 24 (24) 45 := ⟨by decide +kernel, rfl, by decide, by decide⟩
theorem d27_24 : Dc jdk_68_method_31_code 24 (.aload_n 0) 1 25 := ⟨by decide +kernel, rfl⟩
theorem d27_25 : Dc jdk_68_method_31_code 25 (.getfield 15) 3 28 := ⟨by decide +kernel, rfl⟩
theorem d27_28 : Dc jdk_68_method_31_code 28 (.aload_n 0) 1 29 := ⟨by decide +kernel, rfl⟩
theorem d27_29 : Dc jdk_68_method_31_code 29 (.dup) 1 30 := ⟨by decide +kernel, rfl⟩
theorem d27_30 : Dc jdk_68_method_31_code 30 (.getfield 79) 3 33 := ⟨by decide +kernel, rfl⟩
theorem d27_33 : Dc jdk_68_method_31_code 33 (.dup_x1) 1 34 := ⟨by decide +kernel, rfl⟩
theorem d27_34 : Dc jdk_68_method_31_code 34 (.iconst 1) 1 35 := ⟨by decide +kernel, rfl⟩
theorem d27_35 : Dc jdk_68_method_31_code 35 (.iadd) 1 36 := ⟨by decide +kernel, rfl⟩
theorem d27_36 : Dc jdk_68_method_31_code 36 (.putfield 79) 3 39 := ⟨by decide +kernel, rfl⟩
theorem d27_39 : Dc jdk_68_method_31_code 39 (.iload_n 1) 1 40 := ⟨by decide +kernel, rfl⟩
theorem d27_40 : Dc jdk_68_method_31_code 40 (.i2b) 1 41 := ⟨by decide +kernel, rfl⟩
theorem d27_41 : Dc jdk_68_method_31_code 41 (.bastore) 1 42 := ⟨by decide +kernel, rfl⟩
theorem d27_42 : Db jdk_68_method_31_code 42 (.goto 33) 3 45 (33) 75 := ⟨by decide +kernel, rfl, by decide, by decide⟩
theorem d27_45 : Dc jdk_68_method_31_code 45 (.aload_n 0) 1 46 := ⟨by decide +kernel, rfl⟩
theorem d27_46 : Dc jdk_68_method_31_code 46 (.invokevirtual 83) 3 49 := ⟨by decide +kernel, rfl⟩
theorem d27_49 : Db jdk_68_method_31_code 49 (.ifCond .eq 7) 3 52 (7) 56 := ⟨by decide +kernel, rfl, by decide, by decide⟩
theorem d27_56 : Dc jdk_68_method_31_code 56 (.aload_n 0) 1 57 := ⟨by decide +kernel, rfl⟩
theorem d27_57 : Dc jdk_68_method_31_code 57 (.getfield 15) 3 60 := ⟨by decide +kernel, rfl⟩
theorem d27_60 : Dc jdk_68_method_31_code 60 (.aload_n 0) 1 61 := ⟨by decide +kernel, rfl⟩
theorem d27_61 : Dc jdk_68_method_31_code 61 (.dup) 1 62 := ⟨by decide +kernel, rfl⟩
theorem d27_62 : Dc jdk_68_method_31_code 62 (.getfield 79) 3 65 := ⟨by decide +kernel, rfl⟩
theorem d27_65 : Dc jdk_68_method_31_code 65 (.dup_x1) 1 66 := ⟨by decide +kernel, rfl⟩
theorem d27_66 : Dc jdk_68_method_31_code 66 (.iconst 1) 1 67 := ⟨by decide +kernel, rfl⟩
theorem d27_67 : Dc jdk_68_method_31_code 67 (.iadd) 1 68 := ⟨by decide +kernel, rfl⟩
theorem d27_68 : Dc jdk_68_method_31_code 68 (.putfield 79) 3 71 := ⟨by decide +kernel, rfl⟩
theorem d27_71 : Dc jdk_68_method_31_code 71 (.iload_n 1) 1 72 := ⟨by decide +kernel, rfl⟩
theorem d27_72 : Dc jdk_68_method_31_code 72 (.invokestatic 197) 3 75 := ⟨by decide +kernel, rfl⟩
theorem d27_75 : Dc jdk_68_method_31_code 75 (.aload_n 0) 1 76 := ⟨by decide +kernel, rfl⟩
theorem d27_76 : Dc jdk_68_method_31_code 76 (.areturn) 1 77 := ⟨by decide +kernel, rfl⟩
theorem d28_0 : Dc jdk_68_method_68_code 0 (.getstatic 18) 3 3 := ⟨by decide +kernel, rfl⟩
theorem d28_3 : Db jdk_68_method_68_code 3 (.ifCond .eq 14) 3 6 (14) 17 := ⟨by decide +kernel, rfl, by decide, by decide⟩
theorem d28_6 : Dc jdk_68_method_68_code 6 (.aload_n 0) 1 7 := ⟨by decide +kernel, rfl⟩
theorem d28_7 : Dc jdk_68_method_68_code 7 (.getfield 22) 3 10 := ⟨by decide +kernel, rfl⟩
theorem d28_10 : Db jdk_68_method_68_code 10 (.ifCond .ne 7) 3 13 (7) 17 := ⟨by decide +kernel, rfl, by decide, by decide⟩
theorem d28_13 : Dc jdk_68_method_68_code 13 (.iconst 1) 1 14 := ⟨by decide +kernel, rfl⟩
theorem d28_14 : Db jdk_68_method_68_code 14 (.goto 4) 3 17 (4) 18 := ⟨by decide +kernel, rfl, by decide, by decide⟩
theorem d28_17 : Dc jdk_68_method_68_code 17 (.iconst 0) 1 18 := ⟨by decide +kernel, rfl⟩
theorem d28_18 : Dc jdk_68_method_68_code 18 (.ireturn) 1 19 := ⟨by decide +kernel, rfl⟩
theorem d29_0 : Dc jdk_43_method_3_code 0 (.iload_n 0) 1 1 := ⟨by decide +kernel, rfl⟩
theorem d29_1 : Dc jdk_43_method_3_code 1 (.sipush 255) 3 4 := ⟨by decide +kernel, rfl⟩
theorem d29_4 : Db jdk_43_method_3_code 4 (.if_icmp .gt 7) 3 7 (7) 11 := ⟨by decide +kernel, rfl, by decide, by decide⟩
theorem d29_7 : Dc jdk_43_method_3_code 7 (.iconst 1) 1 8 := ⟨by decide +kernel, rfl⟩
theorem d29_8 : Db jdk_43_method_3_code 8 (.goto 4) 3 11 (4) 12 := ⟨by decide +kernel, rfl, by decide, by decide⟩
theorem d29_12 : Dc jdk_43_method_3_code 12 (.ireturn) 1 13 := ⟨by decide +kernel, rfl⟩
theorem d30_0 : Dc jdk_67_method_42_code 0 (.new 18) 3 3 := ⟨by decide +kernel, rfl⟩
theorem d30_3 : Dc jdk_67_method_42_code 3 (.dup) 1 4 := ⟨by decide +kernel, rfl⟩
theorem d30_4 : Dc jdk_67_method_42_code 4 (.aload_n 0) 1 5 := ⟨by decide +kernel, rfl⟩
theorem d30_5 : Dc jdk_67_method_42_code 5 (.invokespecial 137) 3 8 := ⟨by decide +kernel, rfl⟩
theorem d30_8 : Dc jdk_67_method_42_code 8 (.areturn) 1 9 := ⟨by decide +kernel, rfl⟩
theorem d31_0 : Dc jdk_42_method_53_code 0 (.aload_n 0) 1 1 := ⟨by decide +kernel, rfl⟩
theorem d31_1 : Dc jdk_42_method_53_code 1 (.aload_n 1) 1 2 := ⟨by decide +kernel, rfl⟩
theorem d31_2 : Dc jdk_42_method_53_code 2 (.aconst_null) 1 3 := ⟨by decide +kernel, rfl⟩
theorem d31_3 : Dc jdk_42_method_53_code 3 (.invokespecial 489) 3 6 := ⟨by decide +kernel, rfl⟩
theorem d31_6 : Dc jdk_42_method_53_code 6 (.return_) 1 7 := ⟨by decide +kernel, rfl⟩
theorem d32_0 : Dc jdk_42_method_150_code 0 (.aload_n 0) 1 1 := ⟨by decide +kernel, rfl⟩
theorem d32_1 : Dc jdk_42_method_150_code 1 (.invokespecial 1) 3 4 := ⟨by decide +kernel, rfl⟩
theorem d32_4 : Dc jdk_42_method_150_code 4 (.aload_n 1) 1 5 := ⟨by decide +kernel, rfl⟩
theorem d32_5 : Dc jdk_42_method_150_code 5 (.invokevirtual 552) 3 8 := ⟨by decide +kernel, rfl⟩
theorem d32_8 : Dc jdk_42_method_150_code 8 (.astore_n 3) 1 9 := ⟨by decide +kernel, rfl⟩
theorem d32_9 : Dc jdk_42_method_150_code 9 (.aload_n 1) 1 10 := ⟨by decide +kernel, rfl⟩
theorem d32_10 : Dc jdk_42_method_150_code 10 (.invokevirtual 549) 3 13 := ⟨by decide +kernel, rfl⟩
theorem d32_13 : Dc jdk_42_method_150_code 13 (.istore 4) 2 15 := ⟨by decide +kernel, rfl⟩
theorem d32_15 : Dc jdk_42_method_150_code 15 (.aload_n 1) 1 16 := ⟨by decide +kernel, rfl⟩
theorem d32_16 : Dc jdk_42_method_150_code 16 (.invokevirtual 1047) 3 19 := ⟨by decide +kernel, rfl⟩
theorem d32_19 : Db jdk_42_method_150_code 19 (.ifCond .eq 22) 3 22 (22) 41 := ⟨by decide +kernel, rfl, by decide, by decide⟩
theorem d32_22 : Dc jdk_42_method_150_code 22 (.aload_n 0) 1 23 := ⟨by decide +kernel, rfl⟩
theorem d32_23 : Dc jdk_42_method_150_code 23 (.iconst 0) 1 24 := ⟨by decide +kernel, rfl⟩
theorem d32_24 : Dc jdk_42_method_150_code 24 (.putfield 15) 3 27 := ⟨by decide +kernel, rfl⟩
theorem d32_27 : Dc jdk_42_method_150_code 27 (.aload_n 0) 1 28 := ⟨by decide +kernel, rfl⟩
theorem d32_28 : Dc jdk_42_method_150_code 28 (.aload_n 3) 1 29 := ⟨by decide +kernel, rfl⟩
theorem d32_29 : Dc jdk_42_method_150_code 29 (.iconst 0) 1 30 := ⟨by decide +kernel, rfl⟩
theorem d32_30 : Dc jdk_42_method_150_code 30 (.iload 4) 2 32 := ⟨by decide +kernel, rfl⟩
theorem d32_32 : Dc jdk_42_method_150_code 32 (.invokestatic 54) 3 35 := ⟨by decide +kernel, rfl⟩
theorem d32_35 : Dc jdk_42_method_150_code 35 (.putfield 9) 3 38 := ⟨by decide +kernel, rfl⟩
theorem d32_38 : Db jdk_42_method_150_code 38 (.goto 59) 3 41 (59) 97 := ⟨by decide +kernel, rfl, by decide, by decide⟩
theorem d32_41 : Dc jdk_42_method_150_code 41 (.getstatic 38) 3 44 := ⟨by decide +kernel, rfl⟩
theorem d32_44 : Db jdk_42_method_150_code 44 (.ifCond .eq 35) 3 47 (35) 79 := ⟨by decide +kernel, rfl, by decide, by decide⟩
theorem d32_47 : Dc jdk_42_method_150_code 47 (.aload_n 1) 1 48 := ⟨by decide +kernel, rfl⟩
theorem d32_48 : Dc jdk_42_method_150_code 48 (.getfield 1048) 3 51 := ⟨by decide +kernel, rfl⟩
theorem d32_51 : Db jdk_42_method_150_code 51 (.ifCond .eq 28) 3 54 (28) 79 := ⟨by decide +kernel, rfl, by decide, by decide⟩
theorem d32_79 : Dc jdk_42_method_150_code 79 (.aload_n 0) 1 80 := ⟨by decide +kernel, rfl⟩
theorem d32_80 : Dc jdk_42_method_150_code 80 (.iconst 1) 1 81 := ⟨by decide +kernel, rfl⟩
theorem d32_81 : Dc jdk_42_method_150_code 81 (.putfield 15) 3 84 := ⟨by decide +kernel, rfl⟩
theorem d32_84 : Dc jdk_42_method_150_code 84 (.aload_n 0) 1 85 := ⟨by decide +kernel, rfl⟩
theorem d32_85 : Dc jdk_42_method_150_code 85 (.aload_n 3) 1 86 := ⟨by decide +kernel, rfl⟩
theorem d32_86 : Dc jdk_42_method_150_code 86 (.iconst 0) 1 87 := ⟨by decide +kernel, rfl⟩
theorem d32_87 : Dc jdk_42_method_150_code 87 (.iload 4) 2 89 := ⟨by decide +kernel, rfl⟩
theorem d32_89 : Dc jdk_42_method_150_code 89 (.iconst 1) 1 90 := ⟨by decide +kernel, rfl⟩
theorem d32_90 : Dc jdk_42_method_150_code 90 (.ishl) 1 91 := ⟨by decide +kernel, rfl⟩
theorem d32_91 : Dc jdk_42_method_150_code 91 (.invokestatic 54) 3 94 := ⟨by decide +kernel, rfl⟩
theorem d32_94 : Dc jdk_42_method_150_code 94 (.putfield 9) 3 97 := ⟨by decide +kernel, rfl⟩
theorem d32_97 : Dc jdk_42_method_150_code 97 (.return_) 1 98 := ⟨by decide +kernel, rfl⟩
theorem d33_0 : Dc jdk_68_method_64_code 0 (.aload_n 0) 1 1 := ⟨by decide +kernel, rfl⟩
theorem d33_1 : Dc jdk_68_method_64_code 1 (.getfield 15) 3 4 := ⟨by decide +kernel, rfl⟩
theorem d33_4 : Dc jdk_68_method_64_code 4 (.areturn) 1 5 := ⟨by decide +kernel, rfl⟩
theorem d34_0 : Dc jdk_67_method_93_code 0 (.aload_n 0) 1 1 := ⟨by decide +kernel, rfl⟩
theorem d34_1 : Dc jdk_67_method_93_code 1 (.invokespecial 343) 3 4 := ⟨by decide +kernel, rfl⟩
theorem d34_4 : Dc jdk_67_method_93_code 4 (.ireturn) 1 5 := ⟨by decide +kernel, rfl⟩
theorem d35_0 : Dc jdk_68_method_6_code 0 (.aload_n 0) 1 1 := ⟨by decide +kernel, rfl⟩
theorem d35_1 : Dc jdk_68_method_6_code 1 (.getfield 79) 3 4 := ⟨by decide +kernel, rfl⟩
theorem d35_4 : Dc jdk_68_method_6_code 4 (.ireturn) 1 5 := ⟨by decide +kernel, rfl⟩
theorem d36_0 : Dc jdk_65_method_132_code 0 (.iload_n 1) 1 1 := ⟨by decide +kernel, rfl⟩
theorem d36_1 : Db jdk_65_method_132_code 1 (.ifCond .ne 9) 3 4 (9) 10 := ⟨by decide +kernel, rfl, by decide, by decide⟩
theorem d36_4 : Dc jdk_65_method_132_code 4 (.iload_n 2) 1 5 := ⟨by decide +kernel, rfl⟩
theorem d36_5 : Dc jdk_65_method_132_code 5 (.aload_n 0) 1 6 := ⟨by decide +kernel, rfl⟩
theorem d36_6 : Dc jdk_65_method_132_code 6 (.arraylength) 1 7 := ⟨by decide +kernel, rfl⟩
theorem d36_7 : Db jdk_65_method_132_code 7 (.if_icmp .eq 10) 3 10 (10) 17 := ⟨by decide +kernel, rfl, by decide, by decide⟩
theorem d36_10 : Dc jdk_65_method_132_code 10 (.aload_n 0) 1 11 := ⟨by decide +kernel, rfl⟩
theorem d36_11 : Dc jdk_65_method_132_code 11 (.iload_n 1) 1 12 := ⟨by decide +kernel, rfl⟩
theorem d36_12 : Dc jdk_65_method_132_code 12 (.iload_n 2) 1 13 := ⟨by decide +kernel, rfl⟩
theorem d36_13 : Dc jdk_65_method_132_code 13 (.invokestatic 339) 3 16 := ⟨by decide +kernel, rfl⟩
theorem d36_16 : Dc jdk_65_method_132_code 16 (.areturn) 1 17 := ⟨by decide +kernel, rfl⟩
theorem d37_0 : Dc jdk_65_method_133_code 0 (.iload_n 1) 1 1 := ⟨by decide +kernel, rfl⟩
theorem d37_1 : Dc jdk_65_method_133_code 1 (.iload_n 2) 1 2 := ⟨by decide +kernel, rfl⟩
theorem d37_2 : Dc jdk_65_method_133_code 2 (.invokestatic 343) 3 5 := ⟨by decide +kernel, rfl⟩
theorem d37_5 : Dc jdk_65_method_133_code 5 (.iload_n 2) 1 6 := ⟨by decide +kernel, rfl⟩
theorem d37_6 : Dc jdk_65_method_133_code 6 (.iload_n 1) 1 7 := ⟨by decide +kernel, rfl⟩
theorem d37_7 : Dc jdk_65_method_133_code 7 (.isub) 1 8 := ⟨by decide +kernel, rfl⟩
theorem d37_8 : Dc jdk_65_method_133_code 8 (.istore_n 3) 1 9 := ⟨by decide +kernel, rfl⟩
theorem d37_9 : Dc jdk_65_method_133_code 9 (.iload_n 3) 1 10 := ⟨by decide +kernel, rfl⟩
theorem d37_10 : Dc jdk_65_method_133_code 10 (.newarray .byte) 2 12 := ⟨by decide +kernel, rfl⟩
theorem d37_12 : Dc jdk_65_method_133_code 12 (.astore 4) 2 14 := ⟨by decide +kernel, rfl⟩
theorem d37_14 : Dc jdk_65_method_133_code 14 (.aload_n 0) 1 15 := ⟨by decide +kernel, rfl⟩
theorem d37_15 : Dc jdk_65_method_133_code 15 (.iload_n 1) 1 16 := ⟨by decide +kernel, rfl⟩
theorem d37_16 : Dc jdk_65_method_133_code 16 (.aload 4) 2 18 := ⟨by decide +kernel, rfl⟩
theorem d37_18 : Dc jdk_65_method_133_code 18 (.iconst 0) 1 19 := ⟨by decide +kernel, rfl⟩
theorem d37_19 : Dc jdk_65_method_133_code 19 (.aload_n 0) 1 20 := ⟨by decide +kernel, rfl⟩
theorem d37_20 : Dc jdk_65_method_133_code 20 (.arraylength) 1 21 := ⟨by decide +kernel, rfl⟩
theorem d37_21 : Dc jdk_65_method_133_code 21 (.iload_n 1) 1 22 := ⟨by decide +kernel, rfl⟩
theorem d37_22 : Dc jdk_65_method_133_code 22 (.isub) 1 23 := ⟨by decide +kernel, rfl⟩
theorem d37_23 : Dc jdk_65_method_133_code 23 (.iload_n 3) 1 24 := ⟨by decide +kernel, rfl⟩
theorem d37_24 : Dc jdk_65_method_133_code 24 (.invokestatic 304) 3 27 := ⟨by decide +kernel, rfl⟩
theorem d37_27 : Dc jdk_65_method_133_code 27 (.invokestatic 150) 3 30 := ⟨by decide +kernel, rfl⟩
theorem d37_30 : Dc jdk_65_method_133_code 30 (.aload 4) 2 32 := ⟨by decide +kernel, rfl⟩
theorem d37_32 : Dc jdk_65_method_133_code 32 (.areturn) 1 33 := ⟨by decide +kernel, rfl⟩
theorem d38_0 : Dc jdk_65_method_131_code 0 (.iload_n 1) 1 1 := ⟨by decide +kernel, rfl⟩
theorem d38_1 : Dc jdk_65_method_131_code 1 (.iload_n 0) 1 2 := ⟨by decide +kernel, rfl⟩
theorem d38_2 : Db jdk_65_method_131_code 2 (.if_icmp .ge 35) 3 5 (35) 37 := ⟨by decide +kernel, rfl, by decide, by decide⟩
theorem d38_37 : Dc jdk_65_method_131_code 37 (.return_) 1 38 := ⟨by decide +kernel, rfl⟩
theorem d39_0 : Dc jdk_29_method_69_code 0 (.iload_n 0) 1 1 := ⟨by decide +kernel, rfl⟩
theorem d39_1 : Dc jdk_29_method_69_code 1 (.iload_n 1) 1 2 := ⟨by decide +kernel, rfl⟩
theorem d39_2 : Db jdk_29_method_69_code 2 (.if_icmp .gt 7) 3 5 (7) 9 := ⟨by decide +kernel, rfl, by decide, by decide⟩
theorem d39_5 : Dc jdk_29_method_69_code 5 (.iload_n 0) 1 6 := ⟨by decide +kernel, rfl⟩
theorem d39_6 : Db jdk_29_method_69_code 6 (.goto 4) 3 9 (4) 10 := ⟨by decide +kernel, rfl, by decide, by decide⟩
theorem d39_9 : Dc jdk_29_method_69_code 9 (.iload_n 1) 1 10 := ⟨by decide +kernel, rfl⟩
theorem d39_10 : Dc jdk_29_method_69_code 10 (.ireturn) 1 11 := ⟨by decide +kernel, rfl⟩
theorem d40_0 : Dc prog_8_method_1_code 0 (.aload_n 0) 1 1 := ⟨by decide +kernel, rfl⟩
theorem d40_1 : Dc prog_8_method_1_code 1 (.invokespecial 1) 3 4 := ⟨by decide +kernel, rfl⟩
theorem d40_4 : Dc prog_8_method_1_code 4 (.aload_n 0) 1 5 := ⟨by decide +kernel, rfl⟩
theorem d40_5 : Dc prog_8_method_1_code 5 (.aload_n 1) 1 6 := ⟨by decide +kernel, rfl⟩
theorem d40_6 : Dc prog_8_method_1_code 6 (.putfield 7) 3 9 := ⟨by decide +kernel, rfl⟩
theorem d40_9 : Dc prog_8_method_1_code 9 (.aload_n 0) 1 10 := ⟨by decide +kernel, rfl⟩
theorem d40_10 : Dc prog_8_method_1_code 10 (.aload_n 2) 1 11 := ⟨by decide +kernel, rfl⟩
theorem d40_11 : Dc prog_8_method_1_code 11 (.putfield 13) 3 14 := ⟨by decide +kernel, rfl⟩
theorem d40_14 : Dc prog_8_method_1_code 14 (.return_) 1 15 := ⟨by decide +kernel, rfl⟩
theorem d41_0 : Dc jdk_30_method_1_code 0 (.aload_n 0) 1 1 := ⟨by decide +kernel, rfl⟩
theorem d41_1 : Dc jdk_30_method_1_code 1 (.invokespecial 1) 3 4 := ⟨by decide +kernel, rfl⟩
theorem d41_4 : Dc jdk_30_method_1_code 4 (.return_) 1 5 := ⟨by decide +kernel, rfl⟩
theorem d42_0 : Dc prog_8_method_6_code 0 (.aload_n 0) 1 1 := ⟨by decide +kernel, rfl⟩
theorem d42_1 : Dc prog_8_method_6_code 1 (.getfield 7) 3 4 := ⟨by decide +kernel, rfl⟩
theorem d42_4 : Dc prog_8_method_6_code 4 (.areturn) 1 5 := ⟨by decide +kernel, rfl⟩
theorem d43_0 : Dc jdk_42_method_66_code 0 (.aload_n 0) 1 1 := ⟨by decide +kernel, rfl⟩
theorem d43_1 : Dc jdk_42_method_66_code 1 (.aload_n 1) 1 2 := ⟨by decide +kernel, rfl⟩
theorem d43_2 : Db jdk_42_method_66_code 2 (.if_acmp .ne 5) 3 5 (5) 7 := ⟨by decide +kernel, rfl, by decide, by decide⟩
theorem d43_5 : Dc jdk_42_method_66_code 5 (.iconst 1) 1 6 := ⟨by decide +kernel, rfl⟩
theorem d43_6 : Dc jdk_42_method_66_code 6 (.ireturn) 1 7 := ⟨by decide +kernel, rfl⟩
theorem d43_7 : Dc jdk_42_method_66_code 7 (.aload_n 1) 1 8 := ⟨by decide +kernel, rfl⟩
theorem d43_8 : Dc jdk_42_method_66_code 8 (.instanceof 10) 3 11 := ⟨by decide +kernel, rfl⟩
theorem d43_11 : Db jdk_42_method_66_code 11 (.ifCond .eq 43) 3 14 (43) 54 := ⟨by decide +kernel, rfl, by decide, by decide⟩
theorem d43_14 : Dc jdk_42_method_66_code 14 (.aload_n 1) 1 15 := ⟨by decide +kernel, rfl⟩
theorem d43_15 : Dc jdk_42_method_66_code 15 (.checkcast 10) 3 18 := ⟨by decide +kernel, rfl⟩
theorem d43_18 : Dc jdk_42_method_66_code 18 (.astore_n 2) 1 19 := ⟨by decide +kernel, rfl⟩
theorem d43_19 : Dc jdk_42_method_66_code 19 (.getstatic 38) 3 22 := ⟨by decide +kernel, rfl⟩
theorem d43_22 : Db jdk_42_method_66_code 22 (.ifCond .eq 14) 3 25 (14) 36 := ⟨by decide +kernel, rfl, by decide, by decide⟩
theorem d43_25 : Dc jdk_42_method_66_code 25 (.aload_n 0) 1 26 := ⟨by decide +kernel, rfl⟩
theorem d43_26 : Dc jdk_42_method_66_code 26 (.getfield 15) 3 29 := ⟨by decide +kernel, rfl⟩
theorem d43_29 : Dc jdk_42_method_66_code 29 (.aload_n 2) 1 30 := ⟨by decide +kernel, rfl⟩
theorem d43_30 : Dc jdk_42_method_66_code 30 (.getfield 15) 3 33 := ⟨by decide +kernel, rfl⟩
theorem d43_33 : Db jdk_42_method_66_code 33 (.if_icmp .ne 21) 3 36 (21) 54 := ⟨by decide +kernel, rfl, by decide, by decide⟩
theorem d43_36 : Dc jdk_42_method_66_code 36 (.aload_n 0) 1 37 := ⟨by decide +kernel, rfl⟩
theorem d43_37 : Dc jdk_42_method_66_code 37 (.getfield 9) 3 40 := ⟨by decide +kernel, rfl⟩
theorem d43_40 : Dc jdk_42_method_66_code 40 (.aload_n 2) 1 41 := ⟨by decide +kernel, rfl⟩
theorem d43_41 : Dc jdk_42_method_66_code 41 (.getfield 9) 3 44 := ⟨by decide +kernel, rfl⟩
theorem d43_44 : Dc jdk_42_method_66_code 44 (.invokestatic 541) 3 47 := ⟨by decide +kernel, rfl⟩
theorem d43_47 : Db jdk_42_method_66_code 47 (.ifCond .eq 7) 3 50 (7) 54 := ⟨by decide +kernel, rfl, by decide, by decide⟩
theorem d43_50 : Dc jdk_42_method_66_code 50 (.iconst 1) 1 51 := ⟨by decide +kernel, rfl⟩
theorem d43_51 : Db jdk_42_method_66_code 51 (.goto 4) 3 54 (4) 55 := ⟨by decide +kernel, rfl, by decide, by decide⟩
theorem d43_54 : Dc jdk_42_method_66_code 54 (.iconst 0) 1 55 := ⟨by decide +kernel, rfl⟩
theorem d43_55 : Dc jdk_42_method_66_code 55 (.ireturn) 1 56 := ⟨by decide +kernel, rfl⟩
theorem d44_0 : Dc prog_8_method_7_code 0 (.aload_n 0) 1 1 := ⟨by decide +kernel, rfl⟩
theorem d44_1 : Dc prog_8_method_7_code 1 (.getfield 13) 3 4 := ⟨by decide +kernel, rfl⟩
theorem d44_4 : Dc prog_8_method_7_code 4 (.areturn) 1 5 := ⟨by decide +kernel, rfl⟩
theorem d45_0 : Dc jdk_43_method_13_code 0 (.aload_n 0) 1 1 := ⟨by decide +kernel, rfl⟩
theorem d45_1 : Dc jdk_43_method_13_code 1 (.arraylength) 1 2 := ⟨by decide +kernel, rfl⟩
theorem d45_2 : Dc jdk_43_method_13_code 2 (.aload_n 1) 1 3 := ⟨by decide +kernel, rfl⟩
theorem d45_3 : Dc jdk_43_method_13_code 3 (.arraylength) 1 4 := ⟨by decide +kernel, rfl⟩
theorem d45_4 : Db jdk_43_method_13_code 4 (.if_icmp .ne 30) 3 7 (30) 34 := ⟨by decide +kernel, rfl, by decide, by decide⟩
theorem d45_7 : Dc jdk_43_method_13_code 7 (.iconst 0) 1 8 := ⟨by decide +kernel, rfl⟩
theorem d45_8 : Dc jdk_43_method_13_code 8 (.istore_n 2) 1 9 := ⟨by decide +kernel, rfl⟩
theorem d45_9 : Dc jdk_43_method_13_code 9 (.iload_n 2) 1 10 := ⟨by decide +kernel, rfl⟩
theorem d45_10 : Dc jdk_43_method_13_code 10 (.aload_n 0) 1 11 := ⟨by decide +kernel, rfl⟩
theorem d45_11 : Dc jdk_43_method_13_code 11 (.arraylength) 1 12 := ⟨by decide +kernel, rfl⟩
theorem d45_12 : Db jdk_43_method_13_code 12 (.if_icmp .ge 20) 3 15 (20) 32 := ⟨by decide +kernel, rfl, by decide, by decide⟩
theorem d45_15 : Dc jdk_43_method_13_code 15 (.aload_n 0) 1 16 := ⟨by decide +kernel, rfl⟩
theorem d45_16 : Dc jdk_43_method_13_code 16 (.iload_n 2) 1 17 := ⟨by decide +kernel, rfl⟩
theorem d45_17 : Dc jdk_43_method_13_code 17 (.baload) 1 18 := ⟨by decide +kernel, rfl⟩
theorem d45_18 : Dc jdk_43_method_13_code 18 (.aload_n 1) 1 19 := ⟨by decide +kernel, rfl⟩
theorem d45_19 : Dc jdk_43_method_13_code 19 (.iload_n 2) 1 20 := ⟨by decide +kernel, rfl⟩
theorem d45_20 : Dc jdk_43_method_13_code 20 (.baload) 1 21 := ⟨by decide +kernel, rfl⟩
theorem d45_21 : Db jdk_43_method_13_code 21 (.if_icmp .eq 5) 3 24 (5) 26 := ⟨by decide +kernel, rfl, by decide, by decide⟩
theorem d45_24 : Dc jdk_43_method_13_code 24 (.iconst 0) 1 25 := ⟨by decide +kernel, rfl⟩
theorem d45_25 : Dc jdk_43_method_13_code 25 (.ireturn) 1 26 := ⟨by decide +kernel, rfl⟩
theorem d45_26 : Dc jdk_43_method_13_code 26 (.iinc 2 1) 3 29 := ⟨by decide +kernel, rfl⟩
theorem d45_29 : Db jdk_43_method_13_code 29 (.goto (-20)) 3 32 (-20) 9 := ⟨by decide +kernel, rfl, by decide, by decide⟩
theorem d45_32 : Dc jdk_43_method_13_code 32 (.iconst 1) 1 33 := ⟨by decide +kernel, rfl⟩
theorem d45_33 : Dc jdk_43_method_13_code 33 (.ireturn) 1 34 := ⟨by decide +kernel, rfl⟩
theorem d45_34 : Dc jdk_43_method_13_code 34 (.iconst 0) 1 35 := ⟨by decide +kernel, rfl⟩
theorem d45_35 : Dc jdk_43_method_13_code 35 (.ireturn) 1 36 := ⟨by decide +kernel, rfl⟩
theorem d46_0 : Dc jdk_42_method_151_code 0 (.aload_n 0) 1 1 := ⟨by decide +kernel, rfl⟩
theorem d46_1 : Dc jdk_42_method_151_code 1 (.invokespecial 1) 3 4 := ⟨by decide +kernel, rfl⟩
theorem d46_4 : Dc jdk_42_method_151_code 4 (.aload_n 0) 1 5 := ⟨by decide +kernel, rfl⟩
theorem d46_5 : Dc jdk_42_method_151_code 5 (.aload_n 1) 1 6 := ⟨by decide +kernel, rfl⟩
theorem d46_6 : Dc jdk_42_method_151_code 6 (.putfield 9) 3 9 := ⟨by decide +kernel, rfl⟩
theorem d46_9 : Dc jdk_42_method_151_code 9 (.aload_n 0) 1 10 := ⟨by decide +kernel, rfl⟩
theorem d46_10 : Dc jdk_42_method_151_code 10 (.iload_n 2) 1 11 := ⟨by decide +kernel, rfl⟩
theorem d46_11 : Dc jdk_42_method_151_code 11 (.putfield 15) 3 14 := ⟨by decide +kernel, rfl⟩
theorem d46_14 : Dc jdk_42_method_151_code 14 (.return_) 1 15 := ⟨by decide +kernel, rfl⟩
theorem d47_0 : Dc jdk_52_method_14_code 0 (.iload_n 2) 1 1 := ⟨by decide +kernel, rfl⟩
theorem d47_1 : Dc jdk_52_method_14_code 1 (.invokestatic 107) 3 4 := ⟨by decide +kernel, rfl⟩
theorem d47_4 : Dc jdk_52_method_14_code 4 (.astore_n 3) 1 5 := ⟨by decide +kernel, rfl⟩
theorem d47_5 : Dc jdk_52_method_14_code 5 (.iconst 0) 1 6 := ⟨by decide +kernel, rfl⟩
theorem d47_6 : Dc jdk_52_method_14_code 6 (.istore 4) 2 8 := ⟨by decide +kernel, rfl⟩
theorem d47_8 : Dc jdk_52_method_14_code 8 (.iload 4) 2 10 := ⟨by decide +kernel, rfl⟩
theorem d47_10 : Dc jdk_52_method_14_code 10 (.iload_n 2) 1 11 := ⟨by decide +kernel, rfl⟩
theorem d47_11 : Db jdk_52_method_14_code 11 (.if_icmp .ge 21) 3 14 (21) 32 := ⟨by decide +kernel, rfl, by decide, by decide⟩
theorem d47_14 : Dc jdk_52_method_14_code 14 (.aload_n 3) 1 15 := ⟨by decide +kernel, rfl⟩
theorem d47_15 : Dc jdk_52_method_14_code 15 (.iload 4) 2 17 := ⟨by decide +kernel, rfl⟩
theorem d47_17 : Dc jdk_52_method_14_code 17 (.aload_n 0) 1 18 := ⟨by decide +kernel, rfl⟩
theorem d47_18 : Dc jdk_52_method_14_code 18 (.iload_n 1) 1 19 := ⟨by decide +kernel, rfl⟩
theorem d47_19 : Dc jdk_52_method_14_code 19 (.caload) 1 20 := ⟨by decide +kernel, rfl⟩
theorem d47_20 : Dc jdk_52_method_14_code 20 (.invokestatic 111) 3 23 := ⟨by decide +kernel, rfl⟩
theorem d47_23 : Dc jdk_52_method_14_code 23 (.iinc 1 1) 3 26 := ⟨by decide +kernel, rfl⟩
theorem d47_26 : Dc jdk_52_method_14_code 26 (.iinc 4 1) 3 29 := ⟨by decide +kernel, rfl⟩
theorem d47_29 : Db jdk_52_method_14_code 29 (.goto (-21)) 3 32 (-21) 8 := ⟨by decide +kernel, rfl, by decide, by decide⟩
theorem d47_32 : Dc jdk_52_method_14_code 32 (.aload_n 3) 1 33 := ⟨by decide +kernel, rfl⟩
theorem d47_33 : Dc jdk_52_method_14_code 33 (.areturn) 1 34 := ⟨by decide +kernel, rfl⟩
theorem d48_0 : Dc jdk_52_method_2_code 0 (.iload_n 0) 1 1 := ⟨by decide +kernel, rfl⟩
theorem d48_1 : Dc jdk_52_method_2_code 1 (.invokestatic 11) 3 4 := ⟨by decide +kernel, rfl⟩
theorem d48_4 : Dc jdk_52_method_2_code 4 (.newarray .byte) 2 6 := ⟨by decide +kernel, rfl⟩
theorem d48_6 : Dc jdk_52_method_2_code 6 (.areturn) 1 7 := ⟨by decide +kernel, rfl⟩
theorem d49_0 : Dc jdk_52_method_3_code 0 (.iload_n 0) 1 1 := ⟨by decide +kernel, rfl⟩
theorem d49_1 : Db jdk_52_method_3_code 1 (.ifCond .ge 11) 3 4 (11) 12 := ⟨by decide +kernel, rfl, by decide, by decide⟩
theorem d49_12 : Dc jdk_52_method_3_code 12 (.iload_n 0) 1 13 := ⟨by decide +kernel, rfl⟩
theorem d49_13 : Dc jdk_52_method_3_code 13 (.ldc 20) 2 15 := ⟨by decide +kernel, rfl⟩
theorem d49_15 : Db jdk_52_method_3_code 15 (.if_icmp .lt 40) 3 18 (40) 55 := ⟨by decide +kernel, rfl, by decide, by decide⟩
theorem d49_55 : Dc jdk_52_method_3_code 55 (.iload_n 0) 1 56 := ⟨by decide +kernel, rfl⟩
theorem d49_56 : Dc jdk_52_method_3_code 56 (.iconst 1) 1 57 := ⟨by decide +kernel, rfl⟩
theorem d49_57 : Dc jdk_52_method_3_code 57 (.ishl) 1 58 := ⟨by decide +kernel, rfl⟩
theorem d49_58 : Dc jdk_52_method_3_code 58 (.ireturn) 1 59 := ⟨by decide +kernel, rfl⟩
theorem d50_0 : Dc jdk_52_method_4_code 0 (.getstatic 44) 3 3 := ⟨by decide +kernel, rfl⟩
theorem d50_3 : Db jdk_52_method_4_code 3 (.ifCond .ne 25) 3 6 (25) 28 := ⟨by decide +kernel, rfl, by decide, by decide⟩
theorem d50_28 : Dc jdk_52_method_4_code 28 (.iload_n 1) 1 29 := ⟨by decide +kernel, rfl⟩
theorem d50_29 : Dc jdk_52_method_4_code 29 (.iconst 1) 1 30 := ⟨by decide +kernel, rfl⟩
theorem d50_30 : Dc jdk_52_method_4_code 30 (.ishl) 1 31 := ⟨by decide +kernel, rfl⟩
theorem d50_31 : Dc jdk_52_method_4_code 31 (.istore_n 1) 1 32 := ⟨by decide +kernel, rfl⟩
theorem d50_32 : Dc jdk_52_method_4_code 32 (.aload_n 0) 1 33 := ⟨by decide +kernel, rfl⟩
theorem d50_33 : Dc jdk_52_method_4_code 33 (.iload_n 1) 1 34 := ⟨by decide +kernel, rfl⟩
theorem d50_34 : Dc jdk_52_method_4_code 34 (.iinc 1 1) 3 37 := ⟨by decide +kernel, rfl⟩
theorem d50_37 : Dc jdk_52_method_4_code 37 (.iload_n 2) 1 38 := ⟨by decide +kernel, rfl⟩
theorem d50_38 : Dc jdk_52_method_4_code 38 (.getstatic 59) 3 41 := ⟨by decide +kernel, rfl⟩
theorem d50_41 : Dc jdk_52_method_4_code 41 (.ishr) 1 42 := ⟨by decide +kernel, rfl⟩
theorem d50_42 : Dc jdk_52_method_4_code 42 (.i2b) 1 43 := ⟨by decide +kernel, rfl⟩
theorem d50_43 : Dc jdk_52_method_4_code 43 (.bastore) 1 44 := ⟨by decide +kernel, rfl⟩
theorem d50_44 : Dc jdk_52_method_4_code 44 (.aload_n 0) 1 45 := ⟨by decide +kernel, rfl⟩
theorem d50_45 : Dc jdk_52_method_4_code 45 (.iload_n 1) 1 46 := ⟨by decide +kernel, rfl⟩
theorem d50_46 : Dc jdk_52_method_4_code 46 (.iload_n 2) 1 47 := ⟨by decide +kernel, rfl⟩
theorem d50_47 : Dc jdk_52_method_4_code 47 (.getstatic 63) 3 50 := ⟨by decide +kernel, rfl⟩
theorem d50_50 : Dc jdk_52_method_4_code 50 (.ishr) 1 51 := ⟨by decide +kernel, rfl⟩
theorem d50_51 : Dc jdk_52_method_4_code 51 (.i2b) 1 52 := ⟨by decide +kernel, rfl⟩
theorem d50_52 : Dc jdk_52_method_4_code 52 (.bastore) 1 53 := ⟨by decide +kernel, rfl⟩
theorem d50_53 : Dc jdk_52_method_4_code 53 (.return_) 1 54 := ⟨by decide +kernel, rfl⟩
theorem d51_0 : Dc jdk_52_method_5_code 0 (.getstatic 44) 3 3 := ⟨by decide +kernel, rfl⟩
theorem d51_3 : Db jdk_52_method_5_code 3 (.ifCond .ne 25) 3 6 (25) 28 := ⟨by decide +kernel, rfl, by decide, by decide⟩
theorem d51_28 : Dc jdk_52_method_5_code 28 (.iload_n 1) 1 29 := ⟨by decide +kernel, rfl⟩
theorem d51_29 : Dc jdk_52_method_5_code 29 (.iconst 1) 1 30 := ⟨by decide +kernel, rfl⟩
theorem d51_30 : Dc jdk_52_method_5_code 30 (.ishl) 1 31 := ⟨by decide +kernel, rfl⟩
theorem d51_31 : Dc jdk_52_method_5_code 31 (.istore_n 1) 1 32 := ⟨by decide +kernel, rfl⟩
theorem d51_32 : Dc jdk_52_method_5_code 32 (.aload_n 0) 1 33 := ⟨by decide +kernel, rfl⟩
theorem d51_33 : Dc jdk_52_method_5_code 33 (.iload_n 1) 1 34 := ⟨by decide +kernel, rfl⟩
theorem d51_34 : Dc jdk_52_method_5_code 34 (.iinc 1 1) 3 37 := ⟨by decide +kernel, rfl⟩
theorem d51_37 : Dc jdk_52_method_5_code 37 (.baload) 1 38 := ⟨by decide +kernel, rfl⟩
theorem d51_38 : Dc jdk_52_method_5_code 38 (.sipush 255) 3 41 := ⟨by decide +kernel, rfl⟩
theorem d51_41 : Dc jdk_52_method_5_code 41 (.iand) 1 42 := ⟨by decide +kernel, rfl⟩
theorem d51_42 : Dc jdk_52_method_5_code 42 (.getstatic 59) 3 45 := ⟨by decide +kernel, rfl⟩
theorem d51_45 : Dc jdk_52_method_5_code 45 (.ishl) 1 46 := ⟨by decide +kernel, rfl⟩
theorem d51_46 : Dc jdk_52_method_5_code 46 (.aload_n 0) 1 47 := ⟨by decide +kernel, rfl⟩
theorem d51_47 : Dc jdk_52_method_5_code 47 (.iload_n 1) 1 48 := ⟨by decide +kernel, rfl⟩
theorem d51_48 : Dc jdk_52_method_5_code 48 (.baload) 1 49 := ⟨by decide +kernel, rfl⟩
theorem d51_49 : Dc jdk_52_method_5_code 49 (.sipush 255) 3 52 := ⟨by decide +kernel, rfl⟩
theorem d51_52 : Dc jdk_52_method_5_code 52 (.iand) 1 53 := ⟨by decide +kernel, rfl⟩
theorem d51_53 : Dc jdk_52_method_5_code 53 (.getstatic 63) 3 56 := ⟨by decide +kernel, rfl⟩
theorem d51_56 : Dc jdk_52_method_5_code 56 (.ishl) 1 57 := ⟨by decide +kernel, rfl⟩
theorem d51_57 : Dc jdk_52_method_5_code 57 (.ior) 1 58 := ⟨by decide +kernel, rfl⟩
theorem d51_58 : Dc jdk_52_method_5_code 58 (.i2c) 1 59 := ⟨by decide +kernel, rfl⟩
theorem d51_59 : Dc jdk_52_method_5_code 59 (.ireturn) 1 60 := ⟨by decide +kernel, rfl⟩
theorem d52_0 : Dc jdk_52_method_69_code 0 (.iload_n 2) 1 1 := ⟨by decide +kernel, rfl⟩
theorem d52_1 : Db jdk_52_method_69_code 1 (.ifCond .ne 7) 3 4 (7) 8 := ⟨by decide +kernel, rfl, by decide, by decide⟩
theorem d52_8 : Dc jdk_52_method_69_code 8 (.getstatic 251) 3 11 := ⟨by decide +kernel, rfl⟩
theorem d52_11 : Db jdk_52_method_69_code 11 (.ifCond .eq 28) 3 14 (28) 39 := ⟨by decide +kernel, rfl, by decide, by decide⟩
theorem d52_14 : Dc jdk_52_method_69_code 14 (.aload_n 0) 1 15 := ⟨by decide +kernel, rfl⟩
theorem d52_15 : Dc jdk_52_method_69_code 15 (.iload_n 1) 1 16 := ⟨by decide +kernel, rfl⟩
theorem d52_16 : Dc jdk_52_method_69_code 16 (.iload_n 2) 1 17 := ⟨by decide +kernel, rfl⟩
theorem d52_17 : Dc jdk_52_method_69_code 17 (.invokestatic 257) 3 20 := ⟨by decide +kernel, rfl⟩
theorem d52_20 : Dc jdk_52_method_69_code 20 (.astore_n 3) 1 21 := ⟨by decide +kernel, rfl⟩
theorem d52_21 : Dc jdk_52_method_69_code 21 (.aload_n 3) 1 22 := ⟨by decide +kernel, rfl⟩
theorem d52_22 : Dc jdk_52_method_69_code 22 (.iload_n 2) 1 23 := ⟨by decide +kernel, rfl⟩
theorem d52_23 : Dc jdk_52_method_69_code 23 (.invokestatic 259) 3 26 := ⟨by decide +kernel, rfl⟩
theorem d52_26 : Dc jdk_52_method_69_code 26 (.istore 4) 2 28 := ⟨by decide +kernel, rfl⟩
theorem d52_28 : Dc jdk_52_method_69_code 28 (.new 3) 3 31 := ⟨by decide +kernel, rfl⟩
theorem d52_31 : Dc jdk_52_method_69_code 31 (.dup) 1 32 := ⟨by decide +kernel, rfl⟩
theorem d52_32 : Dc jdk_52_method_69_code 32 (.aload_n 3) 1 33 := ⟨by decide +kernel, rfl⟩
theorem d52_33 : Dc jdk_52_method_69_code 33 (.iload 4) 2 35 := ⟨by decide +kernel, rfl⟩
theorem d52_35 : Dc jdk_52_method_69_code 35 (.invokespecial 263) 3 38 := ⟨by decide +kernel, rfl⟩
theorem d52_38 : Dc jdk_52_method_69_code 38 (.areturn) 1 39 := ⟨by decide +kernel, rfl⟩
theorem d53_0 : Dc jdk_52_method_17_code 0 (.iload_n 2) 1 1 := ⟨by decide +kernel, rfl⟩
theorem d53_1 : Dc jdk_52_method_17_code 1 (.newarray .byte) 2 3 := ⟨by decide +kernel, rfl⟩
theorem d53_3 : Dc jdk_52_method_17_code 3 (.astore_n 3) 1 4 := ⟨by decide +kernel, rfl⟩
theorem d53_4 : Dc jdk_52_method_17_code 4 (.aload_n 0) 1 5 := ⟨by decide +kernel, rfl⟩
theorem d53_5 : Dc jdk_52_method_17_code 5 (.iload_n 1) 1 6 := ⟨by decide +kernel, rfl⟩
theorem d53_6 : Dc jdk_52_method_17_code 6 (.aload_n 3) 1 7 := ⟨by decide +kernel, rfl⟩
theorem d53_7 : Dc jdk_52_method_17_code 7 (.iconst 0) 1 8 := ⟨by decide +kernel, rfl⟩
theorem d53_8 : Dc jdk_52_method_17_code 8 (.iload_n 2) 1 9 := ⟨by decide +kernel, rfl⟩
theorem d53_9 : Dc jdk_52_method_17_code 9 (.invokestatic 123) 3 12 := ⟨by decide +kernel, rfl⟩
theorem d53_12 : Dc jdk_52_method_17_code 12 (.istore 4) 2 14 := ⟨by decide +kernel, rfl⟩
theorem d53_14 : Dc jdk_52_method_17_code 14 (.iload 4) 2 16 := ⟨by decide +kernel, rfl⟩
theorem d53_16 : Dc jdk_52_method_17_code 16 (.iload_n 2) 1 17 := ⟨by decide +kernel, rfl⟩
theorem d53_17 : Db jdk_52_method_17_code 17 (.if_icmp .eq 47) 3 20 (47) 64 := ⟨by decide +kernel, rfl, by decide, by decide⟩
theorem d53_20 : Dc jdk_52_method_17_code 20 (.aload_n 0) 1 21 := ⟨by decide +kernel, rfl⟩
theorem d53_21 : Dc jdk_52_method_17_code 21 (.iload_n 1) 1 22 := ⟨by decide +kernel, rfl⟩
theorem d53_22 : Dc jdk_52_method_17_code 22 (.iconst 1) 1 23 := ⟨by decide +kernel, rfl⟩
theorem d53_23 : Dc jdk_52_method_17_code 23 (.ishl) 1 24 := ⟨by decide +kernel, rfl⟩
theorem d53_24 : Dc jdk_52_method_17_code 24 (.iload_n 1) 1 25 := ⟨by decide +kernel, rfl⟩
theorem d53_25 : Dc jdk_52_method_17_code 25 (.iload_n 2) 1 26 := ⟨by decide +kernel, rfl⟩
theorem d53_26 : Dc jdk_52_method_17_code 26 (.iadd) 1 27 := ⟨by decide +kernel, rfl⟩
theorem d53_27 : Dc jdk_52_method_17_code 27 (.invokestatic 11) 3 30 := ⟨by decide +kernel, rfl⟩
theorem d53_30 : Dc jdk_52_method_17_code 30 (.invokestatic 126) 3 33 := ⟨by decide +kernel, rfl⟩
theorem d53_33 : Dc jdk_52_method_17_code 33 (.astore 5) 2 35 := ⟨by decide +kernel, rfl⟩
theorem d53_35 : Dc jdk_52_method_17_code 35 (.aload 5) 2 37 := ⟨by decide +kernel, rfl⟩
theorem d53_37 : Dc jdk_52_method_17_code 37 (.iload 4) 2 39 := ⟨by decide +kernel, rfl⟩
theorem d53_39 : Dc jdk_52_method_17_code 39 (.invokestatic 71) 3 42 := ⟨by decide +kernel, rfl⟩
theorem d53_42 : Dc jdk_52_method_17_code 42 (.sipush 255) 3 45 := ⟨by decide +kernel, rfl⟩
theorem d53_45 : Db jdk_52_method_17_code 45 (.if_icmp .gt 16) 3 48 (16) 61 := ⟨by decide +kernel, rfl, by decide, by decide⟩
theorem d53_61 : Dc jdk_52_method_17_code 61 (.aload 5) 2 63 := ⟨by decide +kernel, rfl⟩
theorem d53_63 : Dc jdk_52_method_17_code 63 (.areturn) 1 64 := ⟨by decide +kernel, rfl⟩
theorem d54_0 : Dc jdk_52_method_22_code 0 (.iload_n 1) 1 1 := ⟨by decide +kernel, rfl⟩
theorem d54_1 : Dc jdk_52_method_22_code 1 (.iload 4) 2 3 := ⟨by decide +kernel, rfl⟩
theorem d54_3 : Dc jdk_52_method_22_code 3 (.aload_n 0) 1 4 := ⟨by decide +kernel, rfl⟩
theorem d54_4 : Dc jdk_52_method_22_code 4 (.invokestatic 173) 3 7 := ⟨by decide +kernel, rfl⟩
theorem d54_7 : Dc jdk_52_method_22_code 7 (.iconst 0) 1 8 := ⟨by decide +kernel, rfl⟩
theorem d54_8 : Dc jdk_52_method_22_code 8 (.istore 5) 2 10 := ⟨by decide +kernel, rfl⟩
theorem d54_10 : Dc jdk_52_method_22_code 10 (.iload 5) 2 12 := ⟨by decide +kernel, rfl⟩
theorem d54_12 : Dc jdk_52_method_22_code 12 (.iload 4) 2 14 := ⟨by decide +kernel, rfl⟩
theorem d54_14 : Db jdk_52_method_22_code 14 (.if_icmp .ge 39) 3 17 (39) 53 := ⟨by decide +kernel, rfl, by decide, by decide⟩
theorem d54_17 : Dc jdk_52_method_22_code 17 (.aload_n 0) 1 18 := ⟨by decide +kernel, rfl⟩
theorem d54_18 : Dc jdk_52_method_22_code 18 (.iload_n 1) 1 19 := ⟨by decide +kernel, rfl⟩
theorem d54_19 : Dc jdk_52_method_22_code 19 (.invokestatic 71) 3 22 := ⟨by decide +kernel, rfl⟩
theorem d54_22 : Dc jdk_52_method_22_code 22 (.istore 6) 2 24 := ⟨by decide +kernel, rfl⟩
theorem d54_24 : Dc jdk_52_method_22_code 24 (.iload 6) 2 26 := ⟨by decide +kernel, rfl⟩
theorem d54_26 : Dc jdk_52_method_22_code 26 (.sipush 255) 3 29 := ⟨by decide +kernel, rfl⟩
theorem d54_29 : Db jdk_52_method_22_code 29 (.if_icmp .le 6) 3 32 (6) 35 := ⟨by decide +kernel, rfl, by decide, by decide⟩
theorem d54_32 : Dc jdk_52_method_22_code 32 (.iload 5) 2 34 := ⟨by decide +kernel, rfl⟩
theorem d54_34 : Dc jdk_52_method_22_code 34 (.ireturn) 1 35 := ⟨by decide +kernel, rfl⟩
theorem d54_35 : Dc jdk_52_method_22_code 35 (.aload_n 2) 1 36 := ⟨by decide +kernel, rfl⟩
theorem d54_36 : Dc jdk_52_method_22_code 36 (.iload_n 3) 1 37 := ⟨by decide +kernel, rfl⟩
theorem d54_37 : Dc jdk_52_method_22_code 37 (.iload 6) 2 39 := ⟨by decide +kernel, rfl⟩
theorem d54_39 : Dc jdk_52_method_22_code 39 (.i2b) 1 40 := ⟨by decide +kernel, rfl⟩
theorem d54_40 : Dc jdk_52_method_22_code 40 (.bastore) 1 41 := ⟨by decide +kernel, rfl⟩
theorem d54_41 : Dc jdk_52_method_22_code 41 (.iinc 1 1) 3 44 := ⟨by decide +kernel, rfl⟩
theorem d54_44 : Dc jdk_52_method_22_code 44 (.iinc 3 1) 3 47 := ⟨by decide +kernel, rfl⟩
theorem d54_47 : Dc jdk_52_method_22_code 47 (.iinc 5 1) 3 50 := ⟨by decide +kernel, rfl⟩
theorem d54_50 : Db jdk_52_method_22_code 50 (.goto (-40)) 3 53 (-40) 10 := ⟨by decide +kernel, rfl, by decide, by decide⟩
theorem d54_53 : Dc jdk_52_method_22_code 53 (.iload 4) 2 55 := ⟨by decide +kernel, rfl⟩
theorem d54_55 : Dc jdk_52_method_22_code 55 (.ireturn) 1 56 := ⟨by decide +kernel, rfl⟩
theorem d55_0 : Dc jdk_52_method_94_code 0 (.iload_n 0) 1 1 := ⟨by decide +kernel, rfl⟩
theorem d55_1 : Dc jdk_52_method_94_code 1 (.iload_n 1) 1 2 := ⟨by decide +kernel, rfl⟩
theorem d55_2 : Dc jdk_52_method_94_code 2 (.aload_n 2) 1 3 := ⟨by decide +kernel, rfl⟩
theorem d55_3 : Dc jdk_52_method_94_code 3 (.invokestatic 48) 3 6 := ⟨by decide +kernel, rfl⟩
theorem d55_6 : Dc jdk_52_method_94_code 6 (.invokestatic 419) 3 9 := ⟨by decide +kernel, rfl⟩
theorem d55_9 : Dc jdk_52_method_94_code 9 (.pop) 1 10 := ⟨by decide +kernel, rfl⟩
theorem d55_10 : Dc jdk_52_method_94_code 10 (.return_) 1 11 := ⟨by decide +kernel, rfl⟩
theorem d56_0 : Dc jdk_52_method_6_code 0 (.aload_n 0) 1 1 := ⟨by decide +kernel, rfl⟩
theorem d56_1 : Dc jdk_52_method_6_code 1 (.arraylength) 1 2 := ⟨by decide +kernel, rfl⟩
theorem d56_2 : Dc jdk_52_method_6_code 2 (.iconst 1) 1 3 := ⟨by decide +kernel, rfl⟩
theorem d56_3 : Dc jdk_52_method_6_code 3 (.ishr) 1 4 := ⟨by decide +kernel, rfl⟩
theorem d56_4 : Dc jdk_52_method_6_code 4 (.ireturn) 1 5 := ⟨by decide +kernel, rfl⟩
theorem d57_0 : Dc jdk_42_method_157_code 0 (.iload_n 0) 1 1 := ⟨by decide +kernel, rfl⟩
theorem d57_1 : Dc jdk_42_method_157_code 1 (.iload_n 1) 1 2 := ⟨by decide +kernel, rfl⟩
theorem d57_2 : Dc jdk_42_method_157_code 2 (.iload_n 2) 1 3 := ⟨by decide +kernel, rfl⟩
theorem d57_3 : Dc jdk_42_method_157_code 3 (.getstatic 1053) 3 6 := ⟨by decide +kernel, rfl⟩
theorem d57_6 : Dc jdk_42_method_157_code 6 (.invokestatic 1065) 3 9 := ⟨by decide +kernel, rfl⟩
theorem d57_9 : Dc jdk_42_method_157_code 9 (.ireturn) 1 10 := ⟨by decide +kernel, rfl⟩
theorem d58_0 : Dc jdk_41_method_13_code 0 (.iload_n 2) 1 1 := ⟨by decide +kernel, rfl⟩
theorem d58_1 : Dc jdk_41_method_13_code 1 (.iload_n 0) 1 2 := ⟨by decide +kernel, rfl⟩
theorem d58_2 : Dc jdk_41_method_13_code 2 (.ior) 1 3 := ⟨by decide +kernel, rfl⟩
theorem d58_3 : Dc jdk_41_method_13_code 3 (.iload_n 1) 1 4 := ⟨by decide +kernel, rfl⟩
theorem d58_4 : Dc jdk_41_method_13_code 4 (.ior) 1 5 := ⟨by decide +kernel, rfl⟩
theorem d58_5 : Db jdk_41_method_13_code 5 (.ifCond .lt 10) 3 8 (10) 15 := ⟨by decide +kernel, rfl, by decide, by decide⟩
theorem d58_8 : Dc jdk_41_method_13_code 8 (.iload_n 1) 1 9 := ⟨by decide +kernel, rfl⟩
theorem d58_9 : Dc jdk_41_method_13_code 9 (.iload_n 2) 1 10 := ⟨by decide +kernel, rfl⟩
theorem d58_10 : Dc jdk_41_method_13_code 10 (.iload_n 0) 1 11 := ⟨by decide +kernel, rfl⟩
theorem d58_11 : Dc jdk_41_method_13_code 11 (.isub) 1 12 := ⟨by decide +kernel, rfl⟩
theorem d58_12 : Db jdk_41_method_13_code 12 (.if_icmp .le 11) 3 15 (11) 23 := ⟨by decide +kernel, rfl, by decide, by decide⟩
theorem d58_23 : Dc jdk_41_method_13_code 23 (.iload_n 0) 1 24 := ⟨by decide +kernel, rfl⟩
theorem d58_24 : Dc jdk_41_method_13_code 24 (.ireturn) 1 25 := ⟨by decide +kernel, rfl⟩
theorem d59_0 : Dc jdk_68_method_11_code 0 (.aload_n 0) 1 1 := ⟨by decide +kernel, rfl⟩
theorem d59_1 : Dc jdk_68_method_11_code 1 (.invokevirtual 83) 3 4 := ⟨by decide +kernel, rfl⟩
theorem d59_4 : Db jdk_68_method_11_code 4 (.ifCond .ne 4) 3 7 (4) 8 := ⟨by decide +kernel, rfl, by decide, by decide⟩
theorem d59_8 : Dc jdk_68_method_11_code 8 (.aload_n 0) 1 9 := ⟨by decide +kernel, rfl⟩
theorem d59_9 : Dc jdk_68_method_11_code 9 (.getfield 15) 3 12 := ⟨by decide +kernel, rfl⟩
theorem d59_12 : Dc jdk_68_method_11_code 12 (.arraylength) 1 13 := ⟨by decide +kernel, rfl⟩
theorem d59_13 : Dc jdk_68_method_11_code 13 (.invokestatic 26) 3 16 := ⟨by decide +kernel, rfl⟩
theorem d59_16 : Dc jdk_68_method_11_code 16 (.astore_n 1) 1 17 := ⟨by decide +kernel, rfl⟩
theorem d59_17 : Dc jdk_68_method_11_code 17 (.aload_n 0) 1 18 := ⟨by decide +kernel, rfl⟩
theorem d59_18 : Dc jdk_68_method_11_code 18 (.getfield 15) 3 21 := ⟨by decide +kernel, rfl⟩
theorem d59_21 : Dc jdk_68_method_11_code 21 (.iconst 0) 1 22 := ⟨by decide +kernel, rfl⟩
theorem d59_22 : Dc jdk_68_method_11_code 22 (.aload_n 1) 1 23 := ⟨by decide +kernel, rfl⟩
theorem d59_23 : Dc jdk_68_method_11_code 23 (.iconst 0) 1 24 := ⟨by decide +kernel, rfl⟩
theorem d59_24 : Dc jdk_68_method_11_code 24 (.aload_n 0) 1 25 := ⟨by decide +kernel, rfl⟩
theorem d59_25 : Dc jdk_68_method_11_code 25 (.getfield 79) 3 28 := ⟨by decide +kernel, rfl⟩
theorem d59_28 : Dc jdk_68_method_11_code 28 (.invokestatic 125) 3 31 := ⟨by decide +kernel, rfl⟩
theorem d59_31 : Dc jdk_68_method_11_code 31 (.aload_n 0) 1 32 := ⟨by decide +kernel, rfl⟩
theorem d59_32 : Dc jdk_68_method_11_code 32 (.aload_n 1) 1 33 := ⟨by decide +kernel, rfl⟩
theorem d59_33 : Dc jdk_68_method_11_code 33 (.putfield 15) 3 36 := ⟨by decide +kernel, rfl⟩
theorem d59_36 : Dc jdk_68_method_11_code 36 (.aload_n 0) 1 37 := ⟨by decide +kernel, rfl⟩
theorem d59_37 : Dc jdk_68_method_11_code 37 (.iconst 1) 1 38 := ⟨by decide +kernel, rfl⟩
theorem d59_38 : Dc jdk_68_method_11_code 38 (.putfield 22) 3 41 := ⟨by decide +kernel, rfl⟩
theorem d59_41 : Dc jdk_68_method_11_code 41 (.return_) 1 42 := ⟨by decide +kernel, rfl⟩
theorem d60_0 : Dc jdk_43_method_50_code 0 (.aload_n 0) 1 1 := ⟨by decide +kernel, rfl⟩
theorem d60_1 : Dc jdk_43_method_50_code 1 (.iload_n 1) 1 2 := ⟨by decide +kernel, rfl⟩
theorem d60_2 : Dc jdk_43_method_50_code 2 (.aload_n 2) 1 3 := ⟨by decide +kernel, rfl⟩
theorem d60_3 : Dc jdk_43_method_50_code 3 (.iload_n 3) 1 4 := ⟨by decide +kernel, rfl⟩
theorem d60_4 : Dc jdk_43_method_50_code 4 (.iload 4) 2 6 := ⟨by decide +kernel, rfl⟩
theorem d60_6 : Dc jdk_43_method_50_code 6 (.invokestatic 240) 3 9 := ⟨by decide +kernel, rfl⟩
theorem d60_9 : Dc jdk_43_method_50_code 9 (.return_) 1 10 := ⟨by decide +kernel, rfl⟩
theorem d61_0 : Dc jdk_52_method_86_code 0 (.iload_n 3) 1 1 := ⟨by decide +kernel, rfl⟩
theorem d61_1 : Dc jdk_52_method_86_code 1 (.iload 4) 2 3 := ⟨by decide +kernel, rfl⟩
theorem d61_3 : Dc jdk_52_method_86_code 3 (.aload_n 2) 1 4 := ⟨by decide +kernel, rfl⟩
theorem d61_4 : Dc jdk_52_method_86_code 4 (.invokestatic 173) 3 7 := ⟨by decide +kernel, rfl⟩
theorem d61_7 : Dc jdk_52_method_86_code 7 (.iconst 0) 1 8 := ⟨by decide +kernel, rfl⟩
theorem d61_8 : Dc jdk_52_method_86_code 8 (.istore 5) 2 10 := ⟨by decide +kernel, rfl⟩
theorem d61_10 : Dc jdk_52_method_86_code 10 (.iload 5) 2 12 := ⟨by decide +kernel, rfl⟩
theorem d61_12 : Dc jdk_52_method_86_code 12 (.iload 4) 2 14 := ⟨by decide +kernel, rfl⟩
theorem d61_14 : Db jdk_52_method_86_code 14 (.if_icmp .ge 27) 3 17 (27) 41 := ⟨by decide +kernel, rfl, by decide, by decide⟩
theorem d61_41 : Dc jdk_52_method_86_code 41 (.return_) 1 42 := ⟨by decide +kernel, rfl⟩
theorem d62_0 : Dc jdk_52_method_71_code 0 (.iload_n 1) 1 1 := ⟨by decide +kernel, rfl⟩
theorem d62_1 : Dc jdk_52_method_71_code 1 (.aload_n 0) 1 2 := ⟨by decide +kernel, rfl⟩
theorem d62_2 : Dc jdk_52_method_71_code 2 (.invokestatic 67) 3 5 := ⟨by decide +kernel, rfl⟩
theorem d62_5 : Dc jdk_52_method_71_code 5 (.aload_n 0) 1 6 := ⟨by decide +kernel, rfl⟩
theorem d62_6 : Dc jdk_52_method_71_code 6 (.iload_n 1) 1 7 := ⟨by decide +kernel, rfl⟩
theorem d62_7 : Dc jdk_52_method_71_code 7 (.iload_n 2) 1 8 := ⟨by decide +kernel, rfl⟩
theorem d62_8 : Dc jdk_52_method_71_code 8 (.invokestatic 111) 3 11 := ⟨by decide +kernel, rfl⟩
theorem d62_11 : Dc jdk_52_method_71_code 11 (.return_) 1 12 := ⟨by decide +kernel, rfl⟩
theorem d63_0 : Dc jdk_52_method_91_code 0 (.iload_n 0) 1 1 := ⟨by decide +kernel, rfl⟩
theorem d63_1 : Dc jdk_52_method_91_code 1 (.aload_n 1) 1 2 := ⟨by decide +kernel, rfl⟩
theorem d63_2 : Dc jdk_52_method_91_code 2 (.invokestatic 48) 3 5 := ⟨by decide +kernel, rfl⟩
theorem d63_5 : Dc jdk_52_method_91_code 5 (.invokestatic 414) 3 8 := ⟨by decide +kernel, rfl⟩
theorem d63_8 : Dc jdk_52_method_91_code 8 (.return_) 1 9 := ⟨by decide +kernel, rfl⟩
theorem d64_0 : Dc jdk_42_method_155_code 0 (.iload_n 0) 1 1 := ⟨by decide +kernel, rfl⟩
theorem d64_1 : Dc jdk_42_method_155_code 1 (.iload_n 1) 1 2 := ⟨by decide +kernel, rfl⟩
theorem d64_2 : Dc jdk_42_method_155_code 2 (.getstatic 1053) 3 5 := ⟨by decide +kernel, rfl⟩
theorem d64_5 : Dc jdk_42_method_155_code 5 (.invokestatic 1059) 3 8 := ⟨by decide +kernel, rfl⟩
theorem d64_8 : Dc jdk_42_method_155_code 8 (.pop) 1 9 := ⟨by decide +kernel, rfl⟩
theorem d64_9 : Dc jdk_42_method_155_code 9 (.return_) 1 10 := ⟨by decide +kernel, rfl⟩
theorem d65_0 : Dc jdk_41_method_11_code 0 (.iload_n 0) 1 1 := ⟨by decide +kernel, rfl⟩
theorem d65_1 : Db jdk_41_method_11_code 1 (.ifCond .lt 8) 3 4 (8) 9 := ⟨by decide +kernel, rfl, by decide, by decide⟩
theorem d65_4 : Dc jdk_41_method_11_code 4 (.iload_n 0) 1 5 := ⟨by decide +kernel, rfl⟩
theorem d65_5 : Dc jdk_41_method_11_code 5 (.iload_n 1) 1 6 := ⟨by decide +kernel, rfl⟩
theorem d65_6 : Db jdk_41_method_11_code 6 (.if_icmp .lt 10) 3 9 (10) 16 := ⟨by decide +kernel, rfl, by decide, by decide⟩
theorem d65_16 : Dc jdk_41_method_11_code 16 (.iload_n 0) 1 17 := ⟨by decide +kernel, rfl⟩
theorem d65_17 : Dc jdk_41_method_11_code 17 (.ireturn) 1 18 := ⟨by decide +kernel, rfl⟩
theorem d66_0 : Dc code 0 (.iload_n 0) 1 1 := ⟨by decide +kernel, rfl⟩
theorem d66_1 : Dc code 1 (.iconst 3) 1 2 := ⟨by decide +kernel, rfl⟩
theorem d66_2 : Dc code 2 (.iand) 1 3 := ⟨by decide +kernel, rfl⟩
theorem d66_3 : Dc code 3 (.istore 4) 2 5 := ⟨by decide +kernel, rfl⟩
theorem d66_5 : Dc code 5 (.iload_n 1) 1 6 := ⟨by decide +kernel, rfl⟩
theorem d66_6 : Dc code 6 (.ldc 7) 2 8 := ⟨by decide +kernel, rfl⟩
theorem d66_8 : Dc code 8 (.iand) 1 9 := ⟨by decide +kernel, rfl⟩
theorem d66_9 : Dc code 9 (.i2c) 1 10 := ⟨by decide +kernel, rfl⟩
theorem d66_10 : Dc code 10 (.istore 5) 2 12 := ⟨by decide +kernel, rfl⟩
theorem d66_12 : Dc code 12 (.iload_n 2) 1 13 := ⟨by decide +kernel, rfl⟩
theorem d66_13 : Dc code 13 (.ldc 7) 2 15 := ⟨by decide +kernel, rfl⟩
theorem d66_15 : Dc code 15 (.iand) 1 16 := ⟨by decide +kernel, rfl⟩
theorem d66_16 : Dc code 16 (.i2c) 1 17 := ⟨by decide +kernel, rfl⟩
theorem d66_17 : Dc code 17 (.istore 6) 2 19 := ⟨by decide +kernel, rfl⟩
theorem d66_19 : Dc code 19 (.iload_n 3) 1 20 := ⟨by decide +kernel, rfl⟩
theorem d66_20 : Dc code 20 (.ldc 7) 2 22 := ⟨by decide +kernel, rfl⟩
theorem d66_22 : Dc code 22 (.iand) 1 23 := ⟨by decide +kernel, rfl⟩
theorem d66_23 : Dc code 23 (.i2c) 1 24 := ⟨by decide +kernel, rfl⟩
theorem d66_24 : Dc code 24 (.istore 7) 2 26 := ⟨by decide +kernel, rfl⟩
theorem d66_26 : Dc code 26 (.iload 4) 2 28 := ⟨by decide +kernel, rfl⟩
theorem d66_28 : Dc code 28 (.iload 5) 2 30 := ⟨by decide +kernel, rfl⟩
theorem d66_30 : Dc code 30 (.iload 6) 2 32 := ⟨by decide +kernel, rfl⟩
theorem d66_32 : Dc code 32 (.iload 7) 2 34 := ⟨by decide +kernel, rfl⟩
theorem d66_34 : Dc code 34 (.bipush 47) 2 36 := ⟨by decide +kernel, rfl⟩
theorem d66_36 : Dc code 36 (.invokestatic 8) 3 39 := ⟨by decide +kernel, rfl⟩
theorem d66_39 : Dc code 39 (.astore 8) 2 41 := ⟨by decide +kernel, rfl⟩
theorem d66_41 : Dc code 41 (.iload 4) 2 43 := ⟨by decide +kernel, rfl⟩
theorem d66_43 : Dc code 43 (.iload 5) 2 45 := ⟨by decide +kernel, rfl⟩
theorem d66_45 : Dc code 45 (.iload 6) 2 47 := ⟨by decide +kernel, rfl⟩
theorem d66_47 : Dc code 47 (.iload 7) 2 49 := ⟨by decide +kernel, rfl⟩
theorem d66_49 : Dc code 49 (.bipush 48) 2 51 := ⟨by decide +kernel, rfl⟩
theorem d66_51 : Dc code 51 (.invokestatic 8) 3 54 := ⟨by decide +kernel, rfl⟩
theorem d66_54 : Dc code 54 (.astore 9) 2 56 := ⟨by decide +kernel, rfl⟩
theorem d66_56 : Dc code 56 (.aload 8) 2 58 := ⟨by decide +kernel, rfl⟩
theorem d66_58 : Dc code 58 (.invokestatic 14) 3 61 := ⟨by decide +kernel, rfl⟩
theorem d66_61 : Dc code 61 (.astore 10) 2 63 := ⟨by decide +kernel, rfl⟩
theorem d66_63 : Dc code 63 (.aload 10) 2 65 := ⟨by decide +kernel, rfl⟩
theorem d66_65 : Dc code 65 (.invokevirtual 20) 3 68 := ⟨by decide +kernel, rfl⟩
theorem d66_68 : Dc code 68 (.aload 8) 2 70 := ⟨by decide +kernel, rfl⟩
theorem d66_70 : Dc code 70 (.invokevirtual 24) 3 73 := ⟨by decide +kernel, rfl⟩
theorem d66_73 : Db code 73 (.ifCond .eq 20) 3 76 (20) 93 := ⟨by decide +kernel, rfl, by decide, by decide⟩
theorem d66_76 : Dc code 76 (.aload 10) 2 78 := ⟨by decide +kernel, rfl⟩
theorem d66_78 : Dc code 78 (.invokevirtual 30) 3 81 := ⟨by decide +kernel, rfl⟩
theorem d66_81 : Dc code 81 (.aload 9) 2 83 := ⟨by decide +kernel, rfl⟩
theorem d66_83 : Dc code 83 (.invokevirtual 24) 3 86 := ⟨by decide +kernel, rfl⟩
theorem d66_86 : Db code 86 (.ifCond .eq 7) 3 89 (7) 93 := ⟨by decide +kernel, rfl, by decide, by decide⟩
theorem d66_89 : Dc code 89 (.iconst 1) 1 90 := ⟨by decide +kernel, rfl⟩
theorem d66_90 : Db code 90 (.goto 4) 3 93 (4) 94 := ⟨by decide +kernel, rfl, by decide, by decide⟩
theorem d66_94 : Dc code 94 (.ireturn) 1 95 := ⟨by decide +kernel, rfl⟩
theorem pd__28C_29Ljava_2flang_2fAbstractStringBuilder_3b : parseMethodDescriptor "(C)Ljava/lang/AbstractStringBuilder;" = some ⟨[.char], some (.object "java/lang/AbstractStringBuilder")⟩ := by decide +kernel
theorem pd__28C_29Ljava_2flang_2fStringBuilder_3b : parseMethodDescriptor "(C)Ljava/lang/StringBuilder;" = some ⟨[.char], some (.object "java/lang/StringBuilder")⟩ := by decide +kernel
theorem pd__28C_29Z : parseMethodDescriptor "(C)Z" = some ⟨[.char], some .boolean⟩ := by decide +kernel
theorem pd__28ICCCC_29Ljava_2flang_2fString_3b : parseMethodDescriptor "(ICCCC)Ljava/lang/String;" = some ⟨[.int, .char, .char, .char, .char], some (.object "java/lang/String")⟩ := by decide +kernel
theorem pd__28IIILjava_2futil_2ffunction_2fBiFunction_3b_29I : parseMethodDescriptor "(IIILjava/util/function/BiFunction;)I" = some ⟨[.int, .int, .int, (.object "java/util/function/BiFunction")], some .int⟩ := by decide +kernel
theorem pd__28III_29I : parseMethodDescriptor "(III)I" = some ⟨[.int, .int, .int], some .int⟩ := by decide +kernel
theorem pd__28III_29V : parseMethodDescriptor "(III)V" = some ⟨[.int, .int, .int], none⟩ := by decide +kernel
theorem pd__28IILjava_2futil_2ffunction_2fBiFunction_3b_29I : parseMethodDescriptor "(IILjava/util/function/BiFunction;)I" = some ⟨[.int, .int, (.object "java/util/function/BiFunction")], some .int⟩ := by decide +kernel
theorem pd__28II_29I : parseMethodDescriptor "(II)I" = some ⟨[.int, .int], some .int⟩ := by decide +kernel
theorem pd__28II_29Ljava_2flang_2fString_3b : parseMethodDescriptor "(II)Ljava/lang/String;" = some ⟨[.int, .int], some (.object "java/lang/String")⟩ := by decide +kernel
theorem pd__28II_29V : parseMethodDescriptor "(II)V" = some ⟨[.int, .int], none⟩ := by decide +kernel
theorem pd__28II_5bB_29V : parseMethodDescriptor "(II[B)V" = some ⟨[.int, .int, (.array .byte)], none⟩ := by decide +kernel
theorem pd__28ILjava_2flang_2fString_3b_29V : parseMethodDescriptor "(ILjava/lang/String;)V" = some ⟨[.int, (.object "java/lang/String")], none⟩ := by decide +kernel
theorem pd__28I_29I : parseMethodDescriptor "(I)I" = some ⟨[.int], some .int⟩ := by decide +kernel
theorem pd__28I_29V : parseMethodDescriptor "(I)V" = some ⟨[.int], none⟩ := by decide +kernel
theorem pd__28I_29_5bB : parseMethodDescriptor "(I)[B" = some ⟨[.int], some (.array .byte)⟩ := by decide +kernel
theorem pd__28I_5bB_29V : parseMethodDescriptor "(I[B)V" = some ⟨[.int, (.array .byte)], none⟩ := by decide +kernel
theorem pd__28Ljava_2flang_2fAbstractStringBuilder_3bLjava_2flang_2fVoid_3b_29V : parseMethodDescriptor "(Ljava/lang/AbstractStringBuilder;Ljava/lang/Void;)V" = some ⟨[(.object "java/lang/AbstractStringBuilder"), (.object "java/lang/Void")], none⟩ := by decide +kernel
theorem pd__28Ljava_2flang_2fObject_3b_29Z : parseMethodDescriptor "(Ljava/lang/Object;)Z" = some ⟨[(.object "java/lang/Object")], some .boolean⟩ := by decide +kernel
theorem pd__28Ljava_2flang_2fStringBuilder_3b_29V : parseMethodDescriptor "(Ljava/lang/StringBuilder;)V" = some ⟨[(.object "java/lang/StringBuilder")], none⟩ := by decide +kernel
theorem pd__28Ljava_2flang_2fString_3bI_29Z : parseMethodDescriptor "(Ljava/lang/String;I)Z" = some ⟨[(.object "java/lang/String"), .int], some .boolean⟩ := by decide +kernel
theorem pd__28Ljava_2flang_2fString_3bLjava_2flang_2fString_3b_29V : parseMethodDescriptor "(Ljava/lang/String;Ljava/lang/String;)V" = some ⟨[(.object "java/lang/String"), (.object "java/lang/String")], none⟩ := by decide +kernel
theorem pd__28Ljava_2flang_2fString_3b_29Lcom_2fexample_2fkolejka_2fkolejka_2fDialect_24KeyRange_3b : parseMethodDescriptor "(Ljava/lang/String;)Lcom/example/kolejka/kolejka/Dialect$KeyRange;" = some ⟨[(.object "java/lang/String")], some (.object "com/example/kolejka/kolejka/Dialect$KeyRange")⟩ := by decide +kernel
theorem pd__28Ljava_2flang_2fString_3b_29Ljava_2flang_2fAbstractStringBuilder_3b : parseMethodDescriptor "(Ljava/lang/String;)Ljava/lang/AbstractStringBuilder;" = some ⟨[(.object "java/lang/String")], some (.object "java/lang/AbstractStringBuilder")⟩ := by decide +kernel
theorem pd__28Ljava_2flang_2fString_3b_29Ljava_2flang_2fStringBuilder_3b : parseMethodDescriptor "(Ljava/lang/String;)Ljava/lang/StringBuilder;" = some ⟨[(.object "java/lang/String")], some (.object "java/lang/StringBuilder")⟩ := by decide +kernel
theorem pd__28Ljava_2flang_2fString_3b_29V : parseMethodDescriptor "(Ljava/lang/String;)V" = some ⟨[(.object "java/lang/String")], none⟩ := by decide +kernel
theorem pd__28Ljava_2flang_2fString_3b_29Z : parseMethodDescriptor "(Ljava/lang/String;)Z" = some ⟨[(.object "java/lang/String")], some .boolean⟩ := by decide +kernel
theorem pd__28_29B : parseMethodDescriptor "()B" = some ⟨[], some .byte⟩ := by decide +kernel
theorem pd__28_29I : parseMethodDescriptor "()I" = some ⟨[], some .int⟩ := by decide +kernel
theorem pd__28_29Ljava_2flang_2fString_3b : parseMethodDescriptor "()Ljava/lang/String;" = some ⟨[], some (.object "java/lang/String")⟩ := by decide +kernel
theorem pd__28_29V : parseMethodDescriptor "()V" = some ⟨[], none⟩ := by decide +kernel
theorem pd__28_29Z : parseMethodDescriptor "()Z" = some ⟨[], some .boolean⟩ := by decide +kernel
theorem pd__28_29_5bB : parseMethodDescriptor "()[B" = some ⟨[], some (.array .byte)⟩ := by decide +kernel
theorem pd__28_5bBB_29V : parseMethodDescriptor "([BB)V" = some ⟨[(.array .byte), .byte], none⟩ := by decide +kernel
theorem pd__28_5bBIB_29V : parseMethodDescriptor "([BIB)V" = some ⟨[(.array .byte), .int, .byte], none⟩ := by decide +kernel
theorem pd__28_5bBII_29Ljava_2flang_2fString_3b : parseMethodDescriptor "([BII)Ljava/lang/String;" = some ⟨[(.array .byte), .int, .int], some (.object "java/lang/String")⟩ := by decide +kernel
theorem pd__28_5bBII_29V : parseMethodDescriptor "([BII)V" = some ⟨[(.array .byte), .int, .int], none⟩ := by decide +kernel
theorem pd__28_5bBII_29_5bB : parseMethodDescriptor "([BII)[B" = some ⟨[(.array .byte), .int, .int], some (.array .byte)⟩ := by decide +kernel
theorem pd__28_5bBI_29B : parseMethodDescriptor "([BI)B" = some ⟨[(.array .byte), .int], some .byte⟩ := by decide +kernel
theorem pd__28_5bBI_29C : parseMethodDescriptor "([BI)C" = some ⟨[(.array .byte), .int], some .char⟩ := by decide +kernel
theorem pd__28_5bBI_5bBII_29I : parseMethodDescriptor "([BI[BII)I" = some ⟨[(.array .byte), .int, (.array .byte), .int, .int], some .int⟩ := by decide +kernel
theorem pd__28_5bBI_5bBII_29V : parseMethodDescriptor "([BI[BII)V" = some ⟨[(.array .byte), .int, (.array .byte), .int, .int], none⟩ := by decide +kernel
theorem pd__28_5bB_29I : parseMethodDescriptor "([B)I" = some ⟨[(.array .byte)], some .int⟩ := by decide +kernel
theorem pd__28_5bB_5bB_29Z : parseMethodDescriptor "([B[B)Z" = some ⟨[(.array .byte), (.array .byte)], some .boolean⟩ := by decide +kernel
theorem pd__28_5bCIILjava_2flang_2fVoid_3b_29V : parseMethodDescriptor "([CIILjava/lang/Void;)V" = some ⟨[(.array .char), .int, .int, (.object "java/lang/Void")], none⟩ := by decide +kernel
theorem pd__28_5bCII_29_5bB : parseMethodDescriptor "([CII)[B" = some ⟨[(.array .char), .int, .int], some (.array .byte)⟩ := by decide +kernel
theorem pd__28_5bCI_5bBII_29I : parseMethodDescriptor "([CI[BII)I" = some ⟨[(.array .char), .int, (.array .byte), .int, .int], some .int⟩ := by decide +kernel
theorem pd__28_5bC_29V : parseMethodDescriptor "([C)V" = some ⟨[(.array .char)], none⟩ := by decide +kernel
set_option maxRecDepth 65536 in
set_option maxHeartbeats 4000000 in
theorem k_pci {Z : State} {a0 : Array Value} (hw : ∀ d ∈ tables_1, d.before a0 Z = true) (hs : Stt Z) {n0 : Nat} {h0 : Heap} {i n : Int32} {f : Value} (h1 : ¬ i < 0) (h2 : i < n) (hf : f.isRef = true) (O : Old Z n0 h0) :
    Con WD Z EL0 n0 (⟨"jdk/internal/util/Preconditions", "checkIndex", "(IILjava/util/function/BiFunction;)I"⟩ : MethodName) jdk_41_method_11_code 3 (some .int) (Rm 0 0 0 0) [(.int i), (.int n), f] h0 [] (fun v h gs => v = some (.int i) ∧ gs = []) := by
  rcases ref_cases hf with rfl | ⟨r, rfl⟩
  · refine Con.of (a0 := a0) (by first | (exact plainFor_of_name (by first | (simp [plainName, overriddenIn]; done) | decide +kernel)) | decide +kernel) (hEL hw) hWE O (L0 := #[.val (.int i), .val (.int n), .val .null]) (fun m => by first | rfl | (simp [entryFrame, mkF, argsToLocals, Value.category]; done)) ?_
    intro K C hh
    refine Own.iloadN C d65_0 rfl ?_
    refine if_lt C d65_1 (fun q1 => ?_) (fun q1 => ?_)
    · exact absurd q1 h1
    · refine Own.iloadN C d65_4 rfl ?_
      refine Own.iloadN C d65_5 rfl ?_
      refine icmp_lt C d65_6 (fun q2 => ?_) (fun q2 => ?_)
      · refine Own.iloadN C d65_16 rfl ?_
        exact retI_ C (gs := []) d65_17 (dle rfl) (dle rfl) (fun _ q => nomatch q) ⟨rfl, rfl⟩
      · exact absurd h2 q2
  · refine Con.of (a0 := a0) (by first | (exact plainFor_of_name (by first | (simp [plainName, overriddenIn]; done) | decide +kernel)) | decide +kernel) (hEL hw) hWE O (L0 := #[.val (.int i), .val (.int n), .val (.ref r)]) (fun m => by first | rfl | (simp [entryFrame, mkF, argsToLocals, Value.category]; done)) ?_
    intro K C hh
    refine Own.iloadN C d65_0 rfl ?_
    refine if_lt C d65_1 (fun q1 => ?_) (fun q1 => ?_)
    · exact absurd q1 h1
    · refine Own.iloadN C d65_4 rfl ?_
      refine Own.iloadN C d65_5 rfl ?_
      refine icmp_lt C d65_6 (fun q2 => ?_) (fun q2 => ?_)
      · refine Own.iloadN C d65_16 rfl ?_
        exact retI_ C (gs := []) d65_17 (dle rfl) (dle rfl) (fun _ q => nomatch q) ⟨rfl, rfl⟩
      · exact absurd h2 q2
set_option maxRecDepth 65536 in
set_option maxHeartbeats 4000000 in
theorem k_ci {Z : State} {a0 : Array Value} (hw : ∀ d ∈ tables_1, d.before a0 Z = true) (hs : Stt Z) {n0 : Nat} {h0 : Heap} {i n : Int32} (h1 : ¬ i < 0) (h2 : i < n) (O : Old Z n0 h0) :
    Con WD Z EL0 n0 (⟨"java/lang/String", "checkIndex", "(II)V"⟩ : MethodName) jdk_42_method_155_code 2 none (Rm 1 0 0 14) [(.int i), (.int n)] h0 [] (fun v h gs => v = none ∧ gs = []) := by
  refine Con.of (a0 := a0) (by first | (exact plainFor_of_name (by first | (simp [plainName, overriddenIn]; done) | decide +kernel)) | decide +kernel) (hEL hw) hWE O (L0 := #[.val (.int i), .val (.int n)]) (fun m => by first | rfl | (simp [entryFrame, mkF, argsToLocals, Value.category]; done)) ?_
  intro K C hh
  obtain ⟨fv, hfv, Sf⟩ := st_f hs
  refine Own.iloadN C d64_0 rfl ?_
  refine Own.iloadN C d64_1 rfl ?_
  refine getS_ C (hw _ (List.mem_of_getElem? (i := 95) rfl)) Sf d64_2 ?_
  refine callS_ C (as := [(.int i), (.int n), fv]) (st := []) (hw _ (List.mem_of_getElem? (i := 310) rfl)) (hw _ (List.mem_of_getElem? (i := 311) rfl)) (hw _ (List.mem_of_getElem? (i := 96) rfl)) (hw _ (List.mem_of_getElem? (i := 312) rfl)) ⟨by decide, by decide⟩ pd__28IILjava_2futil_2ffunction_2fBiFunction_3b_29I rfl (fun O => k_pci hw hs h1 h2 hfv O) (fun _ q => nomatch q) rfl (dle rfl) (dle rfl) (dle rfl) (dle rfl) d64_5 rfl (fun v1 hp1 gs1 K1 Q1 => ?_)
  obtain ⟨rfl, rfl⟩ := Q1
  show Go _ K Z _ n0 _ _ 8 #[.val (.int i), .val (.int n)] [(.int i)] hp1 _ _ _
  refine Own.pop C d64_8 rfl ?_
  exact retV C (gs := []) d64_9 (dle rfl) (dle rfl) (fun _ q => nomatch q) ⟨rfl, rfl⟩
set_option maxRecDepth 65536 in
set_option maxHeartbeats 4000000 in
theorem k_ulength {Z : State} {a0 : Array Value} (hw : ∀ d ∈ tables_1, d.before a0 Z = true) (hs : Stt Z) {n0 : Nat} {h0 : Heap} {b : Addr} {vs : List Value} {m : Nat} (hm : m ≤ 4096) (A : Ary Z h0 b .byte vs) (hv : vs.length = 2 * m) (O : Old Z n0 h0) :
    Con WD Z EL0 n0 (⟨"java/lang/StringUTF16", "length", "([B)I"⟩ : MethodName) jdk_52_method_6_code 1 (some .int) (Rm 0 0 0 0) [(.ref b)] h0 [] (fun v h gs => v = some (.int (natI m)) ∧ gs = []) := by
  refine Con.of (a0 := a0) (by first | (exact plainFor_of_name (by first | (simp [plainName, overriddenIn]; done) | decide +kernel)) | decide +kernel) (hEL hw) hWE O (L0 := #[.val (.ref b)]) (fun m => by first | rfl | (simp [entryFrame, mkF, argsToLocals, Value.category]; done)) ?_
  intro K C hh
  obtain ⟨y, hy⟩ : ∃ y : Int32, y.toInt = (2 * m : Nat) := ⟨natI (2 * m), natI_toInt (by omega)⟩
  have e := shr1 hy
  have e' : y >>> (1 &&& 31) = natI m := i32e (by rw [e, natI_toInt (by omega)])
  refine Own.aloadN C d56_0 rfl rfl ?_
  refine arrlen C A (z := y) (by rw [hy, hv]) d56_1 ?_
  refine Own.iconst (v := 1) C d56_2 rfl ?_
  refine Own.ishr C d56_3 ?_
  exact retI_ C (gs := []) d56_4 (dle rfl) (dle rfl) (fun _ q => nomatch q) ⟨by rw [e'], rfl⟩
set_option maxRecDepth 65536 in
set_option maxHeartbeats 4000000 in
theorem k_getChar {Z : State} {a0 : Array Value} (hw : ∀ d ∈ tables_1, d.before a0 Z = true) (hs : Stt Z) {n0 : Nat} {h0 : Heap} {b : Addr} {cs : List Int32} {j c : Int32} {i : Nat} (hcs : ∀ c ∈ cs, isCh c) (hl : cs.length ≤ 4096) (A : Ary Z h0 b .byte (utf cs)) (hj : j.toInt = i) (hc : cs[i]? = some c) (O : Old Z n0 h0) :
    Con WD Z EL0 n0 (⟨"java/lang/StringUTF16", "getChar", "([BI)C"⟩ : MethodName) jdk_52_method_5_code 2 (some .char) (Rm 0 0 0 0) [(.ref b), (.int j)] h0 [] (fun v h gs => v = some (.int c) ∧ gs = []) := by
  refine Con.of (a0 := a0) (by first | (exact plainFor_of_name (by first | (simp [plainName, overriddenIn]; done) | decide +kernel)) | decide +kernel) (hEL hw) hWE O (L0 := #[.val (.ref b), .val (.int j)]) (fun m => by first | rfl | (simp [entryFrame, mkF, argsToLocals, Value.category]; done)) ?_
  intro K C hh
  have hi : i < cs.length := (List.getElem?_eq_some_iff.mp hc).1
  have hch := hcs c (List.mem_of_getElem? hc)
  obtain ⟨u1, u2⟩ := utf_at hc
  have j1 := shl1 hj (by omega)
  have j2 : ((j <<< (1 &&& 31)) + 1).toInt = (2 * i + 1 : Nat) := by have a := c_iadd (j <<< (1 &&& 31)) 1; have r := rng32 ((j <<< (1 &&& 31)) + 1); have e : (1 : Int32).toInt = 1 := rfl; omega
  refine getS_ C (hw _ (List.mem_of_getElem? (i := 256) rfl)) (st_a hs) d51_0 ?_
  refine if_ne C d51_3 (fun q1 => ?_) (fun q1 => ?_)
  · refine Own.iloadN C d51_28 rfl ?_
    refine Own.iconst (v := 1) C d51_29 rfl ?_
    refine Own.ishl C d51_30 ?_
    refine Own.istoreN (L' := #[.val (.ref b), .val (.int (j <<< ((1 : Int32) &&& 31)))]) C d51_31 rfl ?_
    refine Own.aloadN C d51_32 rfl rfl ?_
    refine Own.iloadN C d51_33 rfl ?_
    refine Own.iinc (L' := #[.val (.ref b), .val (.int ((j <<< ((1 : Int32) &&& 31)) + (1 : Int32)))]) (y := ((j <<< ((1 : Int32) &&& 31)) + (1 : Int32))) C d51_34 rfl rfl rfl ?_
    refine baload_ C (v := .int (nar .byte c)) A (2 * i) j1 u1 d51_37 ?_
    refine Own.sipush (v := 255) C d51_38 rfl ?_
    refine Own.iand C d51_41 ?_
    refine getS_ C (hw _ (List.mem_of_getElem? (i := 257) rfl)) (st_hi hs) d51_42 ?_
    refine Own.ishl C d51_45 ?_
    refine Own.aloadN C d51_46 rfl rfl ?_
    refine Own.iloadN C d51_47 rfl ?_
    refine baload_ C (v := .int (nar .byte (c >>> 8))) A (2 * i + 1) j2 u2 d51_48 ?_
    refine Own.sipush (v := 255) C d51_49 rfl ?_
    refine Own.iand C d51_52 ?_
    refine getS_ C (hw _ (List.mem_of_getElem? (i := 258) rfl)) (st_lo hs) d51_53 ?_
    refine Own.ishl C d51_56 ?_
    refine Own.ior C d51_57 ?_
    refine Own.i2c C d51_58 ?_
    exact retC C (gs := []) d51_59 (dle rfl) (dle rfl) (fun _ q => nomatch q) ⟨by rw [narc_idem, utf_char hch], rfl⟩
  · exact absurd q1 (by decide)
set_option maxRecDepth 65536 in
set_option maxHeartbeats 4000000 in
theorem k_uci {Z : State} {a0 : Array Value} (hw : ∀ d ∈ tables_1, d.before a0 Z = true) (hs : Stt Z) {n0 : Nat} {h0 : Heap} {b : Addr} {vs : List Value} {j : Int32} {i m : Nat} (hm : m ≤ 4096) (A : Ary Z h0 b .byte vs) (hv : vs.length = 2 * m) (hj : j.toInt = i) (hi : i < m) (O : Old Z n0 h0) :
    Con WD Z EL0 n0 (⟨"java/lang/StringUTF16", "checkIndex", "(I[B)V"⟩ : MethodName) jdk_52_method_91_code 2 none (Rm 2 0 0 27) [(.int j), (.ref b)] h0 [] (fun v h gs => v = none ∧ gs = []) := by
  refine Con.of (a0 := a0) (by first | (exact plainFor_of_name (by first | (simp [plainName, overriddenIn]; done) | decide +kernel)) | decide +kernel) (hEL hw) hWE O (L0 := #[.val (.int j), .val (.ref b)]) (fun m => by first | rfl | (simp [entryFrame, mkF, argsToLocals, Value.category]; done)) ?_
  intro K C hh
  have e2 := natI_toInt (i := m) (by omega)
  refine Own.iloadN C d63_0 rfl ?_
  refine Own.aloadN C d63_1 rfl rfl ?_
  refine callS_ C (as := [(.ref b)]) (st := [(.int j)]) (hw _ (List.mem_of_getElem? (i := 276) rfl)) (hw _ (List.mem_of_getElem? (i := 277) rfl)) (hw _ (List.mem_of_getElem? (i := 22) rfl)) (hw _ (List.mem_of_getElem? (i := 278) rfl)) ⟨by decide, by decide⟩ pd__28_5bB_29I rfl (fun O => k_ulength hw hs hm A hv O) (fun _ q => nomatch q) rfl (dle rfl) (dle rfl) (dle rfl) (dle rfl) d63_2 rfl (fun v1 hp1 gs1 K1 Q1 => ?_)
  obtain ⟨rfl, rfl⟩ := Q1
  show Go _ K Z _ n0 _ _ 5 #[.val (.int j), .val (.ref b)] [(.int (natI m)), (.int j)] hp1 _ _ _
  refine callS_ C (as := [(.int j), (.int (natI m))]) (st := []) (hw _ (List.mem_of_getElem? (i := 307) rfl)) (hw _ (List.mem_of_getElem? (i := 308) rfl)) (hw _ (List.mem_of_getElem? (i := 7) rfl)) (hw _ (List.mem_of_getElem? (i := 309) rfl)) ⟨by decide, by decide⟩ pd__28II_29V rfl (fun O => k_ci hw hs (by rw [lt32, hj]; exact Int.not_lt.mpr (Int.natCast_nonneg _)) (by rw [lt32, hj, e2]; omega) O) (fun _ q => nomatch q) rfl (dle rfl) (dle rfl) (dle rfl) (dle rfl) d63_5 rfl (fun v2 hp2 gs2 K2 Q2 => ?_)
  obtain ⟨rfl, rfl⟩ := Q2
  show Go _ K Z _ n0 _ _ 8 #[.val (.int j), .val (.ref b)] [] hp2 _ _ _
  exact retV C (gs := []) d63_8 (dle rfl) (dle rfl) (fun _ q => nomatch q) ⟨rfl, rfl⟩
set_option maxRecDepth 65536 in
set_option maxHeartbeats 4000000 in
theorem k_nbl {Z : State} {a0 : Array Value} (hw : ∀ d ∈ tables_1, d.before a0 Z = true) (hs : Stt Z) {n0 : Nat} {h0 : Heap} {m : Nat} (hm : m ≤ 4096) (O : Old Z n0 h0) :
    Con WD Z EL0 n0 (⟨"java/lang/StringUTF16", "newBytesLength", "(I)I"⟩ : MethodName) jdk_52_method_3_code 1 (some .int) (Rm 0 0 0 0) [(.int (natI m))] h0 [] (fun v h gs => v = some (.int (natI (2 * m))) ∧ gs = []) := by
  refine Con.of (a0 := a0) (by first | (exact plainFor_of_name (by first | (simp [plainName, overriddenIn]; done) | decide +kernel)) | decide +kernel) (hEL hw) hWE O (L0 := #[.val (.int (natI m))]) (fun m => by first | rfl | (simp [entryFrame, mkF, argsToLocals, Value.category]; done)) ?_
  intro K C hh
  have e2 := natI_toInt (i := m) (by omega)
  have e1 := shl1 e2 (by omega)
  have e' : natI m <<< (1 &&& 31) = natI (2 * m) := i32e (by rw [e1, natI_toInt (by omega)])
  refine Own.iloadN C d49_0 rfl ?_
  refine if_ge C d49_1 (fun q1 => ?_) (fun q1 => ?_)
  · refine Own.iloadN C d49_12 rfl ?_
    refine Own.ldcI C (hw _ (List.mem_of_getElem? (i := 252) rfl)) d49_13 ?_
    refine icmp_lt C d49_15 (fun q2 => ?_) (fun q2 => ?_)
    · refine Own.iloadN C d49_55 rfl ?_
      refine Own.iconst (v := 1) C d49_56 rfl ?_
      refine Own.ishl C d49_57 ?_
      exact retI_ C (gs := []) d49_58 (dle rfl) (dle rfl) (fun _ q => nomatch q) ⟨by rw [e'], rfl⟩
    · exact absurd (by rw [lt32, e2]; have e : (1073741823 : Int32).toInt = 1073741823 := rfl; omega) q2
  · rw [lt32, e2] at q1
    have e0 : (0 : Int32).toInt = 0 := rfl
    omega
set_option maxRecDepth 65536 in
set_option maxHeartbeats 4000000 in
theorem k_nbf {Z : State} {a0 : Array Value} (hw : ∀ d ∈ tables_1, d.before a0 Z = true) (hs : Stt Z) {n0 : Nat} {h0 : Heap} {N m : Nat} (hm : m ≤ N ∧ N ≤ 4096) (O : Old Z n0 h0) :
    Con WD Z EL0 n0 (⟨"java/lang/StringUTF16", "newBytesFor", "(I)[B"⟩ : MethodName) jdk_52_method_2_code 1 (some (.array .byte)) (Rm 1 1 (0 + 2 * N) 12) [(.int (natI m))] h0 [] (fun v h gs => ∃ d : Addr, v = some (.ref d) ∧ gs = [d] ∧ h0.size ≤ d ∧ Ary Z h d .byte (List.replicate (2 * m) (.int 0))) := by
  refine Con.of (a0 := a0) (by first | (exact plainFor_of_name (by first | (simp [plainName, overriddenIn]; done) | decide +kernel)) | decide +kernel) (hEL hw) hWE O (L0 := #[.val (.int (natI m))]) (fun m => by first | rfl | (simp [entryFrame, mkF, argsToLocals, Value.category]; done)) ?_
  intro K C hh
  have e2 := natI_toInt (i := 2 * m) (by omega)
  have e3 : (natI (2 * m)).toNatClampNeg = 2 * m := natI_clamp (by omega)
  refine Own.iloadN C d48_0 rfl ?_
  refine callS_ C (as := [(.int (natI m))]) (st := []) (hw _ (List.mem_of_getElem? (i := 249) rfl)) (hw _ (List.mem_of_getElem? (i := 250) rfl)) (hw _ (List.mem_of_getElem? (i := 22) rfl)) (hw _ (List.mem_of_getElem? (i := 251) rfl)) ⟨by decide, by decide⟩ pd__28I_29I rfl (fun O => k_nbl hw hs (by omega) O) (fun _ q => nomatch q) rfl (dle rfl) (dle rfl) (dle rfl) (by omega) d48_1 rfl (fun v1 hp1 gs1 K1 Q1 => ?_)
  obtain ⟨rfl, rfl⟩ := Q1
  show Go _ K Z _ n0 _ _ 4 #[.val (.int (natI m))] [(.int (natI (2 * m)))] hp1 _ _ _
  refine newarr C (hw _ (List.mem_of_getElem? (i := 24) rfl)) (by rw [lt32, e2]; exact Int.not_lt.mpr (Int.natCast_nonneg _)) (2 * N) (by omega) (by omega) (dle rfl) (by omega) d48_4 (fun hp2 K2 lt2 le2 A2 => ?_)
  obtain ⟨a2, g2⟩ : ∃ z, z = hp1.size := ⟨_, rfl⟩
  rw [← g2] at A2 lt2 le2 ⊢
  rw [e3] at A2
  exact retA C (gs := [a2]) rfl rfl d48_6 (dle rfl) (by omega) (by simp) ⟨_, rfl, rfl, (by have := K1.1; omega), A2⟩
set_option maxRecDepth 65536 in
set_option maxHeartbeats 4000000 in
theorem k_putChar {Z : State} {a0 : Array Value} (hw : ∀ d ∈ tables_1, d.before a0 Z = true) (hs : Stt Z) {n0 : Nat} {h0 : Heap} {b : Addr} {vs : List Value} {j c : Int32} {i : Nat} (hi : 2 * i + 1 < vs.length) (hi' : i ≤ 8192) (A : Ary Z h0 b .byte vs) (hj : j.toInt = i) (O : Old Z n0 h0) :
    Con WD Z EL0 n0 (⟨"java/lang/StringUTF16", "putChar", "([BII)V"⟩ : MethodName) jdk_52_method_4_code 3 none (Rm 0 0 0 0) [(.ref b), (.int j), (.int c)] h0 [b] (fun v h gs => v = none ∧ gs = [] ∧ Ary Z h b .byte ((vs.set (2 * i) (.int (nar .byte c))).set (2 * i + 1) (.int (nar .byte (c >>> 8))))) := by
  refine Con.of (a0 := a0) (by first | (exact plainFor_of_name (by first | (simp [plainName, overriddenIn]; done) | decide +kernel)) | decide +kernel) (hEL hw) hWE O (L0 := #[.val (.ref b), .val (.int j), .val (.int c)]) (fun m => by first | rfl | (simp [entryFrame, mkF, argsToLocals, Value.category]; done)) ?_
  intro K C hh
  have j1 := shl1 hj (by omega)
  have j2 : ((j <<< (1 &&& 31)) + 1).toInt = (2 * i + 1 : Nat) := by have a := c_iadd (j <<< (1 &&& 31)) 1; have r := rng32 ((j <<< (1 &&& 31)) + 1); have e : (1 : Int32).toInt = 1 := rfl; omega
  refine getS_ C (hw _ (List.mem_of_getElem? (i := 256) rfl)) (st_a hs) d50_0 ?_
  refine if_ne C d50_3 (fun q1 => ?_) (fun q1 => ?_)
  · refine Own.iloadN C d50_28 rfl ?_
    refine Own.iconst (v := 1) C d50_29 rfl ?_
    refine Own.ishl C d50_30 ?_
    refine Own.istoreN (L' := #[.val (.ref b), .val (.int (j <<< ((1 : Int32) &&& 31))), .val (.int c)]) C d50_31 rfl ?_
    refine Own.aloadN C d50_32 rfl rfl ?_
    refine Own.iloadN C d50_33 rfl ?_
    refine Own.iinc (L' := #[.val (.ref b), .val (.int ((j <<< ((1 : Int32) &&& 31)) + (1 : Int32))), .val (.int c)]) (y := ((j <<< ((1 : Int32) &&& 31)) + (1 : Int32))) C d50_34 rfl rfl rfl ?_
    refine Own.iloadN C d50_37 rfl ?_
    refine getS_ C (hw _ (List.mem_of_getElem? (i := 257) rfl)) (st_hi hs) d50_38 ?_
    refine Own.ishr C d50_41 ?_
    refine Own.i2b C d50_42 ?_
    refine bastore_ C A (2 * i) j1 (by omega) (by simp) d50_43 (fun hp2 W2 A2 => ?_)
    refine Own.aloadN C d50_44 rfl rfl ?_
    refine Own.iloadN C d50_45 rfl ?_
    refine Own.iloadN C d50_46 rfl ?_
    refine getS_ C (hw _ (List.mem_of_getElem? (i := 258) rfl)) (st_lo hs) d50_47 ?_
    refine Own.ishr C d50_50 ?_
    refine Own.i2b C d50_51 ?_
    refine bastore_ C A2 (2 * i + 1) j2 (by simp; omega) (by simp) d50_52 (fun hp3 W3 A3 => ?_)
    exact retV C (gs := []) d50_53 (dle rfl) (dle rfl) (fun _ q => nomatch q) ⟨rfl, rfl, by rw [shr0, narb_idem, narb_idem] at A3; exact A3⟩
  · exact absurd q1 (by decide)
set_option maxRecDepth 65536 in
set_option maxHeartbeats 4000000 in
theorem k_toBytes {Z : State} {a0 : Array Value} (hw : ∀ d ∈ tables_1, d.before a0 Z = true) (hs : Stt Z) {n0 : Nat} {h0 : Heap} {N : Nat} {a : Addr} {cs : List Int32} (hcs : ∀ c ∈ cs, isCh c) (hl : cs.length ≤ 4096) (hN : cs.length ≤ N ∧ N ≤ 4096) (A : Ary Z h0 a .char (chs cs)) (O : Old Z n0 h0) :
    Con WD Z EL0 n0 (⟨"java/lang/StringUTF16", "toBytes", "([CII)[B"⟩ : MethodName) jdk_52_method_14_code 5 (some (.array .byte)) (Rm 2 1 (0 + 2 * N) 24) [(.ref a), (.int (0 : Int32)), (.int (natI cs.length))] h0 [] (fun v h gs => gs = [] ∧ ∃ d : Addr, v = some (.ref d) ∧ h0.size ≤ d ∧ Ary Z h d .byte (utf cs)) := by
  refine Con.of (a0 := a0) (by first | (exact plainFor_of_name (by first | (simp [plainName, overriddenIn]; done) | decide +kernel)) | decide +kernel) (hEL hw) hWE O (L0 := #[.val (.ref a), .val (.int (0 : Int32)), .val (.int (natI cs.length)), .unset, .unset]) (fun m => by first | rfl | (simp [entryFrame, mkF, argsToLocals, Value.category]; done)) ?_
  intro K C hh
  have e2 := natI_toInt (i := cs.length) (by omega)
  have loop : ∀ (m i : Nat) (h : Heap) (d : Addr), i + m = cs.length → h0.size ≤ d → Ary Z h a .char (chs cs) → Ary Z h d .byte (utf (cs.take i) ++ List.replicate (2 * m) (.int 0)) → Go WD K Z EL0 n0 [] (fun v h gs => gs = [] ∧ ∃ d : Addr, v = some (.ref d) ∧ h0.size ≤ d ∧ Ary Z h d .byte (utf cs)) 8 #[.val (.ref a), .val (.int (natI i)), .val (.int (natI cs.length)), .val (.ref d), .val (.int (natI i))] [] h [d] (0 + 1) (0 + (0 + 2 * N)) := by
    intro m
    induction m with
    | zero =>
      intro i h d hm hd A B
      have e1 := natI_toInt (i := i) (by omega)
      refine Own.iload C d47_8 rfl ?_
      refine Own.iloadN C d47_10 rfl ?_
      refine icmp_ge C d47_11 (fun q1 => ?_) (fun q1 => ?_)
      · have h1 : i = cs.length := by omega
        subst h1
        refine Own.aloadN C d47_32 rfl rfl ?_
        exact retA C (gs := []) rfl rfl d47_33 (dle rfl) (by omega) (fun _ q => nomatch q) ⟨rfl, d, rfl, hd, by simpa using B⟩
      · rw [lt32] at q1
        omega
    | succ m ih =>
      intro i h d hm hd A B
      have e1 := natI_toInt (i := i) (by omega)
      refine Own.iload C d47_8 rfl ?_
      refine Own.iloadN C d47_10 rfl ?_
      refine icmp_ge C d47_11 (fun q2 => ?_) (fun q2 => ?_)
      · rw [lt32] at q2
        omega
      · obtain ⟨c, hc⟩ : ∃ c, cs[i]? = some c := ⟨_, List.getElem?_eq_getElem (by omega)⟩
        refine Own.aloadN C d47_14 rfl rfl ?_
        refine Own.iload C d47_15 rfl ?_
        refine Own.aloadN C d47_17 rfl rfl ?_
        refine Own.iloadN C d47_18 rfl ?_
        refine caload_ C (v := .int c) A i e1 (chs_at hc) d47_19 ?_
        refine callS_ C (as := [(.ref d), (.int (natI i)), (.int c)]) (st := []) (hw _ (List.mem_of_getElem? (i := 253) rfl)) (hw _ (List.mem_of_getElem? (i := 254) rfl)) (hw _ (List.mem_of_getElem? (i := 22) rfl)) (hw _ (List.mem_of_getElem? (i := 255) rfl)) ⟨by decide, by decide⟩ pd__28_5bBII_29V rfl (fun O => k_putChar hw hs (i := i) (by simp [utf_len]; omega) (by omega) B e1 O) (by simp) rfl (dle rfl) (dle rfl) (dle rfl) (by omega) d47_20 rfl (fun v3 hp3 gs3 K3 Q3 => ?_)
        obtain ⟨rfl, rfl, B3⟩ := Q3
        rw [utf_set hm hc] at B3
        show Go _ K Z _ n0 _ _ 23 #[.val (.ref a), .val (.int (natI i)), .val (.int (natI cs.length)), .val (.ref d), .val (.int (natI i))] [] hp3 _ _ _
        have e3 := natI_succ (i := i) (by omega)
        refine Own.iinc (L' := #[.val (.ref a), .val (.int (natI (i + 1))), .val (.int (natI cs.length)), .val (.ref d), .val (.int (natI i))]) (y := (natI (i + 1))) C d47_23 rfl e3 rfl ?_
        refine Own.iinc (L' := #[.val (.ref a), .val (.int (natI (i + 1))), .val (.int (natI cs.length)), .val (.ref d), .val (.int (natI (i + 1)))]) (y := (natI (i + 1))) C d47_26 rfl e3 rfl ?_
        refine Own.goto_ C d47_29 ?_
        exact ih (i + 1) hp3 d (by omega) hd (A.keep K3 (ninS (A.ne B (by decide)) nin0)) B3
  refine Own.iloadN C d47_0 rfl ?_
  refine callS_ C (as := [(.int (natI cs.length))]) (st := []) (hw _ (List.mem_of_getElem? (i := 246) rfl)) (hw _ (List.mem_of_getElem? (i := 247) rfl)) (hw _ (List.mem_of_getElem? (i := 22) rfl)) (hw _ (List.mem_of_getElem? (i := 248) rfl)) ⟨by decide, by decide⟩ pd__28I_29_5bB rfl (fun O => k_nbf (N := N) hw hs hN O) (fun _ q => nomatch q) rfl (dle rfl) (dle rfl) (dle rfl) (by omega) d47_1 rfl (fun v4 hp4 gs4 K4 Q4 => ?_)
  obtain ⟨d, rfl, rfl, hd, B4⟩ := Q4
  show Go _ K Z _ n0 _ _ 4 #[.val (.ref a), .val (.int (0 : Int32)), .val (.int (natI cs.length)), .unset, .unset] [(.ref d)] hp4 _ _ _
  refine Own.astoreN (L' := #[.val (.ref a), .val (.int (0 : Int32)), .val (.int (natI cs.length)), .val (.ref d), .unset]) C d47_4 rfl rfl ?_
  refine Own.iconst (v := 0) C d47_5 rfl ?_
  refine Own.istore (L' := #[.val (.ref a), .val (.int (0 : Int32)), .val (.int (natI cs.length)), .val (.ref d), .val (.int (0 : Int32))]) C d47_6 rfl ?_
  exact loop cs.length 0 hp4 d (by omega) hd (A.keep K4 nin0) (by simpa [utf] using B4)
set_option maxRecDepth 65536 in
set_option maxHeartbeats 4000000 in
theorem k_compress5 {Z : State} {a0 : Array Value} (hw : ∀ d ∈ tables_1, d.before a0 Z = true) (hs : Stt Z) {n0 : Nat} {h0 : Heap} {a b : Addr} {cs : List Int32} (hcs : ∀ c ∈ cs, isCh c) (hl : cs.length ≤ 4096) (A : Ary Z h0 a .char (chs cs)) (B : Ary Z h0 b .byte (List.replicate cs.length (.int 0))) (O : Old Z n0 h0) :
    Con WD Z EL0 n0 (⟨"java/lang/StringUTF16", "compress", "([CI[BII)I"⟩ : MethodName) jdk_52_method_21_code 7 (some .int) (Rm 0 0 0 0) [(.ref a), (.int (0 : Int32)), (.ref b), (.int (0 : Int32)), (.int (natI cs.length))] h0 [b] (fun v h gs => v = some (.int (natI (pfx cs))) ∧ gs = [] ∧ Ary Z h b .byte (lat (cs.take (pfx cs)) ++ List.replicate (cs.length - pfx cs) (.int 0))) := by
  refine Con.of (a0 := a0) (by first | (exact plainFor_of_name (by first | (simp [plainName, overriddenIn]; done) | decide +kernel)) | decide +kernel) (hEL hw) hWE O (L0 := #[.val (.ref a), .val (.int (0 : Int32)), .val (.ref b), .val (.int (0 : Int32)), .val (.int (natI cs.length)), .unset, .unset]) (fun m => by first | rfl | (simp [entryFrame, mkF, argsToLocals, Value.category]; done)) ?_
  intro K C hh
  have loop : ∀ (m i : Nat) (h : Heap) (s6 : Slot), i + m = cs.length → (∀ c ∈ cs.take i, c.toInt < 256) → (s6 = .unset ∨ ∃ w, s6 = .val w ∧ w.category = 1) → Ary Z h a .char (chs cs) → Ary Z h b .byte (lat (cs.take i) ++ List.replicate m (.int 0)) → Go WD K Z EL0 n0 [b] (fun v h gs => v = some (.int (natI (pfx cs))) ∧ gs = [] ∧ Ary Z h b .byte (lat (cs.take (pfx cs)) ++ List.replicate (cs.length - pfx cs) (.int 0))) 3 #[.val (.ref a), .val (.int (natI i)), .val (.ref b), .val (.int (natI i)), .val (.int (natI cs.length)), .val (.int (natI i)), s6] [] h [b] 0 0 := by
    intro m
    induction m with
    | zero =>
      intro i h s6 hm hp hs6 A B
      have e1 := natI_toInt (i := i) (by omega)
      have e2 := natI_toInt (i := cs.length) (by omega)
      refine Own.iload C d5_3 rfl ?_
      refine Own.iload C d5_5 rfl ?_
      refine icmp_ge C d5_7 (fun q1 => ?_) (fun q1 => ?_)
      · refine Own.iload C d5_44 rfl ?_
        have hi : i = cs.length := by omega
        subst hi
        rw [List.take_length] at hp B
        have hq := pfx_all hp
        exact retI_ C (gs := []) d5_46 (dle rfl) (dle rfl) (fun _ q => nomatch q) ⟨by rw [hq], rfl, by rw [hq, List.take_length, Nat.sub_self]; exact B⟩
      · rw [lt32] at q1
        omega
    | succ m ih =>
      intro i h s6 hm hp hs6 A B
      have e1 := natI_toInt (i := i) (by omega)
      have e2 := natI_toInt (i := cs.length) (by omega)
      refine Own.iload C d5_3 rfl ?_
      refine Own.iload C d5_5 rfl ?_
      refine icmp_ge C d5_7 (fun q2 => ?_) (fun q2 => ?_)
      · rw [lt32] at q2
        omega
      · obtain ⟨c, hc⟩ : ∃ c, cs[i]? = some c := ⟨_, List.getElem?_eq_getElem (by omega)⟩
        have hch := hcs c (List.mem_of_getElem? hc)
        refine Own.aloadN C d5_10 rfl rfl ?_
        refine Own.iloadN C d5_11 rfl ?_
        refine caload_ C (v := .int c) A i e1 (chs_at hc) d5_12 ?_
        refine Own.istore (L' := #[.val (.ref a), .val (.int (natI i)), .val (.ref b), .val (.int (natI i)), .val (.int (natI cs.length)), .val (.int (natI i)), .val (.int c)]) C d5_13 (st1 rfl hs6 rfl rfl) ?_
        refine Own.iload C d5_15 rfl ?_
        refine Own.sipush (v := 255) C d5_17 rfl ?_
        refine icmp_le C d5_20 (fun q3 => ?_) (fun q3 => ?_)
        · have hlt : c.toInt < 256 := by have e : (255 : Int32).toInt = 255 := rfl; rw [lt32] at q3; omega
          refine Own.aloadN C d5_26 rfl rfl ?_
          refine Own.iloadN C d5_27 rfl ?_
          refine Own.iload C d5_28 rfl ?_
          refine Own.i2b C d5_30 ?_
          refine bastore_ C B i e1 (by simp [lat_len]; omega) (by simp) d5_31 (fun hp4 W4 A4 => ?_)
          rw [lat_set hm hc] at A4
          have e3 := natI_succ (i := i) (by omega)
          refine Own.iinc (L' := #[.val (.ref a), .val (.int (natI (i + 1))), .val (.ref b), .val (.int (natI i)), .val (.int (natI cs.length)), .val (.int (natI i)), .val (.int c)]) (y := (natI (i + 1))) C d5_32 rfl e3 rfl ?_
          refine Own.iinc (L' := #[.val (.ref a), .val (.int (natI (i + 1))), .val (.ref b), .val (.int (natI (i + 1))), .val (.int (natI cs.length)), .val (.int (natI i)), .val (.int c)]) (y := (natI (i + 1))) C d5_35 rfl e3 rfl ?_
          refine Own.iinc (L' := #[.val (.ref a), .val (.int (natI (i + 1))), .val (.ref b), .val (.int (natI (i + 1))), .val (.int (natI cs.length)), .val (.int (natI (i + 1))), .val (.int c)]) (y := (natI (i + 1))) C d5_38 rfl e3 rfl ?_
          refine Own.goto_ C d5_41 ?_
          exact ih (i + 1) hp4 _ (by omega) (take_lt hp hc hlt) (Or.inr ⟨_, rfl, rfl⟩) (A.other W4 (A.ne B (by decide))) A4
        · have hge : 256 ≤ c.toInt := by have e : (255 : Int32).toInt = 255 := rfl; rw [lt32] at q3; omega
          refine Own.iload C d5_23 rfl ?_
          have hq := pfx_at hp hc hge
          exact retI_ C (gs := []) d5_25 (dle rfl) (dle rfl) (fun _ q => nomatch q) ⟨by rw [hq], rfl, by rw [hq, show cs.length - i = m + 1 by omega]; exact B⟩
  refine Own.iconst (v := 0) C d5_0 rfl ?_
  refine Own.istore (L' := #[.val (.ref a), .val (.int (0 : Int32)), .val (.ref b), .val (.int (0 : Int32)), .val (.int (natI cs.length)), .val (.int (0 : Int32)), .unset]) C d5_1 rfl ?_
  exact loop cs.length 0 h0 .unset (by omega) (by simp) (Or.inl rfl) A (by simpa [lat] using B)
set_option maxRecDepth 65536 in
set_option maxHeartbeats 4000000 in
theorem k_compress3 {Z : State} {a0 : Array Value} (hw : ∀ d ∈ tables_1, d.before a0 Z = true) (hs : Stt Z) {n0 : Nat} {h0 : Heap} {N : Nat} {a : Addr} {cs : List Int32} (hcs : ∀ c ∈ cs, isCh c) (hl : cs.length ≤ 4096) (hN : cs.length ≤ N ∧ N ≤ 4096) (A : Ary Z h0 a .char (chs cs)) (O : Old Z n0 h0) :
    Con WD Z EL0 n0 (⟨"java/lang/StringUTF16", "compress", "([CII)[B"⟩ : MethodName) jdk_52_method_16_code 6 (some (.array .byte)) (Rm 3 2 (0 + 3 * N) 40) [(.ref a), (.int (0 : Int32)), (.int (natI cs.length))] h0 [] (fun v h gs => gs = [] ∧ ∃ (b : Addr) (z : Int32) (vs : List Value), v = some (.ref b) ∧ h0.size ≤ b ∧ Ary Z h b .byte vs ∧ Byt cs z vs) := by
  refine Con.of (a0 := a0) (by first | (exact plainFor_of_name (by first | (simp [plainName, overriddenIn]; done) | decide +kernel)) | decide +kernel) (hEL hw) hWE O (L0 := #[.val (.ref a), .val (.int (0 : Int32)), .val (.int (natI cs.length)), .unset, .unset, .unset]) (fun m => by first | rfl | (simp [entryFrame, mkF, argsToLocals, Value.category]; done)) ?_
  intro K C hh
  have e2 := natI_toInt (i := cs.length) (by omega)
  have e3 : (natI cs.length).toNatClampNeg = cs.length := natI_clamp (by omega)
  refine Own.iloadN C d4_0 rfl ?_
  refine newarr C (hw _ (List.mem_of_getElem? (i := 24) rfl)) (by rw [lt32, e2]; exact Int.not_lt.mpr (Int.natCast_nonneg _)) N (by omega) (by omega) (dle rfl) (by omega) d4_1 (fun hp1 K1 lt1 le1 A1 => ?_)
  obtain ⟨b, g1⟩ : ∃ z, z = h0.size := ⟨_, rfl⟩
  rw [← g1] at A1 lt1 le1 ⊢
  rw [e3] at A1
  have A' := A.keep K1 nin0
  refine Own.astoreN (L' := #[.val (.ref a), .val (.int (0 : Int32)), .val (.int (natI cs.length)), .val (.ref b), .unset, .unset]) C d4_3 rfl rfl ?_
  refine Own.aloadN C d4_4 rfl rfl ?_
  refine Own.iloadN C d4_5 rfl ?_
  refine Own.aloadN C d4_6 rfl rfl ?_
  refine Own.iconst (v := 0) C d4_7 rfl ?_
  refine Own.iloadN C d4_8 rfl ?_
  refine callS_ C (as := [(.ref a), (.int (0 : Int32)), (.ref b), (.int (0 : Int32)), (.int (natI cs.length))]) (st := []) (hw _ (List.mem_of_getElem? (i := 25) rfl)) (hw _ (List.mem_of_getElem? (i := 26) rfl)) (hw _ (List.mem_of_getElem? (i := 22) rfl)) (hw _ (List.mem_of_getElem? (i := 27) rfl)) ⟨by decide, by decide⟩ pd__28_5bCI_5bBII_29I rfl (fun O => k_compress5 hw hs hcs hl A' A1 O) (by simp) rfl (dle rfl) (dle rfl) (dle rfl) (by omega) d4_9 rfl (fun v2 hp2 gs2 K2 Q2 => ?_)
  obtain ⟨rfl, rfl, B2⟩ := Q2
  show Go _ K Z _ n0 _ _ 12 #[.val (.ref a), .val (.int (0 : Int32)), .val (.int (natI cs.length)), .val (.ref b), .unset, .unset] [(.int (natI (pfx cs)))] hp2 _ _ _
  refine Own.istore (L' := #[.val (.ref a), .val (.int (0 : Int32)), .val (.int (natI cs.length)), .val (.ref b), .val (.int (natI (pfx cs))), .unset]) C d4_12 rfl ?_
  refine Own.iload C d4_14 rfl ?_
  refine Own.iloadN C d4_16 rfl ?_
  refine icmp_eq C d4_17 (fun q3 => ?_) (fun q3 => ?_)
  · have hp : pfx cs = cs.length := by have e4 := natI_toInt (i := pfx cs) (by have := pfx_le cs; omega); have e5 := congrArg Int32.toInt q3; omega
    rw [hp, List.take_length, Nat.sub_self] at B2
    refine Own.aloadN C d4_57 rfl rfl ?_
    exact retA C (gs := []) rfl rfl d4_58 (dle rfl) (by omega) (fun _ q => nomatch q) ⟨rfl, b, 0, lat cs, rfl, by omega, by simpa using B2, Or.inl ⟨pfx_full hp, rfl, rfl⟩⟩
  · have hp : pfx cs < cs.length := by have := pfx_le cs; rcases Nat.lt_or_ge (pfx cs) cs.length with z | z; exact z; exact absurd (by rw [Nat.le_antisymm this z]) q3
    obtain ⟨c, hc, hge⟩ := pfx_next hp
    have A2 := A'.keep K2 (ninS (A'.ne A1 (by decide)) nin0)
    refine Own.aloadN C d4_20 rfl rfl ?_
    refine Own.iloadN C d4_21 rfl ?_
    refine Own.iloadN C d4_22 rfl ?_
    refine callS_ C (as := [(.ref a), (.int (0 : Int32)), (.int (natI cs.length))]) (st := []) (hw _ (List.mem_of_getElem? (i := 243) rfl)) (hw _ (List.mem_of_getElem? (i := 244) rfl)) (hw _ (List.mem_of_getElem? (i := 22) rfl)) (hw _ (List.mem_of_getElem? (i := 245) rfl)) ⟨by decide, by decide⟩ pd__28_5bCII_29_5bB rfl (fun O => k_toBytes (N := N) hw hs hcs hl hN A2 O) (fun _ q => nomatch q) rfl (dle rfl) (dle rfl) (dle rfl) (by omega) d4_23 rfl (fun v4 hp4 gs4 K4 Q4 => ?_)
    obtain ⟨rfl, d, rfl, hd, B4⟩ := Q4
    show Go _ K Z _ n0 _ _ 26 #[.val (.ref a), .val (.int (0 : Int32)), .val (.int (natI cs.length)), .val (.ref b), .val (.int (natI (pfx cs))), .unset] [(.ref d)] hp4 _ _ _
    refine Own.astore (L' := #[.val (.ref a), .val (.int (0 : Int32)), .val (.int (natI cs.length)), .val (.ref b), .val (.int (natI (pfx cs))), .val (.ref d)]) C d4_26 rfl rfl ?_
    refine Own.aload C d4_28 rfl rfl ?_
    refine Own.iload C d4_30 rfl ?_
    refine callS_ C (as := [(.ref d), (.int (natI (pfx cs)))]) (st := []) (hw _ (List.mem_of_getElem? (i := 259) rfl)) (hw _ (List.mem_of_getElem? (i := 260) rfl)) (hw _ (List.mem_of_getElem? (i := 22) rfl)) (hw _ (List.mem_of_getElem? (i := 261) rfl)) ⟨by decide, by decide⟩ pd__28_5bBI_29C rfl (fun O => k_getChar hw hs hcs hl B4 (natI_toInt (by omega)) hc O) (fun _ q => nomatch q) rfl (dle rfl) (dle rfl) (dle rfl) (by omega) d4_32 rfl (fun v5 hp5 gs5 K5 Q5 => ?_)
    obtain ⟨rfl, rfl⟩ := Q5
    show Go _ K Z _ n0 _ _ 35 #[.val (.ref a), .val (.int (0 : Int32)), .val (.int (natI cs.length)), .val (.ref b), .val (.int (natI (pfx cs))), .val (.ref d)] [(.int c)] hp5 _ _ _
    refine Own.sipush (v := 255) C d4_35 rfl ?_
    refine icmp_gt C d4_38 (fun q6 => ?_) (fun q6 => ?_)
    · refine Own.aload C d4_54 rfl rfl ?_
      exact retA C (gs := []) rfl rfl d4_56 (dle rfl) (by omega) (fun _ q => nomatch q) ⟨rfl, d, 1, utf cs, rfl, (by have := K1.1; have := K2.1; omega), B4.keep K5 nin0, Or.inr ⟨⟨c, List.mem_of_getElem? hc, hge⟩, rfl, rfl⟩⟩
    · have e : (255 : Int32).toInt = 255 := rfl
      rw [lt32] at q6
      omega
set_option maxRecDepth 65536 in
set_option maxHeartbeats 4000000 in
theorem k_coder {Z : State} {a0 : Array Value} (hw : ∀ d ∈ tables_1, d.before a0 Z = true) (hs : Stt Z) {n0 : Nat} {h0 : Heap} {b : Addr} {cs : List Int32} {z : Int32} {vs : List Value} (h1 : 1 ≤ cs.length) (hl : cs.length ≤ 4096) (A : Ary Z h0 b .byte vs) (B : Byt cs z vs) (O : Old Z n0 h0) :
    Con WD Z EL0 n0 (⟨"java/lang/StringUTF16", "coderFromArrayLen", "([BI)B"⟩ : MethodName) jdk_52_method_15_code 2 (some .byte) (Rm 0 0 0 0) [(.ref b), (.int (natI cs.length))] h0 [] (fun v h gs => v = some (.int z) ∧ gs = []) := by
  refine Con.of (a0 := a0) (by first | (exact plainFor_of_name (by first | (simp [plainName, overriddenIn]; done) | decide +kernel)) | decide +kernel) (hEL hw) hWE O (L0 := #[.val (.ref b), .val (.int (natI cs.length))]) (fun m => by first | rfl | (simp [entryFrame, mkF, argsToLocals, Value.category]; done)) ?_
  intro K C hh
  obtain ⟨y, hy⟩ : ∃ y : Int32, y.toInt = vs.length := ⟨natI vs.length, natI_toInt (Byt.len_lt B hl)⟩
  refine Own.iloadN C d6_0 rfl ?_
  refine Own.aloadN C d6_1 rfl rfl ?_
  refine arrlen C A (z := y) hy d6_2 ?_
  refine Own.isub C d6_3 ?_
  refine Own.bipush (v := 31) C d6_4 rfl ?_
  refine Own.iushr C d6_6 ?_
  refine Own.i2b C d6_7 ?_
  exact retB C (gs := []) d6_8 (dle rfl) (dle rfl) (fun _ q => nomatch q) ⟨by rw [Byt.coder B h1 hl hy], rfl⟩
set_option maxRecDepth 65536 in
set_option maxHeartbeats 4000000 in
theorem k_init4 {Z : State} {a0 : Array Value} (hw : ∀ d ∈ tables_1, d.before a0 Z = true) (hs : Stt Z) {n0 : Nat} {h0 : Heap} {N : Nat} {a b0 : Addr} {cs : List Int32} {u1 u2 : Value} (hcs : ∀ c ∈ cs, isCh c) (hl : cs.length ≤ 4096) (hN : cs.length ≤ N ∧ N ≤ 4096) (h1 : 1 ≤ cs.length) (A : Ary Z h0 b0 .char (chs cs)) (E : Exa Z h0 a "java/lang/String") (Fv : Fld Z h0 a "java/lang/String" "value" "[B" u1) (Fc : Fld Z h0 a "java/lang/String" "coder" "B" u2) (O : Old Z n0 h0) :
    Con WD Z EL0 n0 (⟨"java/lang/String", "<init>", "([CIILjava/lang/Void;)V"⟩ : MethodName) jdk_42_method_149_code 6 none (Rm 4 2 (0 + 3 * N) 57) [(.ref a), (.ref b0), (.int (0 : Int32)), (.int (natI cs.length)), .null] h0 [a] (fun v h gs => v = none ∧ gs = [] ∧ Str Z h a cs) := by
  refine Con.of (a0 := a0) (by first | (exact plainFor_of_name (by first | (simp [plainName, overriddenIn]; done) | decide +kernel)) | decide +kernel) (hEL hw) hWE O (L0 := #[.val (.ref a), .val (.ref b0), .val (.int (0 : Int32)), .val (.int (natI cs.length)), .val .null, .unset]) (fun m => by first | rfl | (simp [entryFrame, mkF, argsToLocals, Value.category]; done)) ?_
  intro K C hh
  have e2 := natI_toInt (i := cs.length) (by omega)
  obtain ⟨cv, hcv, Sc⟩ := st_c hs
  refine Own.aloadN C d2_0 rfl rfl ?_
  refine initO_ C (hw _ (List.mem_of_getElem? (i := 16) rfl)) (hw _ (List.mem_of_getElem? (i := 17) rfl)) (hw _ (List.mem_of_getElem? (i := 18) rfl)) rfl (dle rfl) (dle rfl) d2_1 ?_
  refine Own.iloadN C d2_4 rfl ?_
  refine if_ne C d2_5 (fun q1 => ?_) (fun q1 => ?_)
  · have h1 : 1 ≤ cs.length := by rcases Nat.eq_zero_or_pos cs.length with z | z; exact absurd (by rw [z]; rfl) q1; exact z
    refine getS_ C (hw _ (List.mem_of_getElem? (i := 19) rfl)) Sc d2_27 ?_
    refine if_eq C d2_30 (fun q2 => ?_) (fun q2 => ?_)
    · exact absurd q2 hcv
    · refine Own.aloadN C d2_33 rfl rfl ?_
      refine Own.iloadN C d2_34 rfl ?_
      refine Own.iloadN C d2_35 rfl ?_
      refine callS_ C (as := [(.ref b0), (.int (0 : Int32)), (.int (natI cs.length))]) (st := []) (hw _ (List.mem_of_getElem? (i := 20) rfl)) (hw _ (List.mem_of_getElem? (i := 21) rfl)) (hw _ (List.mem_of_getElem? (i := 22) rfl)) (hw _ (List.mem_of_getElem? (i := 23) rfl)) ⟨by decide, by decide⟩ pd__28_5bCII_29_5bB rfl (fun O => k_compress3 (N := N) hw hs hcs hl hN A O) (fun _ q => nomatch q) rfl (dle rfl) (dle rfl) (dle rfl) (by omega) d2_36 rfl (fun v3 hp3 gs3 K3 Q3 => ?_)
      obtain ⟨rfl, b, z, vs, rfl, hb, B, hB⟩ := Q3
      show Go _ K Z _ n0 _ _ 39 #[.val (.ref a), .val (.ref b0), .val (.int (0 : Int32)), .val (.int (natI cs.length)), .val .null, .unset] [(.ref b)] hp3 _ _ _
      refine Own.astore (L' := #[.val (.ref a), .val (.ref b0), .val (.int (0 : Int32)), .val (.int (natI cs.length)), .val .null, .val (.ref b)]) C d2_39 rfl rfl ?_
      refine Own.aloadN C d2_41 rfl rfl ?_
      refine Own.aload C d2_42 rfl rfl ?_
      refine Own.iloadN C d2_44 rfl ?_
      refine callS_ C (as := [(.ref b), (.int (natI cs.length))]) (st := [(.ref a)]) (hw _ (List.mem_of_getElem? (i := 28) rfl)) (hw _ (List.mem_of_getElem? (i := 29) rfl)) (hw _ (List.mem_of_getElem? (i := 22) rfl)) (hw _ (List.mem_of_getElem? (i := 30) rfl)) ⟨by decide, by decide⟩ pd__28_5bBI_29B rfl (fun O => k_coder hw hs h1 hl B hB O) (fun _ q => nomatch q) rfl (dle rfl) (dle rfl) (dle rfl) (by omega) d2_45 rfl (fun v4 hp4 gs4 K4 Q4 => ?_)
      obtain ⟨rfl, rfl⟩ := Q4
      show Go _ K Z _ n0 _ _ 48 #[.val (.ref a), .val (.ref b0), .val (.int (0 : Int32)), .val (.int (natI cs.length)), .val .null, .val (.ref b)] [(.int z), (.ref a)] hp4 _ _ _
      have K1 := K3.trans K4 (fun _ q => nomatch q)
      have E1 := E.keep K1
      have C1 := Fc.keep K1 nin0
      have V1 := Fv.keep K1 nin0
      refine putF_ C (v' := .int z) (ty := .byte) (hw _ (List.mem_of_getElem? (i := 31) rfl)) C1 E1 (Or.inr ⟨(hw _ (List.mem_of_getElem? (i := 32) rfl)), rfl, rfl⟩) (hw _ (List.mem_of_getElem? (i := 6) rfl)) (by decide) (by rcases hB with ⟨-, rfl, -⟩ | ⟨-, rfl, -⟩ <;> rfl) (by rcases hB with ⟨-, rfl, -⟩ | ⟨-, rfl, -⟩ <;> rfl) (by simp) d2_48 (fun hp5 W6 => ?_)
      have hne := slot_ne (Or.inr (hw _ (List.mem_of_getElem? (i := 34) rfl)) : Laid Z a0 "java/lang/String" "java/lang/String" "value" "[B") (Or.inr (hw _ (List.mem_of_getElem? (i := 32) rfl)) : Laid Z a0 "java/lang/String" "java/lang/String" "coder" "B") (by decide) (t := .array .byte) (t' := .byte) (by decide) (by decide)
      have E2 := E1.wr W6
      have C2 := C1.same W6
      have V2 := V1.other W6 (Or.inr hne)
      have B2 := (B.keep K4 nin0).other W6 ((B.keep K4 nin0).neX E1 (hw _ (List.mem_of_getElem? (i := 6) rfl)))
      refine Own.aloadN C d2_51 rfl rfl ?_
      refine Own.aload C d2_52 rfl rfl ?_
      refine putF_ C (v' := .ref b) (ty := (.array .byte)) (hw _ (List.mem_of_getElem? (i := 33) rfl)) V2 E2 (Or.inr ⟨(hw _ (List.mem_of_getElem? (i := 34) rfl)), rfl, rfl⟩) (hw _ (List.mem_of_getElem? (i := 6) rfl)) (by decide) rfl rfl (by simp) d2_54 (fun hp7 W8 => ?_)
      have E3 := E2.wr W8
      have V3 := V2.same W8
      have C3 := C2.other W8 (Or.inr hne.symm)
      have B3 := B2.other W8 (B2.neX E2 (hw _ (List.mem_of_getElem? (i := 6) rfl)))
      exact retV C (gs := []) d2_57 (dle rfl) (by omega) (fun _ q => nomatch q) ⟨rfl, rfl, E3, hcs, hl, b, z, vs, V3, C3, B3, hB⟩
  · exact absurd q1 (fun z => by have := congrArg Int32.toInt z; rw [e2] at this; have e0 : (0 : Int32).toInt = 0 := rfl; omega)
set_option maxRecDepth 65536 in
set_option maxHeartbeats 4000000 in
theorem k_init {Z : State} {a0 : Array Value} (hw : ∀ d ∈ tables_1, d.before a0 Z = true) (hs : Stt Z) {n0 : Nat} {h0 : Heap} {N : Nat} {a b0 : Addr} {cs : List Int32} {u1 u2 : Value} (hcs : ∀ c ∈ cs, isCh c) (hl : cs.length ≤ 4096) (hN : cs.length ≤ N ∧ N ≤ 4096) (h1 : 1 ≤ cs.length) (A : Ary Z h0 b0 .char (chs cs)) (E : Exa Z h0 a "java/lang/String") (Fv : Fld Z h0 a "java/lang/String" "value" "[B" u1) (Fc : Fld Z h0 a "java/lang/String" "coder" "B" u2) (O : Old Z n0 h0) :
    Con WD Z EL0 n0 (⟨"java/lang/String", "<init>", "([C)V"⟩ : MethodName) jdk_42_method_3_code 2 none (Rm 5 2 (0 + 3 * N) 74) [(.ref a), (.ref b0)] h0 [a] (fun v h gs => v = none ∧ gs = [] ∧ Str Z h a cs) := by
  refine Con.of (a0 := a0) (by first | (exact plainFor_of_name (by first | (simp [plainName, overriddenIn]; done) | decide +kernel)) | decide +kernel) (hEL hw) hWE O (L0 := #[.val (.ref a), .val (.ref b0)]) (fun m => by first | rfl | (simp [entryFrame, mkF, argsToLocals, Value.category]; done)) ?_
  intro K C hh
  have e2 := natI_toInt (i := cs.length) (by omega)
  refine Own.aloadN C d1_0 rfl rfl ?_
  refine Own.aloadN C d1_1 rfl rfl ?_
  refine Own.iconst (v := 0) C d1_2 rfl ?_
  refine Own.aloadN C d1_3 rfl rfl ?_
  refine arrlen C A (z := (natI cs.length)) (by rw [e2, chs_len]) d1_4 ?_
  refine Own.aconstNull C d1_5 ?_
  refine callI_ C (as' := [(.ref b0), (.int (0 : Int32)), (.int (natI cs.length)), .null]) (st := []) rfl (hw _ (List.mem_of_getElem? (i := 12) rfl)) (hw _ (List.mem_of_getElem? (i := 13) rfl)) (hw _ (List.mem_of_getElem? (i := 7) rfl)) (hw _ (List.mem_of_getElem? (i := 15) rfl)) ⟨by decide, by decide⟩ pd__28_5bCIILjava_2flang_2fVoid_3b_29V rfl (fun O => k_init4 (N := N) hw hs hcs hl hN h1 A E Fv Fc O) (by simp) rfl (dle rfl) (dle rfl) (dle rfl) (by omega) d1_6 rfl (fun v1 hp1 gs1 K1 Q1 => ?_)
  obtain ⟨rfl, rfl, S1⟩ := Q1
  show Go _ K Z _ n0 _ _ 9 #[.val (.ref a), .val (.ref b0)] [] hp1 _ _ _
  exact retV C (gs := []) d1_9 (dle rfl) (by omega) (fun _ q => nomatch q) ⟨rfl, rfl, S1⟩
set_option maxRecDepth 65536 in
set_option maxHeartbeats 4000000 in
theorem k_latequals {Z : State} {a0 : Array Value} (hw : ∀ d ∈ tables_1, d.before a0 Z = true) (hs : Stt Z) {n0 : Nat} {h0 : Heap} {a b : Addr} {xs ys : List Int32} (hlx : xs.length ≤ 8192) (hly : ys.length ≤ 8192) (A : Ary Z h0 a .byte (xs.map Value.int)) (B : Ary Z h0 b .byte (ys.map Value.int)) (O : Old Z n0 h0) :
    Con WD Z EL0 n0 (⟨"java/lang/StringLatin1", "equals", "([B[B)Z"⟩ : MethodName) jdk_43_method_13_code 3 (some .boolean) (Rm 0 0 0 0) [(.ref a), (.ref b)] h0 [] (fun v h gs => v = some (.int (if xs = ys then 1 else 0)) ∧ gs = []) := by
  refine Con.of (a0 := a0) (by first | (exact plainFor_of_name (by first | (simp [plainName, overriddenIn]; done) | decide +kernel)) | decide +kernel) (hEL hw) hWE O (L0 := #[.val (.ref a), .val (.ref b), .unset]) (fun m => by first | rfl | (simp [entryFrame, mkF, argsToLocals, Value.category]; done)) ?_
  intro K C hh
  have hx : ((xs.map Value.int).length : Nat) = xs.length := by simp
  have hy : ((ys.map Value.int).length : Nat) = ys.length := by simp
  have ex := natI_toInt (i := xs.length) (by omega)
  have ey := natI_toInt (i := ys.length) (by omega)
  have loop : ∀ (m i : Nat), i + m = xs.length → xs.length = ys.length → xs.take i = ys.take i → Go WD K Z EL0 n0 [] (fun v h gs => v = some (.int (if xs = ys then 1 else 0)) ∧ gs = []) 9 #[.val (.ref a), .val (.ref b), .val (.int (natI i))] [] h0 [] 0 0 := by
    intro m
    induction m with
    | zero =>
      intro i hm hlen ht
      have ei := natI_toInt (i := i) (by omega)
      refine Own.iloadN C d45_9 rfl ?_
      refine Own.aloadN C d45_10 rfl rfl ?_
      refine arrlen C A (z := (natI xs.length)) (by rw [ex, hx]) d45_11 ?_
      refine icmp_ge C d45_12 (fun q1 => ?_) (fun q1 => ?_)
      · refine Own.iconst (v := 1) C d45_32 rfl ?_
        have e : xs = ys := by have h1 : i = xs.length := (by omega); subst h1; rw [List.take_length, hlen, List.take_length] at ht; exact ht
        exact retZ C (gs := []) d45_33 (dle rfl) (dle rfl) (fun _ q => nomatch q) ⟨by rw [if_pos e]; rfl, rfl⟩
      · rw [lt32] at q1
        omega
    | succ m ih =>
      intro i hm hlen ht
      have ei := natI_toInt (i := i) (by omega)
      refine Own.iloadN C d45_9 rfl ?_
      refine Own.aloadN C d45_10 rfl rfl ?_
      refine arrlen C A (z := (natI xs.length)) (by rw [ex, hx]) d45_11 ?_
      refine icmp_ge C d45_12 (fun q2 => ?_) (fun q2 => ?_)
      · rw [lt32] at q2
        omega
      · obtain ⟨c, hc⟩ : ∃ c, xs[i]? = some c := ⟨_, List.getElem?_eq_getElem (by omega)⟩
        obtain ⟨d, hd⟩ : ∃ c, ys[i]? = some c := ⟨_, List.getElem?_eq_getElem (by omega)⟩
        refine Own.aloadN C d45_15 rfl rfl ?_
        refine Own.iloadN C d45_16 rfl ?_
        refine baload_ C (v := .int c) A i ei (by simp [hc]) d45_17 ?_
        refine Own.aloadN C d45_18 rfl rfl ?_
        refine Own.iloadN C d45_19 rfl ?_
        refine baload_ C (v := .int d) B i ei (by simp [hd]) d45_20 ?_
        refine icmp_eq C d45_21 (fun q3 => ?_) (fun q3 => ?_)
        · have e3 := natI_succ (i := i) (by omega)
          refine Own.iinc (L' := #[.val (.ref a), .val (.ref b), .val (.int (natI (i + 1)))]) (y := (natI (i + 1))) C d45_26 rfl e3 rfl ?_
          refine Own.goto_ C d45_29 ?_
          exact ih (i + 1) (by omega) hlen (by rw [List.take_add_one, List.take_add_one, hc, hd, ht, q3])
        · refine Own.iconst (v := 0) C d45_24 rfl ?_
          have e : ¬ xs = ys := fun z => q3 (by rw [z, hd] at hc; exact (Option.some.inj hc).symm)
          exact retZ C (gs := []) d45_25 (dle rfl) (dle rfl) (fun _ q => nomatch q) ⟨by rw [if_neg e]; rfl, rfl⟩
  refine Own.aloadN C d45_0 rfl rfl ?_
  refine arrlen C A (z := (natI xs.length)) (by rw [ex, hx]) d45_1 ?_
  refine Own.aloadN C d45_2 rfl rfl ?_
  refine arrlen C B (z := (natI ys.length)) (by rw [ey, hy]) d45_3 ?_
  refine icmp_ne C d45_4 (fun q4 => ?_) (fun q4 => ?_)
  · refine Own.iconst (v := 0) C d45_34 rfl ?_
    have e : ¬ xs = ys := fun z => q4 (by rw [z])
    exact retZ C (gs := []) d45_35 (dle rfl) (dle rfl) (fun _ q => nomatch q) ⟨by rw [if_neg e]; rfl, rfl⟩
  · refine Own.iconst (v := 0) C d45_7 rfl ?_
    refine Own.istoreN (L' := #[.val (.ref a), .val (.ref b), .val (.int (0 : Int32))]) C d45_8 rfl ?_
    have hlen : xs.length = ys.length := by have := congrArg Int32.toInt q4; omega
    exact loop xs.length 0 (by omega) hlen rfl
set_option maxRecDepth 65536 in
set_option maxHeartbeats 4000000 in
theorem k_equals {Z : State} {a0 : Array Value} (hw : ∀ d ∈ tables_1, d.before a0 Z = true) (hs : Stt Z) {n0 : Nat} {h0 : Heap} {a a' : Addr} {cs cs' : List Int32} (F : Str Z h0 a cs) (G : Str Z h0 a' cs') (O : Old Z n0 h0) :
    Con WD Z EL0 n0 (⟨"java/lang/String", "equals", "(Ljava/lang/Object;)Z"⟩ : MethodName) jdk_42_method_66_code 3 (some .boolean) (Rm 1 0 0 14) [(.ref a), (.ref a')] h0 [] (fun v h gs => v = some (.int (if cs = cs' then 1 else 0)) ∧ gs = []) := by
  refine Con.of (a0 := a0) (by first | (exact plainFor_of_name (by first | (simp [plainName, overriddenIn]; done) | decide +kernel)) | decide +kernel) (hEL hw) hWE O (L0 := #[.val (.ref a), .val (.ref a'), .unset]) (fun m => by first | rfl | (simp [entryFrame, mkF, argsToLocals, Value.category]; done)) ?_
  intro K C hh
  obtain ⟨cv, hcv, Sc⟩ := st_c hs
  have F' := F
  have G' := G
  obtain ⟨E, hc1, hl1, b, z, vs, Fv, Fc, A, B⟩ := F
  obtain ⟨E', hc2, hl2, b', z', vs', Fv', Fc', A', B'⟩ := G
  obtain ⟨xs, hxs, hxl⟩ := Byt.ints B hl1
  obtain ⟨ys, hys, hyl⟩ := Byt.ints B' hl2
  subst hxs hys
  have hiff := Byt.iff hc1 hc2 B B'
  refine Own.aloadN C d43_0 rfl rfl ?_
  refine Own.aloadN C d43_1 rfl rfl ?_
  refine acmp_ne C rfl rfl d43_2 (fun q1 => ?_) (fun q1 => ?_)
  · refine Own.aloadN C d43_7 rfl rfl ?_
    refine instY_ C (hw _ (List.mem_of_getElem? (i := 234) rfl)) (Ins.self E') d43_8 ?_
    refine if_eq C d43_11 (fun q2 => ?_) (fun q2 => ?_)
    · exact absurd q2 (by decide)
    · refine Own.aloadN C d43_14 rfl rfl ?_
      refine cast_ C (hw _ (List.mem_of_getElem? (i := 234) rfl)) (Ins.self E') d43_15 ?_
      refine Own.astoreN (L' := #[.val (.ref a), .val (.ref a'), .val (.ref a')]) C d43_18 rfl rfl ?_
      refine getS_ C (hw _ (List.mem_of_getElem? (i := 19) rfl)) Sc d43_19 ?_
      refine if_eq C d43_22 (fun q3 => ?_) (fun q3 => ?_)
      · exact absurd q3 hcv
      · refine Own.aloadN C d43_25 rfl rfl ?_
        refine getF_ C (hw _ (List.mem_of_getElem? (i := 31) rfl)) Fc d43_26 ?_
        refine Own.aloadN C d43_29 rfl rfl ?_
        refine getF_ C (hw _ (List.mem_of_getElem? (i := 31) rfl)) Fc' d43_30 ?_
        refine icmp_ne C d43_33 (fun q4 => ?_) (fun q4 => ?_)
        · refine Own.iconst (v := 0) C d43_54 rfl ?_
          have e : ¬ cs = cs' := fun q => q4 (hiff.mpr q).1
          exact retZ C (gs := []) d43_55 (dle rfl) (dle rfl) (fun _ q => nomatch q) ⟨by rw [if_neg e]; rfl, rfl⟩
        · refine Own.aloadN C d43_36 rfl rfl ?_
          refine getF_ C (hw _ (List.mem_of_getElem? (i := 33) rfl)) Fv d43_37 ?_
          refine Own.aloadN C d43_40 rfl rfl ?_
          refine getF_ C (hw _ (List.mem_of_getElem? (i := 33) rfl)) Fv' d43_41 ?_
          refine callS_ C (as := [(.ref b), (.ref b')]) (st := []) (hw _ (List.mem_of_getElem? (i := 235) rfl)) (hw _ (List.mem_of_getElem? (i := 236) rfl)) (hw _ (List.mem_of_getElem? (i := 107) rfl)) (hw _ (List.mem_of_getElem? (i := 237) rfl)) ⟨by decide, by decide⟩ pd__28_5bB_5bB_29Z rfl (fun O => k_latequals hw hs hxl hyl A A' O) (fun _ q => nomatch q) rfl (dle rfl) (dle rfl) (dle rfl) (dle rfl) d43_44 rfl (fun v5 hp5 gs5 K5 Q5 => ?_)
          obtain ⟨rfl, rfl⟩ := Q5
          show Go _ K Z _ n0 _ _ 47 #[.val (.ref a), .val (.ref a'), .val (.ref a')] [(.int (if xs = ys then 1 else 0))] hp5 _ _ _
          refine if_eq C d43_47 (fun q6 => ?_) (fun q6 => ?_)
          · refine Own.iconst (v := 0) C d43_54 rfl ?_
            have e : ¬ cs = cs' := fun q => by have := (hiff.mpr q).2; have h3 : xs = ys := (List.map_inj_right (fun _ _ q => Value.int.inj q)).mp this; rw [if_pos h3] at q6; exact absurd q6 (by decide)
            exact retZ C (gs := []) d43_55 (dle rfl) (dle rfl) (fun _ q => nomatch q) ⟨by rw [if_neg e]; rfl, rfl⟩
          · refine Own.iconst (v := 1) C d43_50 rfl ?_
            refine Own.goto_ C d43_51 ?_
            have e : cs = cs' := by by_cases h3 : xs = ys; exact hiff.mp ⟨q4, by rw [h3]⟩; exact absurd (if_neg h3) q6
            exact retZ C (gs := []) d43_55 (dle rfl) (dle rfl) (fun _ q => nomatch q) ⟨by rw [if_pos e]; rfl, rfl⟩
  · have e : cs = cs' := by have := Value.ref.inj q1; subst this; exact F'.fn G'
    refine Own.iconst (v := 1) C d43_5 rfl ?_
    exact retZ C (gs := []) d43_6 (dle rfl) (dle rfl) (fun _ q => nomatch q) ⟨by rw [if_pos e]; rfl, rfl⟩
set_option maxRecDepth 65536 in
set_option maxHeartbeats 4000000 in
theorem k_equals0 {Z : State} {a0 : Array Value} (hw : ∀ d ∈ tables_1, d.before a0 Z = true) (hs : Stt Z) {n0 : Nat} {h0 : Heap} {a : Addr} (O : Old Z n0 h0) :
    Con WD Z EL0 n0 (⟨"java/lang/String", "equals", "(Ljava/lang/Object;)Z"⟩ : MethodName) jdk_42_method_66_code 3 (some .boolean) (Rm 0 0 0 0) [(.ref a), .null] h0 [] (fun v h gs => v = some (.int 0) ∧ gs = []) := by
  refine Con.of (a0 := a0) (by first | (exact plainFor_of_name (by first | (simp [plainName, overriddenIn]; done) | decide +kernel)) | decide +kernel) (hEL hw) hWE O (L0 := #[.val (.ref a), .val .null, .unset]) (fun m => by first | rfl | (simp [entryFrame, mkF, argsToLocals, Value.category]; done)) ?_
  intro K C hh
  refine Own.aloadN C d43_0 rfl rfl ?_
  refine Own.aloadN C d43_1 rfl rfl ?_
  refine acmp_ne C rfl rfl d43_2 (fun q1 => ?_) (fun q1 => ?_)
  · refine Own.aloadN C d43_7 rfl rfl ?_
    refine inst0_ C (hw _ (List.mem_of_getElem? (i := 234) rfl))  d43_8 ?_
    refine if_eq C d43_11 (fun q2 => ?_) (fun q2 => ?_)
    · refine Own.iconst (v := 0) C d43_54 rfl ?_
      exact retZ C (gs := []) d43_55 (dle rfl) (dle rfl) (fun _ q => nomatch q) ⟨rfl, rfl⟩
    · exact absurd rfl q2
  · cases q1
set_option maxRecDepth 65536 in
set_option maxHeartbeats 4000000 in
theorem k_scoder {Z : State} {a0 : Array Value} (hw : ∀ d ∈ tables_1, d.before a0 Z = true) (hs : Stt Z) {n0 : Nat} {h0 : Heap} {a : Addr} {z : Int32} (hz : nar .byte z = z) (Fc : Fld Z h0 a "java/lang/String" "coder" "B" (.int z)) (O : Old Z n0 h0) :
    Con WD Z EL0 n0 (⟨"java/lang/String", "coder", "()B"⟩ : MethodName) jdk_42_method_152_code 1 (some .byte) (Rm 0 0 0 0) [(.ref a)] h0 [] (fun v h gs => v = some (.int z) ∧ gs = []) := by
  refine Con.of (a0 := a0) (by first | (exact plainFor_of_name (by first | (simp [plainName, overriddenIn]; done) | decide +kernel)) | decide +kernel) (hEL hw) hWE O (L0 := #[.val (.ref a)]) (fun m => by first | rfl | (simp [entryFrame, mkF, argsToLocals, Value.category]; done)) ?_
  intro K C hh
  obtain ⟨cv, hcv, Sc⟩ := st_c hs
  refine getS_ C (hw _ (List.mem_of_getElem? (i := 19) rfl)) Sc d10_0 ?_
  refine if_eq C d10_3 (fun q1 => ?_) (fun q1 => ?_)
  · exact absurd q1 hcv
  · refine Own.aloadN C d10_6 rfl rfl ?_
    refine getF_ C (hw _ (List.mem_of_getElem? (i := 31) rfl)) Fc d10_7 ?_
    refine Own.goto_ C d10_10 ?_
    exact retB C (gs := []) d10_14 (dle rfl) (dle rfl) (fun _ q => nomatch q) ⟨by rw [hz], rfl⟩
set_option maxRecDepth 65536 in
set_option maxHeartbeats 4000000 in
theorem k_length {Z : State} {a0 : Array Value} (hw : ∀ d ∈ tables_1, d.before a0 Z = true) (hs : Stt Z) {n0 : Nat} {h0 : Heap} {a : Addr} {cs : List Int32} (F : Str Z h0 a cs) (O : Old Z n0 h0) :
    Con WD Z EL0 n0 (⟨"java/lang/String", "length", "()I"⟩ : MethodName) jdk_42_method_54_code 1 (some .int) (Rm 1 0 0 13) [(.ref a)] h0 [] (fun v h gs => v = some (.int (natI cs.length)) ∧ gs = []) := by
  refine Con.of (a0 := a0) (by first | (exact plainFor_of_name (by first | (simp [plainName, overriddenIn]; done) | decide +kernel)) | decide +kernel) (hEL hw) hWE O (L0 := #[.val (.ref a)]) (fun m => by first | rfl | (simp [entryFrame, mkF, argsToLocals, Value.category]; done)) ?_
  intro K C hh
  obtain ⟨E, hc1, hl1, b, z, vs, Fv, Fc, A, Bt⟩ := F
  obtain ⟨y, hy⟩ : ∃ y : Int32, y.toInt = vs.length := ⟨natI vs.length, natI_toInt (Byt.len_lt Bt hl1)⟩
  refine Own.aloadN C d9_0 rfl rfl ?_
  refine getF_ C (hw _ (List.mem_of_getElem? (i := 33) rfl)) Fv d9_1 ?_
  refine arrlen C A (z := y) hy d9_4 ?_
  refine Own.aloadN C d9_5 rfl rfl ?_
  refine callV_ C (as' := []) (st := [(.int y)]) (hw _ (List.mem_of_getElem? (i := 52) rfl)) (hw _ (List.mem_of_getElem? (i := 53) rfl)) (fun _ hZ => notFace_of_selects (args := #[]) (mvT hZ (hw _ (List.mem_of_getElem? (i := 55) rfl)))) (hw _ (List.mem_of_getElem? (i := 55) rfl)) (hw _ (List.mem_of_getElem? (i := 54) rfl)) (hw _ (List.mem_of_getElem? (i := 7) rfl)) (hw _ (List.mem_of_getElem? (i := 56) rfl)) ⟨by decide, by decide⟩ E pd__28_29B rfl (fun O => k_scoder hw hs Bt.nb Fc O) (fun _ q => nomatch q) rfl (dle rfl) (dle rfl) (dle rfl) (dle rfl) d9_6 rfl (fun v1 hp1 gs1 K1 Q1 => ?_)
  obtain ⟨rfl, rfl⟩ := Q1
  show Go _ K Z _ n0 _ _ 9 #[.val (.ref a)] [(.int z), (.int y)] hp1 _ _ _
  refine Own.ishr C d9_9 ?_
  exact retI_ C (gs := []) d9_10 (dle rfl) (dle rfl) (fun _ q => nomatch q) ⟨by rw [Bt.isr hl1 hy], rfl⟩
set_option maxRecDepth 65536 in
set_option maxHeartbeats 4000000 in
theorem k_mismatch1 {Z : State} {a0 : Array Value} (hw : ∀ d ∈ tables_1, d.before a0 Z = true) (hs : Stt Z) {n0 : Nat} {h0 : Heap} {a b : Addr} {vs : List Value} {x : Int32} {i : Nat} (hi : i ≤ 10000) (A : Ary Z h0 a .byte vs) (Bs : Ary Z h0 b .byte [.int x]) (hx : vs[i]? = some (.int x)) (O : Old Z n0 h0) :
    Con WD Z EL0 n0 (⟨"jdk/internal/util/ArraysSupport", "mismatch", "([BI[BII)I"⟩ : MethodName) jdk_48_method_14_code 8 (some .int) (Rm 0 0 0 0) [(.ref a), (.int (natI i)), (.ref b), (.int (0 : Int32)), (.int (1 : Int32))] h0 [] (fun v h gs => v = some (.int (-1)) ∧ gs = []) := by
  refine Con.of (a0 := a0) (by first | (exact plainFor_of_name (by first | (simp [plainName, overriddenIn]; done) | decide +kernel)) | decide +kernel) (hEL hw) hWE O (L0 := #[.val (.ref a), .val (.int (natI i)), .val (.ref b), .val (.int (0 : Int32)), .val (.int (1 : Int32)), .unset, .unset, .unset]) (fun m => by first | rfl | (simp [entryFrame, mkF, argsToLocals, Value.category]; done)) ?_
  intro K C hh
  have ei := natI_toInt (i := i) (by omega)
  have e0 : natI i + 0 = natI i := natI_plus (n := 0) (by omega)
  refine Own.iconst (v := 0) C d12_0 rfl ?_
  refine Own.istore (L' := #[.val (.ref a), .val (.int (natI i)), .val (.ref b), .val (.int (0 : Int32)), .val (.int (1 : Int32)), .val (.int (0 : Int32)), .unset, .unset]) C d12_1 rfl ?_
  refine Own.iload C d12_3 rfl ?_
  refine Own.bipush (v := 7) C d12_5 rfl ?_
  refine icmp_le C d12_7 (fun q1 => ?_) (fun q1 => ?_)
  · refine Own.iload C d12_70 rfl ?_
    refine Own.iload C d12_72 rfl ?_
    refine icmp_ge C d12_74 (fun q2 => ?_) (fun q2 => ?_)
    · exact absurd (by decide) q2
    · refine Own.aloadN C d12_77 rfl rfl ?_
      refine Own.iloadN C d12_78 rfl ?_
      refine Own.iload C d12_79 rfl ?_
      refine Own.iadd C d12_81 ?_
      rw [e0]
      show Go _ K Z _ n0 _ _ 82 #[.val (.ref a), .val (.int (natI i)), .val (.ref b), .val (.int (0 : Int32)), .val (.int (1 : Int32)), .val (.int (0 : Int32)), .unset, .unset] [(.int (natI i)), (.ref a)] h0 _ _ _
      refine baload_ C (v := .int x) A i ei hx d12_82 ?_
      refine Own.aloadN C d12_83 rfl rfl ?_
      refine Own.iloadN C d12_84 rfl ?_
      refine Own.iload C d12_85 rfl ?_
      refine Own.iadd C d12_87 ?_
      refine baload_ C (v := .int x) Bs 0 rfl rfl d12_88 ?_
      refine icmp_eq C d12_89 (fun q3 => ?_) (fun q3 => ?_)
      · refine Own.iinc (L' := #[.val (.ref a), .val (.int (natI i)), .val (.ref b), .val (.int (0 : Int32)), .val (.int (1 : Int32)), .val (.int ((0 : Int32) + (1 : Int32))), .unset, .unset]) (y := ((0 : Int32) + (1 : Int32))) C d12_95 rfl rfl rfl ?_
        refine Own.goto_ C d12_98 ?_
        refine Own.iload C d12_70 rfl ?_
        refine Own.iload C d12_72 rfl ?_
        refine icmp_ge C d12_74 (fun q4 => ?_) (fun q4 => ?_)
        · refine Own.iconst (v := -1) C d12_101 rfl ?_
          exact retI_ C (gs := []) d12_102 (dle rfl) (dle rfl) (fun _ q => nomatch q) ⟨rfl, rfl⟩
        · exact absurd q4 (by decide)
      · exact absurd rfl q3
  · exact absurd q1 (by decide)
theorem zadd (x : Int32) : 0 + x = x := i32e (by
  have a := c_iadd 0 x; have r := rng32 (0 + x); have r2 := rng32 x; have z : (0 : Int32).toInt = 0 := rfl; omega)
theorem subz (x : Int32) : x - 0 = x := i32e (by
  have a := c_isub x 0; have r := rng32 (x - 0); have r2 := rng32 x; have z : (0 : Int32).toInt = 0 := rfl; omega)
theorem el47 : lat [(47 : Int32)] = [.int 47] := by show [Value.int (nar .byte 47)] = _; rw [narb_id (by decide)]
theorem or_small : ∀ k : Fin 5, ¬ (((natI (k.val + 1) ||| (0 : Int32)) ||| natI k.val) < 0) := by decide
theorem set_app1 {xs r : List Value} {a v : Value} {n : Nat} (hn : n = xs.length) : (xs ++ a :: r).set n v = (xs ++ [v]) ++ r := by
  subst hn
  induction xs with
  | nil => rfl
  | cons x xs ih => simpa using ih
theorem over_all {ws us : List Value} {m : Nat} (hm : m = us.length) : over ws us 0 0 m = us ++ ws.drop m := by subst hm; unfold over; simp
theorem utf_app (cs ds : List Int32) : utf (cs ++ ds) = utf cs ++ utf ds := by simp [utf]
theorem utf_set1 {cs : List Int32} {x y : Value} {r : List Value} {c : Int32} {n : Nat} (hn : n = cs.length) : ((utf cs ++ x :: y :: r).set (2 * n) (.int (nar .byte c))).set (2 * n + 1) (.int (nar .byte (c >>> 8))) = utf (cs ++ [c]) ++ r := by
  subst hn
  rw [set_app1 (utf_len cs).symm, set_app1 (by simp [utf_len]), utf_app]; simp [utf]
theorem fits_utf {cs : List Int32} : ∀ v ∈ utf cs, fits .byte v = true := by
  intro v hv
  simp only [utf, List.mem_flatMap, List.mem_cons, List.not_mem_nil, or_false] at hv
  obtain ⟨c, -, rfl | rfl⟩ := hv <;> exact fits_nar_byte _
theorem two {rest : List Value} (h : 2 ≤ rest.length) : ∃ a b r, rest = a :: b :: r := by
  match rest, h with
  | a :: b :: r, _ => exact ⟨a, b, r, rfl⟩
theorem one {rest : List Value} (h : 1 ≤ rest.length) : ∃ a r, rest = a :: r := by
  match rest, h with
  | a :: r, _ => exact ⟨a, r, rfl⟩
/-- at a lies a StringBuilder (coder 1) that holds cs, its array at b, of 2 * cap bytes -/
def Su (Z : State) (h : Heap) (a b : Addr) (cs : List Int32) (cap : Nat) : Prop := Exa Z h a "java/lang/StringBuilder" ∧ Fld Z h a "java/lang/AbstractStringBuilder" "value" "[B" (.ref b) ∧ Fld Z h a "java/lang/AbstractStringBuilder" "count" "I" (.int (natI cs.length)) ∧ Fld Z h a "java/lang/AbstractStringBuilder" "coder" "B" (.int 1) ∧ Fld Z h a "java/lang/AbstractStringBuilder" "maybeLatin1" "Z" (.int 0) ∧ (∃ rest : List Value, Ary Z h b .byte (utf cs ++ rest) ∧ (∀ v ∈ rest, fits .byte v = true) ∧ 2 * cs.length + rest.length = 2 * cap) ∧ (∀ c ∈ cs, isCh c) ∧ cap ≤ 4096
theorem Su.keep {Z : State} {h h' : Heap} {a b : Addr} {cs : List Int32} {cap : Nat} {ws : List Addr} (F : Su Z h a b cs cap) (Kp : Keep h h' ws) (q1 : a ∉ ws) (q2 : b ∉ ws) : Su Z h' a b cs cap := by
  obtain ⟨E, V, N, C, M, ⟨r, B, hl⟩, hc⟩ := F
  exact ⟨E.keep Kp, V.keep Kp q1, N.keep Kp q1, C.keep Kp q1, M.keep Kp q1, ⟨r, B.keep Kp q2, hl⟩, hc⟩
theorem Su.le {Z : State} {h : Heap} {a b : Addr} {cs : List Int32} {cap : Nat} (F : Su Z h a b cs cap) : cs.length ≤ cap ∧ cap ≤ 4096 := by
  obtain ⟨-, -, -, -, -, ⟨r, -, -, hl⟩, -, h2⟩ := F; omega
set_option maxRecDepth 65536 in
set_option maxHeartbeats 4000000 in
theorem k_startsWith {Z : State} {a0 : Array Value} (hw : ∀ d ∈ tables_1, d.before a0 Z = true) (hs : Stt Z) {n0 : Nat} {h0 : Heap} {a p : Addr} {ds : List Int32} (F : Str Z h0 a (ds ++ [47])) (G : Str Z h0 p [47]) (O : Old Z n0 h0) :
    Con WD Z EL0 n0 (⟨"java/lang/String", "startsWith", "(Ljava/lang/String;I)Z"⟩ : MethodName) jdk_42_method_75_code 8 (some .boolean) (Rm 2 0 0 27) [(.ref a), (.ref p), (.int (natI ds.length))] h0 [] (fun v h gs => v = some (.int 1) ∧ gs = []) := by
  refine Con.of (a0 := a0) (by first | (exact plainFor_of_name (by first | (simp [plainName, overriddenIn]; done) | decide +kernel)) | decide +kernel) (hEL hw) hWE O (L0 := #[.val (.ref a), .val (.ref p), .val (.int (natI ds.length)), .unset, .unset, .unset, .unset, .unset]) (fun m => by first | rfl | (simp [entryFrame, mkF, argsToLocals, Value.category]; done)) ?_
  intro K C hh
  have hl := F.2.2.1
  have hln : (ds ++ [(47 : Int32)]).length = ds.length + 1 := by simp
  rw [hln] at hl
  have e1 := natI_toInt (i := ds.length) (by omega)
  have z0 : (0 : Int32).toInt = 0 := rfl
  have hat : (ds ++ [(47 : Int32)])[ds.length]? = some 47 := by simp
  refine Own.iloadN C d11_0 rfl ?_
  refine if_lt C d11_1 (fun q1 => ?_) (fun q1 => ?_)
  · rw [lt32] at q1
    omega
  · refine Own.iloadN C d11_4 rfl ?_
    refine Own.aloadN C d11_5 rfl rfl ?_
    refine callV_ C (as' := []) (st := [(.int (natI ds.length))]) (hw _ (List.mem_of_getElem? (i := 47) rfl)) (hw _ (List.mem_of_getElem? (i := 48) rfl)) (fun _ hZ => notFace_of_selects (args := #[]) (mvT hZ (hw _ (List.mem_of_getElem? (i := 50) rfl)))) (hw _ (List.mem_of_getElem? (i := 50) rfl)) (hw _ (List.mem_of_getElem? (i := 49) rfl)) (hw _ (List.mem_of_getElem? (i := 7) rfl)) (hw _ (List.mem_of_getElem? (i := 51) rfl)) ⟨by decide, by decide⟩ F.1 pd__28_29I rfl (fun O => k_length hw hs F O) (fun _ q => nomatch q) rfl (dle rfl) (dle rfl) (dle rfl) (dle rfl) d11_6 rfl (fun v2 hp2 gs2 K2 Q2 => ?_)
    obtain ⟨rfl, rfl⟩ := Q2
    show Go _ K Z _ n0 _ _ 9 #[.val (.ref a), .val (.ref p), .val (.int (natI ds.length)), .unset, .unset, .unset, .unset, .unset] [(.int (natI (ds ++ [47]).length)), (.int (natI ds.length))] hp2 _ _ _
    have Fx1 := F.keep K2
    have Gx1 := G.keep K2
    refine Own.aloadN C d11_9 rfl rfl ?_
    refine callV_ C (as' := []) (st := [(.int (natI (ds ++ [47]).length)), (.int (natI ds.length))]) (hw _ (List.mem_of_getElem? (i := 47) rfl)) (hw _ (List.mem_of_getElem? (i := 48) rfl)) (fun _ hZ => notFace_of_selects (args := #[]) (mvT hZ (hw _ (List.mem_of_getElem? (i := 50) rfl)))) (hw _ (List.mem_of_getElem? (i := 50) rfl)) (hw _ (List.mem_of_getElem? (i := 49) rfl)) (hw _ (List.mem_of_getElem? (i := 7) rfl)) (hw _ (List.mem_of_getElem? (i := 51) rfl)) ⟨by decide, by decide⟩ Gx1.1 pd__28_29I rfl (fun O => k_length hw hs Gx1 O) (fun _ q => nomatch q) rfl (dle rfl) (dle rfl) (dle rfl) (dle rfl) d11_10 rfl (fun v3 hp3 gs3 K3 Q3 => ?_)
    obtain ⟨rfl, rfl⟩ := Q3
    show Go _ K Z _ n0 _ _ 13 #[.val (.ref a), .val (.ref p), .val (.int (natI ds.length)), .unset, .unset, .unset, .unset, .unset] [(.int (natI 1)), (.int (natI (ds ++ [47]).length)), (.int (natI ds.length))] hp3 _ _ _
    have Fx2 := Fx1.keep K3
    have Gx2 := Gx1.keep K3
    refine Own.isub C d11_13 ?_
    rw [show natI (ds ++ [(47 : Int32)]).length - natI 1 = natI ds.length from by rw [hln, natI_sub (by omega) (by omega), Nat.add_sub_cancel]]
    show Go _ K Z _ n0 _ _ 14 #[.val (.ref a), .val (.ref p), .val (.int (natI ds.length)), .unset, .unset, .unset, .unset, .unset] [(.int (natI ds.length)), (.int (natI ds.length))] hp3 _ _ _
    refine icmp_le C d11_14 (fun q4 => ?_) (fun q4 => ?_)
    · obtain ⟨E, hc1, hl1, b, z, vs, Fv, Fc, A, Bt⟩ := Fx2
      obtain ⟨E', hc2, hl2, b', z', vs', Fv', Fc', A', Bt'⟩ := Gx2
      obtain ⟨rfl, rfl⟩ : z' = 0 ∧ vs' = lat [47] := by rcases Bt' with ⟨-, p1, p2⟩ | ⟨⟨c, hc, p1⟩, -⟩; exact ⟨p1, p2⟩; (simp only [List.mem_singleton] at hc; subst hc; exact absurd p1 (by decide))
      rw [el47] at A'
      refine Own.aloadN C d11_19 rfl rfl ?_
      refine getF_ C (hw _ (List.mem_of_getElem? (i := 33) rfl)) Fv d11_20 ?_
      refine Own.astoreN (L' := #[.val (.ref a), .val (.ref p), .val (.int (natI ds.length)), .val (.ref b), .unset, .unset, .unset, .unset]) C d11_23 rfl rfl ?_
      refine Own.aloadN C d11_24 rfl rfl ?_
      refine getF_ C (hw _ (List.mem_of_getElem? (i := 33) rfl)) Fv' d11_25 ?_
      refine Own.astore (L' := #[.val (.ref a), .val (.ref p), .val (.int (natI ds.length)), .val (.ref b), .val (.ref b'), .unset, .unset, .unset]) C d11_28 rfl rfl ?_
      refine Own.iconst (v := 0) C d11_30 rfl ?_
      refine Own.istore (L' := #[.val (.ref a), .val (.ref p), .val (.int (natI ds.length)), .val (.ref b), .val (.ref b'), .val (.int (0 : Int32)), .unset, .unset]) C d11_31 rfl ?_
      refine Own.aload C d11_33 rfl rfl ?_
      refine arrlen C A' (z := (1 : Int32)) rfl d11_35 ?_
      refine Own.istore (L' := #[.val (.ref a), .val (.ref p), .val (.int (natI ds.length)), .val (.ref b), .val (.ref b'), .val (.int (0 : Int32)), .val (.int (1 : Int32)), .unset]) C d11_36 rfl ?_
      refine Own.aloadN C d11_38 rfl rfl ?_
      refine callV_ C (as' := []) (st := []) (hw _ (List.mem_of_getElem? (i := 52) rfl)) (hw _ (List.mem_of_getElem? (i := 53) rfl)) (fun _ hZ => notFace_of_selects (args := #[]) (mvT hZ (hw _ (List.mem_of_getElem? (i := 55) rfl)))) (hw _ (List.mem_of_getElem? (i := 55) rfl)) (hw _ (List.mem_of_getElem? (i := 54) rfl)) (hw _ (List.mem_of_getElem? (i := 7) rfl)) (hw _ (List.mem_of_getElem? (i := 56) rfl)) ⟨by decide, by decide⟩ E pd__28_29B rfl (fun O => k_scoder hw hs Bt.nb Fc O) (fun _ q => nomatch q) rfl (dle rfl) (dle rfl) (dle rfl) (dle rfl) d11_39 rfl (fun v5 hp5 gs5 K5 Q5 => ?_)
      obtain ⟨rfl, rfl⟩ := Q5
      show Go _ K Z _ n0 _ _ 42 #[.val (.ref a), .val (.ref p), .val (.int (natI ds.length)), .val (.ref b), .val (.ref b'), .val (.int (0 : Int32)), .val (.int (1 : Int32)), .unset] [(.int z)] hp5 _ _ _
      refine Own.istore (L' := #[.val (.ref a), .val (.ref p), .val (.int (natI ds.length)), .val (.ref b), .val (.ref b'), .val (.int (0 : Int32)), .val (.int (1 : Int32)), .val (.int z)]) C d11_42 rfl ?_
      refine Own.iload C d11_44 rfl ?_
      refine Own.aloadN C d11_46 rfl rfl ?_
      refine callV_ C (as' := []) (st := [(.int z)]) (hw _ (List.mem_of_getElem? (i := 52) rfl)) (hw _ (List.mem_of_getElem? (i := 53) rfl)) (fun _ hZ => notFace_of_selects (args := #[]) (mvT hZ (hw _ (List.mem_of_getElem? (i := 55) rfl)))) (hw _ (List.mem_of_getElem? (i := 55) rfl)) (hw _ (List.mem_of_getElem? (i := 54) rfl)) (hw _ (List.mem_of_getElem? (i := 7) rfl)) (hw _ (List.mem_of_getElem? (i := 56) rfl)) ⟨by decide, by decide⟩ (E'.keep K5) pd__28_29B rfl (fun O => k_scoder hw hs rfl (Fc'.keep K5 nin0) O) (fun _ q => nomatch q) rfl (dle rfl) (dle rfl) (dle rfl) (dle rfl) d11_47 rfl (fun v6 hp6 gs6 K6 Q6 => ?_)
      obtain ⟨rfl, rfl⟩ := Q6
      show Go _ K Z _ n0 _ _ 50 #[.val (.ref a), .val (.ref p), .val (.int (natI ds.length)), .val (.ref b), .val (.ref b'), .val (.int (0 : Int32)), .val (.int (1 : Int32)), .val (.int z)] [(.int (0 : Int32)), (.int z)] hp6 _ _ _
      have KK := K5.trans K6 (fun _ q => nomatch q)
      have Ax1 := A.keep KK nin0
      have Bx1 := A'.keep KK nin0
      refine icmp_ne C d11_50 (fun q7 => ?_) (fun q7 => ?_)
      · have hz : z = 1 := Bt.z01.resolve_left q7
        subst hz
        have ev := Bt.one
        subst ev
        show Go _ K Z _ n0 _ _ 82 #[.val (.ref a), .val (.ref p), .val (.int (natI ds.length)), .val (.ref b), .val (.ref b'), .val (.int (0 : Int32)), .val (.int (1 : Int32)), .val (.int (1 : Int32))] [] hp6 _ _ _
        refine Own.iload C d11_82 rfl ?_
        refine if_ne C d11_84 (fun q8 => ?_) (fun q8 => ?_)
        · refine Own.iload C d11_89 rfl ?_
          refine Own.iload C d11_91 rfl ?_
          refine icmp_ge C d11_93 (fun q9 => ?_) (fun q9 => ?_)
          · exact absurd (by decide) q9
          · refine Own.aloadN C d11_96 rfl rfl ?_
            refine Own.iloadN C d11_97 rfl ?_
            refine Own.iinc (L' := #[.val (.ref a), .val (.ref p), .val (.int ((natI ds.length) + (1 : Int32))), .val (.ref b), .val (.ref b'), .val (.int (0 : Int32)), .val (.int (1 : Int32)), .val (.int (1 : Int32))]) (y := ((natI ds.length) + (1 : Int32))) C d11_98 rfl rfl rfl ?_
            refine callS_ C (as := [(.ref b), (.int (natI ds.length))]) (st := []) (hw _ (List.mem_of_getElem? (i := 262) rfl)) (hw _ (List.mem_of_getElem? (i := 260) rfl)) (hw _ (List.mem_of_getElem? (i := 22) rfl)) (hw _ (List.mem_of_getElem? (i := 261) rfl)) ⟨by decide, by decide⟩ pd__28_5bBI_29C rfl (fun O => k_getChar hw hs hc1 (by rw [hln]; omega) Ax1 e1 hat O) (fun _ q => nomatch q) rfl (dle rfl) (dle rfl) (dle rfl) (dle rfl) d11_101 rfl (fun v10 hp10 gs10 K10 Q10 => ?_)
            obtain ⟨rfl, rfl⟩ := Q10
            show Go _ K Z _ n0 _ _ 104 #[.val (.ref a), .val (.ref p), .val (.int ((natI ds.length) + (1 : Int32))), .val (.ref b), .val (.ref b'), .val (.int (0 : Int32)), .val (.int (1 : Int32)), .val (.int (1 : Int32))] [(.int (47 : Int32))] hp10 _ _ _
            refine Own.aload C d11_104 rfl rfl ?_
            refine Own.iload C d11_106 rfl ?_
            refine Own.iinc (L' := #[.val (.ref a), .val (.ref p), .val (.int ((natI ds.length) + (1 : Int32))), .val (.ref b), .val (.ref b'), .val (.int ((0 : Int32) + (1 : Int32))), .val (.int (1 : Int32)), .val (.int (1 : Int32))]) (y := ((0 : Int32) + (1 : Int32))) C d11_108 rfl rfl rfl ?_
            refine baload_ C (v := .int (47 : Int32)) (Bx1.keep K10 nin0) 0 rfl rfl d11_111 ?_
            refine Own.sipush (v := 255) C d11_112 rfl ?_
            refine Own.iand C d11_115 ?_
            refine icmp_eq C d11_116 (fun q11 => ?_) (fun q11 => ?_)
            · refine Own.iload C d11_89 rfl ?_
              refine Own.iload C d11_91 rfl ?_
              refine icmp_ge C d11_93 (fun q12 => ?_) (fun q12 => ?_)
              · refine Own.iconst (v := 1) C d11_121 rfl ?_
                exact retZ C (gs := []) d11_122 (dle rfl) (dle rfl) (fun _ q => nomatch q) ⟨rfl, rfl⟩
              · exact absurd q12 (by decide)
            · exact absurd (by decide) q11
        · exact absurd q8 (by decide)
      · have hz : z = 0 := q7
        subst hz
        obtain ⟨hlt, ev⟩ := Bt.zero
        subst ev
        show Go _ K Z _ n0 _ _ 53 #[.val (.ref a), .val (.ref p), .val (.int (natI ds.length)), .val (.ref b), .val (.ref b'), .val (.int (0 : Int32)), .val (.int (1 : Int32)), .val (.int (0 : Int32))] [] hp6 _ _ _
        refine Own.iload C d11_53 rfl ?_
        refine Own.iconst (v := 1) C d11_55 rfl ?_
        refine icmp_ne C d11_56 (fun q13 => ?_) (fun q13 => ?_)
        · refine Own.aloadN C d11_63 rfl rfl ?_
          refine Own.iloadN C d11_64 rfl ?_
          refine Own.aload C d11_65 rfl rfl ?_
          refine Own.iconst (v := 0) C d11_67 rfl ?_
          refine Own.iload C d11_68 rfl ?_
          refine callS_ C (as := [(.ref b), (.int (natI ds.length)), (.ref b'), (.int (0 : Int32)), (.int (1 : Int32))]) (st := []) (hw _ (List.mem_of_getElem? (i := 62) rfl)) (hw _ (List.mem_of_getElem? (i := 63) rfl)) (hw _ (List.mem_of_getElem? (i := 64) rfl)) (hw _ (List.mem_of_getElem? (i := 65) rfl)) ⟨by decide, by decide⟩ pd__28_5bBI_5bBII_29I rfl (fun O => k_mismatch1 hw hs (i := ds.length) (by omega) Ax1 Bx1 (by rw [lat_at hat, narb_id (by decide)]) O) (fun _ q => nomatch q) rfl (dle rfl) (dle rfl) (dle rfl) (dle rfl) d11_70 rfl (fun v14 hp14 gs14 K14 Q14 => ?_)
          obtain ⟨rfl, rfl⟩ := Q14
          show Go _ K Z _ n0 _ _ 73 #[.val (.ref a), .val (.ref p), .val (.int (natI ds.length)), .val (.ref b), .val (.ref b'), .val (.int (0 : Int32)), .val (.int (1 : Int32)), .val (.int (0 : Int32))] [(.int (-1 : Int32))] hp14 _ _ _
          refine if_ge C d11_73 (fun q15 => ?_) (fun q15 => ?_)
          · exact absurd (by decide) q15
          · refine Own.iconst (v := 1) C d11_76 rfl ?_
            refine Own.goto_ C d11_77 ?_
            exact retZ C (gs := []) d11_81 (dle rfl) (dle rfl) (fun _ q => nomatch q) ⟨rfl, rfl⟩
        · exact absurd q13 (by decide)
    · rw [lt32] at q4
      omega
set_option maxRecDepth 65536 in
set_option maxHeartbeats 4000000 in
theorem k_endsWith {Z : State} {a0 : Array Value} (hw : ∀ d ∈ tables_1, d.before a0 Z = true) (hs : Stt Z) {n0 : Nat} {h0 : Heap} {a p : Addr} {ds : List Int32} (F : Str Z h0 a (ds ++ [47])) (G : Str Z h0 p [47]) (O : Old Z n0 h0) :
    Con WD Z EL0 n0 (⟨"java/lang/String", "endsWith", "(Ljava/lang/String;)Z"⟩ : MethodName) jdk_42_method_77_code 2 (some .boolean) (Rm 3 0 0 46) [(.ref a), (.ref p)] h0 [] (fun v h gs => v = some (.int 1) ∧ gs = []) := by
  refine Con.of (a0 := a0) (by first | (exact plainFor_of_name (by first | (simp [plainName, overriddenIn]; done) | decide +kernel)) | decide +kernel) (hEL hw) hWE O (L0 := #[.val (.ref a), .val (.ref p)]) (fun m => by first | rfl | (simp [entryFrame, mkF, argsToLocals, Value.category]; done)) ?_
  intro K C hh
  have hl := F.2.2.1
  have hln : (ds ++ [(47 : Int32)]).length = ds.length + 1 := by simp
  rw [hln] at hl
  refine Own.aloadN C d8_0 rfl rfl ?_
  refine Own.aloadN C d8_1 rfl rfl ?_
  refine Own.aloadN C d8_2 rfl rfl ?_
  refine callV_ C (as' := []) (st := [(.ref p), (.ref a)]) (hw _ (List.mem_of_getElem? (i := 47) rfl)) (hw _ (List.mem_of_getElem? (i := 48) rfl)) (fun _ hZ => notFace_of_selects (args := #[]) (mvT hZ (hw _ (List.mem_of_getElem? (i := 50) rfl)))) (hw _ (List.mem_of_getElem? (i := 50) rfl)) (hw _ (List.mem_of_getElem? (i := 49) rfl)) (hw _ (List.mem_of_getElem? (i := 7) rfl)) (hw _ (List.mem_of_getElem? (i := 51) rfl)) ⟨by decide, by decide⟩ F.1 pd__28_29I rfl (fun O => k_length hw hs F O) (fun _ q => nomatch q) rfl (dle rfl) (dle rfl) (dle rfl) (dle rfl) d8_3 rfl (fun v1 hp1 gs1 K1 Q1 => ?_)
  obtain ⟨rfl, rfl⟩ := Q1
  show Go _ K Z _ n0 _ _ 6 #[.val (.ref a), .val (.ref p)] [(.int (natI (ds ++ [47]).length)), (.ref p), (.ref a)] hp1 _ _ _
  have Fx1 := F.keep K1
  have Gx1 := G.keep K1
  refine Own.aloadN C d8_6 rfl rfl ?_
  refine callV_ C (as' := []) (st := [(.int (natI (ds ++ [47]).length)), (.ref p), (.ref a)]) (hw _ (List.mem_of_getElem? (i := 47) rfl)) (hw _ (List.mem_of_getElem? (i := 48) rfl)) (fun _ hZ => notFace_of_selects (args := #[]) (mvT hZ (hw _ (List.mem_of_getElem? (i := 50) rfl)))) (hw _ (List.mem_of_getElem? (i := 50) rfl)) (hw _ (List.mem_of_getElem? (i := 49) rfl)) (hw _ (List.mem_of_getElem? (i := 7) rfl)) (hw _ (List.mem_of_getElem? (i := 51) rfl)) ⟨by decide, by decide⟩ Gx1.1 pd__28_29I rfl (fun O => k_length hw hs Gx1 O) (fun _ q => nomatch q) rfl (dle rfl) (dle rfl) (dle rfl) (dle rfl) d8_7 rfl (fun v2 hp2 gs2 K2 Q2 => ?_)
  obtain ⟨rfl, rfl⟩ := Q2
  show Go _ K Z _ n0 _ _ 10 #[.val (.ref a), .val (.ref p)] [(.int (natI 1)), (.int (natI (ds ++ [47]).length)), (.ref p), (.ref a)] hp2 _ _ _
  have Fx2 := Fx1.keep K2
  have Gx2 := Gx1.keep K2
  refine Own.isub C d8_10 ?_
  rw [show natI (ds ++ [(47 : Int32)]).length - natI 1 = natI ds.length from by rw [hln, natI_sub (by omega) (by omega), Nat.add_sub_cancel]]
  show Go _ K Z _ n0 _ _ 11 #[.val (.ref a), .val (.ref p)] [(.int (natI ds.length)), (.ref p), (.ref a)] hp2 _ _ _
  refine callV_ C (as' := [(.ref p), (.int (natI ds.length))]) (st := []) (hw _ (List.mem_of_getElem? (i := 57) rfl)) (hw _ (List.mem_of_getElem? (i := 58) rfl)) (fun _ hZ => notFace_of_selects (args := #[]) (mvT hZ (hw _ (List.mem_of_getElem? (i := 60) rfl)))) (hw _ (List.mem_of_getElem? (i := 60) rfl)) (hw _ (List.mem_of_getElem? (i := 59) rfl)) (hw _ (List.mem_of_getElem? (i := 7) rfl)) (hw _ (List.mem_of_getElem? (i := 61) rfl)) ⟨by decide, by decide⟩ Fx2.1 pd__28Ljava_2flang_2fString_3bI_29Z rfl (fun O => k_startsWith hw hs Fx2 Gx2 O) (fun _ q => nomatch q) rfl (dle rfl) (dle rfl) (dle rfl) (dle rfl) d8_11 rfl (fun v3 hp3 gs3 K3 Q3 => ?_)
  obtain ⟨rfl, rfl⟩ := Q3
  show Go _ K Z _ n0 _ _ 14 #[.val (.ref a), .val (.ref p)] [(.int (1 : Int32))] hp3 _ _ _
  exact retZ C (gs := []) d8_14 (dle rfl) (dle rfl) (fun _ q => nomatch q) ⟨rfl, rfl⟩
set_option maxRecDepth 65536 in
set_option maxHeartbeats 4000000 in
theorem k_initBZ {Z : State} {a0 : Array Value} (hw : ∀ d ∈ tables_1, d.before a0 Z = true) (hs : Stt Z) {n0 : Nat} {h0 : Heap} {s c : Addr} {cs : List Int32} {z : Int32} {vs : List Value} {u1 u2 : Value} (hcs : ∀ c ∈ cs, isCh c) (hl : cs.length ≤ 4096) (Bt : Byt cs z vs) (A : Ary Z h0 c .byte vs) (E : Exa Z h0 s "java/lang/String") (Fv : Fld Z h0 s "java/lang/String" "value" "[B" u1) (Fc : Fld Z h0 s "java/lang/String" "coder" "B" u2) (O : Old Z n0 h0) :
    Con WD Z EL0 n0 (⟨"java/lang/String", "<init>", "([BB)V"⟩ : MethodName) jdk_42_method_151_code 3 none (Rm 1 0 0 12) [(.ref s), (.ref c), (.int z)] h0 [s] (fun v h gs => v = none ∧ gs = [] ∧ Str Z h s cs) := by
  refine Con.of (a0 := a0) (by first | (exact plainFor_of_name (by first | (simp [plainName, overriddenIn]; done) | decide +kernel)) | decide +kernel) (hEL hw) hWE O (L0 := #[.val (.ref s), .val (.ref c), .val (.int z)]) (fun m => by first | rfl | (simp [entryFrame, mkF, argsToLocals, Value.category]; done)) ?_
  intro K C hh
  have hne := slot_ne (Or.inr (hw _ (List.mem_of_getElem? (i := 34) rfl)) : Laid Z a0 "java/lang/String" "java/lang/String" "value" "[B") (Or.inr (hw _ (List.mem_of_getElem? (i := 32) rfl)) : Laid Z a0 "java/lang/String" "java/lang/String" "coder" "B") (by decide) (t := .array .byte) (t' := .byte) (by decide) (by decide)
  refine Own.aloadN C d46_0 rfl rfl ?_
  refine initO_ C (hw _ (List.mem_of_getElem? (i := 16) rfl)) (hw _ (List.mem_of_getElem? (i := 17) rfl)) (hw _ (List.mem_of_getElem? (i := 18) rfl)) rfl (dle rfl) (dle rfl) d46_1 ?_
  refine Own.aloadN C d46_4 rfl rfl ?_
  refine Own.aloadN C d46_5 rfl rfl ?_
  refine putF_ C (v' := .ref c) (ty := (.array .byte)) (hw _ (List.mem_of_getElem? (i := 33) rfl)) Fv E (Or.inr ⟨(hw _ (List.mem_of_getElem? (i := 34) rfl)), rfl, rfl⟩) (hw _ (List.mem_of_getElem? (i := 6) rfl)) (by decide) rfl rfl (by simp) d46_6 (fun hp1 W2 => ?_)
  have Ex1 := E.wr W2
  have Vx1 := Fv.same W2
  have Cx1 := Fc.other W2 (Or.inr hne.symm)
  have Ax1 := A.other W2 (A.neX E (hw _ (List.mem_of_getElem? (i := 6) rfl)))
  refine Own.aloadN C d46_9 rfl rfl ?_
  refine Own.iloadN C d46_10 rfl ?_
  refine putF_ C (v' := .int z) (ty := .byte) (hw _ (List.mem_of_getElem? (i := 31) rfl)) Cx1 Ex1 (Or.inr ⟨(hw _ (List.mem_of_getElem? (i := 32) rfl)), rfl, rfl⟩) (hw _ (List.mem_of_getElem? (i := 6) rfl)) (by decide) (by rcases Bt with ⟨-, rfl, -⟩ | ⟨-, rfl, -⟩ <;> rfl) (by rcases Bt with ⟨-, rfl, -⟩ | ⟨-, rfl, -⟩ <;> rfl) (by simp) d46_11 (fun hp3 W4 => ?_)
  have Ex2 := Ex1.wr W4
  have Vx2 := Vx1.other W4 (Or.inr hne)
  have Cx2 := Cx1.same W4
  have Ax2 := Ax1.other W4 (Ax1.neX Ex1 (hw _ (List.mem_of_getElem? (i := 6) rfl)))
  exact retV C (gs := []) d46_14 (dle rfl) (dle rfl) (fun _ q => nomatch q) ⟨rfl, rfl, Ex2, hcs, hl, c, z, vs, Vx2, Cx2, Ax2, Bt⟩
set_option maxRecDepth 65536 in
set_option maxHeartbeats 4000000 in
theorem k_min {Z : State} {a0 : Array Value} (hw : ∀ d ∈ tables_1, d.before a0 Z = true) (hs : Stt Z) {n0 : Nat} {h0 : Heap} {i j : Nat} (hi : i ≤ 100000) (hj : j ≤ 100000) (O : Old Z n0 h0) :
    Con WD Z EL0 n0 (⟨"java/lang/Math", "min", "(II)I"⟩ : MethodName) jdk_29_method_69_code 2 (some .int) (Rm 0 0 0 0) [(.int (natI i)), (.int (natI j))] h0 [] (fun v h gs => v = some (.int (natI (min i j))) ∧ gs = []) := by
  refine Con.of (a0 := a0) (by first | (exact plainFor_of_name (by first | (simp [plainName, overriddenIn]; done) | decide +kernel)) | decide +kernel) (hEL hw) hWE O (L0 := #[.val (.int (natI i)), .val (.int (natI j))]) (fun m => by first | rfl | (simp [entryFrame, mkF, argsToLocals, Value.category]; done)) ?_
  intro K C hh
  have e1 := natI_lt (i := i) (j := j) (by omega) (by omega)
  have e2 := natI_lt (i := j) (j := i) (by omega) (by omega)
  refine Own.iloadN C d39_0 rfl ?_
  refine Own.iloadN C d39_1 rfl ?_
  refine icmp_gt C d39_2 (fun q1 => ?_) (fun q1 => ?_)
  · simp only [e1, e2] at q1
    refine Own.iloadN C d39_9 rfl ?_
    exact retI_ C (gs := []) d39_10 (dle rfl) (dle rfl) (fun _ q => nomatch q) ⟨by rw [show min i j = j by omega], rfl⟩
  · simp only [e1, e2] at q1
    refine Own.iloadN C d39_5 rfl ?_
    refine Own.goto_ C d39_6 ?_
    exact retI_ C (gs := []) d39_10 (dle rfl) (dle rfl) (fun _ q => nomatch q) ⟨by rw [show min i j = i by omega], rfl⟩
set_option maxRecDepth 65536 in
set_option maxHeartbeats 4000000 in
theorem k_asb {Z : State} {a0 : Array Value} (hw : ∀ d ∈ tables_1, d.before a0 Z = true) (hs : Stt Z) {n0 : Nat} {h0 : Heap} {a : Addr} {u1 u2 : Value} (E : Exa Z h0 a "java/lang/StringBuilder") (Fv : Fld Z h0 a "java/lang/AbstractStringBuilder" "value" "[B" u1) (Fc : Fld Z h0 a "java/lang/AbstractStringBuilder" "coder" "B" u2) (Fn : Fld Z h0 a "java/lang/AbstractStringBuilder" "count" "I" (.int 0)) (Fm : Fld Z h0 a "java/lang/AbstractStringBuilder" "maybeLatin1" "Z" (.int 0)) (O : Old Z n0 h0) :
    Con WD Z EL0 n0 (⟨"java/lang/AbstractStringBuilder", "<init>", "(I)V"⟩ : MethodName) jdk_68_method_2_code 2 none (Rm 1 1 16 12) [(.ref a), (.int (16 : Int32))] h0 [a] (fun v h gs => v = none ∧ ∃ b, gs = [b] ∧ Sb Z h a b [] 16 ∧ Fld Z h a "java/lang/AbstractStringBuilder" "maybeLatin1" "Z" (.int 0)) := by
  refine Con.of (a0 := a0) (by first | (exact plainFor_of_name (by first | (simp [plainName, overriddenIn]; done) | decide +kernel)) | decide +kernel) (hEL hw) hWE O (L0 := #[.val (.ref a), .val (.int (16 : Int32))]) (fun m => by first | rfl | (simp [entryFrame, mkF, argsToLocals, Value.category]; done)) ?_
  intro K C hh
  obtain ⟨cv, hcv, Sc⟩ := st_c hs
  have hvm := slot_ne (Or.inl (hw _ (List.mem_of_getElem? (i := 83) rfl)) : Laid Z a0 "java/lang/StringBuilder" "java/lang/AbstractStringBuilder" "value" "[B") (Or.inl (hw _ (List.mem_of_getElem? (i := 314) rfl)) : Laid Z a0 "java/lang/StringBuilder" "java/lang/AbstractStringBuilder" "maybeLatin1" "Z") (by decide) (t := .array .byte) (t' := .boolean) (by decide) (by decide)
  have hcm := slot_ne (Or.inl (hw _ (List.mem_of_getElem? (i := 85) rfl)) : Laid Z a0 "java/lang/StringBuilder" "java/lang/AbstractStringBuilder" "coder" "B") (Or.inl (hw _ (List.mem_of_getElem? (i := 314) rfl)) : Laid Z a0 "java/lang/StringBuilder" "java/lang/AbstractStringBuilder" "maybeLatin1" "Z") (by decide) (t := .byte) (t' := .boolean) (by decide) (by decide)
  have hnm := slot_ne (Or.inl (hw _ (List.mem_of_getElem? (i := 122) rfl)) : Laid Z a0 "java/lang/StringBuilder" "java/lang/AbstractStringBuilder" "count" "I") (Or.inl (hw _ (List.mem_of_getElem? (i := 314) rfl)) : Laid Z a0 "java/lang/StringBuilder" "java/lang/AbstractStringBuilder" "maybeLatin1" "Z") (by decide) (t := .int) (t' := .boolean) (by decide) (by decide)
  have hvc := slot_ne (Or.inl (hw _ (List.mem_of_getElem? (i := 83) rfl)) : Laid Z a0 "java/lang/StringBuilder" "java/lang/AbstractStringBuilder" "value" "[B") (Or.inl (hw _ (List.mem_of_getElem? (i := 85) rfl)) : Laid Z a0 "java/lang/StringBuilder" "java/lang/AbstractStringBuilder" "coder" "B") (by decide) (t := .array .byte) (t' := .byte) (by decide) (by decide)
  have hvn := slot_ne (Or.inl (hw _ (List.mem_of_getElem? (i := 83) rfl)) : Laid Z a0 "java/lang/StringBuilder" "java/lang/AbstractStringBuilder" "value" "[B") (Or.inl (hw _ (List.mem_of_getElem? (i := 122) rfl)) : Laid Z a0 "java/lang/StringBuilder" "java/lang/AbstractStringBuilder" "count" "I") (by decide) (t := .array .byte) (t' := .int) (by decide) (by decide)
  have hcn := slot_ne (Or.inl (hw _ (List.mem_of_getElem? (i := 85) rfl)) : Laid Z a0 "java/lang/StringBuilder" "java/lang/AbstractStringBuilder" "coder" "B") (Or.inl (hw _ (List.mem_of_getElem? (i := 122) rfl)) : Laid Z a0 "java/lang/StringBuilder" "java/lang/AbstractStringBuilder" "count" "I") (by decide) (t := .byte) (t' := .int) (by decide) (by decide)
  refine Own.aloadN C d14_0 rfl rfl ?_
  refine initO_ C (hw _ (List.mem_of_getElem? (i := 80) rfl)) (hw _ (List.mem_of_getElem? (i := 17) rfl)) (hw _ (List.mem_of_getElem? (i := 18) rfl)) rfl (dle rfl) (dle rfl) d14_1 ?_
  refine getS_ C (hw _ (List.mem_of_getElem? (i := 81) rfl)) Sc d14_4 ?_
  refine if_eq C d14_7 (fun q1 => ?_) (fun q1 => ?_)
  · exact absurd q1 hcv
  · refine Own.aloadN C d14_10 rfl rfl ?_
    refine Own.iloadN C d14_11 rfl ?_
    refine newarrB C (hw _ (List.mem_of_getElem? (i := 24) rfl)) (by decide) 16 (by decide) (by decide) (dle rfl) (dle rfl) d14_12 (fun hp2 K2 lt2 le2 A2 => ?_)
    obtain ⟨b, g2⟩ : ∃ z, z = h0.size := ⟨_, rfl⟩
    rw [← g2] at A2 lt2 le2 ⊢
    have Ex1 := E.keep K2
    have Vx1 := Fv.keep K2 nin0
    have Cx1 := Fc.keep K2 nin0
    have Nx1 := Fn.keep K2 nin0
    have hab : b ≠ a := by rw [g2]; exact (Nat.ne_of_lt E.lt).symm
    refine putF_ C (v' := .ref b) (ty := (.array .byte)) (hw _ (List.mem_of_getElem? (i := 82) rfl)) Vx1 Ex1 (Or.inl (hw _ (List.mem_of_getElem? (i := 83) rfl))) (hw _ (List.mem_of_getElem? (i := 69) rfl)) (by decide) rfl rfl (by simp) d14_14 (fun hp3 W4 => ?_)
    have Ex2 := Ex1.wr W4
    have Vx2 := Vx1.same W4
    have Cx2 := Cx1.other W4 (Or.inr hvc.symm)
    have Nx2 := Nx1.other W4 (Or.inr hvn.symm)
    have Ax2 := A2.keep (Keep.of_wr W4) (ninS hab nin0)
    refine Own.aloadN C d14_17 rfl rfl ?_
    refine Own.iconst (v := 0) C d14_18 rfl ?_
    refine putF_ C (v' := .int (0 : Int32)) (ty := .byte) (hw _ (List.mem_of_getElem? (i := 84) rfl)) Cx2 Ex2 (Or.inl (hw _ (List.mem_of_getElem? (i := 85) rfl))) (hw _ (List.mem_of_getElem? (i := 69) rfl)) (by decide) rfl rfl (by simp) d14_19 (fun hp5 W6 => ?_)
    have Ex3 := Ex2.wr W6
    have Vx3 := Vx2.other W6 (Or.inr hvc)
    have Cx3 := Cx2.same W6
    have Nx3 := Nx2.other W6 (Or.inr hcn.symm)
    have Ax3 := Ax2.keep (Keep.of_wr W6) (ninS hab nin0)
    have Mx3 := ((Fm.keep K2 nin0).other W4 (Or.inr hvm.symm)).other W6 (Or.inr hcm.symm)
    refine Own.goto_ C d14_22 ?_
    exact retV C (gs := [b]) d14_38 (dle rfl) (dle rfl) (by simp) ⟨rfl, b, rfl, ⟨Ex3, Vx3, Nx3, Cx3, ⟨_, Ax3, rfl⟩, by simp, by decide⟩, Mx3⟩
set_option maxRecDepth 65536 in
set_option maxHeartbeats 4000000 in
theorem k_sb {Z : State} {a0 : Array Value} (hw : ∀ d ∈ tables_1, d.before a0 Z = true) (hs : Stt Z) {n0 : Nat} {h0 : Heap} {a : Addr} {u1 u2 : Value} (E : Exa Z h0 a "java/lang/StringBuilder") (Fv : Fld Z h0 a "java/lang/AbstractStringBuilder" "value" "[B" u1) (Fc : Fld Z h0 a "java/lang/AbstractStringBuilder" "coder" "B" u2) (Fn : Fld Z h0 a "java/lang/AbstractStringBuilder" "count" "I" (.int 0)) (Fm : Fld Z h0 a "java/lang/AbstractStringBuilder" "maybeLatin1" "Z" (.int 0)) (O : Old Z n0 h0) :
    Con WD Z EL0 n0 (⟨"java/lang/StringBuilder", "<init>", "()V"⟩ : MethodName) jdk_67_method_1_code 1 none (Rm 2 1 16 25) [(.ref a)] h0 [a] (fun v h gs => v = none ∧ ∃ b, gs = [b] ∧ Sb Z h a b [] 16 ∧ Fld Z h a "java/lang/AbstractStringBuilder" "maybeLatin1" "Z" (.int 0)) := by
  refine Con.of (a0 := a0) (by first | (exact plainFor_of_name (by first | (simp [plainName, overriddenIn]; done) | decide +kernel)) | decide +kernel) (hEL hw) hWE O (L0 := #[.val (.ref a)]) (fun m => by first | rfl | (simp [entryFrame, mkF, argsToLocals, Value.category]; done)) ?_
  intro K C hh
  refine Own.aloadN C d13_0 rfl rfl ?_
  refine Own.bipush (v := 16) C d13_1 rfl ?_
  refine callI_ C (as' := [(.int (16 : Int32))]) (st := []) rfl (hw _ (List.mem_of_getElem? (i := 74) rfl)) (hw _ (List.mem_of_getElem? (i := 75) rfl)) (hw _ (List.mem_of_getElem? (i := 78) rfl)) (hw _ (List.mem_of_getElem? (i := 79) rfl)) ⟨by decide, by decide⟩ pd__28I_29V rfl (fun O => k_asb hw hs E Fv Fc Fn Fm O) (by simp) rfl (dle rfl) (dle rfl) (dle rfl) (dle rfl) d13_3 rfl (fun v1 hp1 gs1 K1 Q1 => ?_)
  obtain ⟨rfl, b, rfl, S⟩ := Q1
  show Go _ K Z _ n0 _ _ 6 #[.val (.ref a)] [] hp1 _ _ _
  exact retV C (gs := [b]) d13_6 (dle rfl) (dle rfl) (by simp) ⟨rfl, b, rfl, S⟩
set_option maxRecDepth 65536 in
set_option maxHeartbeats 4000000 in
theorem k_ensure {Z : State} {a0 : Array Value} (hw : ∀ d ∈ tables_1, d.before a0 Z = true) (hs : Stt Z) {n0 : Nat} {h0 : Heap} {a b : Addr} {cs : List Int32} {cap m N : Nat} (S : Sb Z h0 a b cs cap) (hm : m ≤ cap) (hN : N ≤ 4096) (O : Old Z n0 h0) :
    Con WD Z EL0 n0 (⟨"java/lang/AbstractStringBuilder", "ensureCapacityInternal", "(I)V"⟩ : MethodName) jdk_68_method_9_code 3 none (Rm 0 0 0 0) [(.ref a), (.int (natI m))] h0 [a, b] (fun v h gs => v = none ∧ ∃ (b' : Addr) (cap' : Nat), gs = [b'] ∧ Sb Z h a b' cs cap' ∧ m ≤ cap' ∧ (cap' = cap ∨ cap' = cap + max (m - cap) (cap + 2))) := by
  refine Con.of (a0 := a0) (by first | (exact plainFor_of_name (by first | (simp [plainName, overriddenIn]; done) | decide +kernel)) | decide +kernel) (hEL hw) hWE O (L0 := #[.val (.ref a), .val (.int (natI m)), .unset]) (fun m => by first | rfl | (simp [entryFrame, mkF, argsToLocals, Value.category]; done)) ?_
  intro K C hh
  have S0 := S
  obtain ⟨E, V, Nc, Cd, ⟨rest, B, hl⟩, hcs, hcap⟩ := S
  have ec := natI_toInt (i := cap) (by omega)
  have em := natI_toInt (i := m) (by omega)
  have hvl : (lat cs ++ rest).length = cap := by rw [List.length_append, lat_len]; omega
  have z0 : (0 : Int32).toInt = 0 := rfl
  have hsub : (natI m - natI cap).toInt = (m : Int) - cap := by have a3 := c_isub (natI m) (natI cap); have a4 := rng32 (natI m - natI cap); omega
  refine Own.aloadN C d22_0 rfl rfl ?_
  refine getF_ C (hw _ (List.mem_of_getElem? (i := 82) rfl)) V d22_1 ?_
  refine arrlen C B.1 (z := (natI cap)) (by rw [ec, hvl]) d22_4 ?_
  refine Own.aloadN C d22_5 rfl rfl ?_
  refine getF_ C (hw _ (List.mem_of_getElem? (i := 84) rfl)) Cd d22_6 ?_
  refine Own.ishr C d22_9 ?_
  rw [shr0]
  show Go _ K Z _ n0 _ _ 10 #[.val (.ref a), .val (.int (natI m)), .unset] [(.int (natI cap))] h0 _ _ _
  refine Own.istoreN (L' := #[.val (.ref a), .val (.int (natI m)), .val (.int (natI cap))]) C d22_10 rfl ?_
  refine Own.iloadN C d22_11 rfl ?_
  refine Own.iloadN C d22_12 rfl ?_
  refine Own.isub C d22_13 ?_
  refine if_le C d22_14 (fun q1 => ?_) (fun q1 => ?_)
  · have hle : m ≤ cap := by rw [lt32, hsub, z0] at q1; omega
    exact retV C (gs := [b]) d22_38 (dle rfl) (by omega) (by simp) ⟨rfl, b, cap, rfl, S0, hle, Or.inl rfl⟩
  · have hlt : cap < m := by rw [lt32, hsub, z0] at q1; omega
    omega
set_option maxRecDepth 65536 in
set_option maxHeartbeats 4000000 in
theorem k_inflateIf {Z : State} {a0 : Array Value} (hw : ∀ d ∈ tables_1, d.before a0 Z = true) (hs : Stt Z) {n0 : Nat} {h0 : Heap} {a s : Addr} (Cd : Fld Z h0 a "java/lang/AbstractStringBuilder" "coder" "B" (.int 0)) (E : Exa Z h0 s "java/lang/String") (Fc : Fld Z h0 s "java/lang/String" "coder" "B" (.int 0)) (O : Old Z n0 h0) :
    Con WD Z EL0 n0 (⟨"java/lang/AbstractStringBuilder", "inflateIfNeededFor", "(Ljava/lang/String;)V"⟩ : MethodName) jdk_68_method_71_code 2 none (Rm 1 0 0 13) [(.ref a), (.ref s)] h0 [] (fun v h gs => v = none ∧ gs = []) := by
  refine Con.of (a0 := a0) (by first | (exact plainFor_of_name (by first | (simp [plainName, overriddenIn]; done) | decide +kernel)) | decide +kernel) (hEL hw) hWE O (L0 := #[.val (.ref a), .val (.ref s)]) (fun m => by first | rfl | (simp [entryFrame, mkF, argsToLocals, Value.category]; done)) ?_
  intro K C hh
  obtain ⟨cv, hcv, Sc⟩ := st_c hs
  refine getS_ C (hw _ (List.mem_of_getElem? (i := 81) rfl)) Sc d24_0 ?_
  refine if_eq C d24_3 (fun q1 => ?_) (fun q1 => ?_)
  · exact absurd q1 hcv
  · refine Own.aloadN C d24_6 rfl rfl ?_
    refine getF_ C (hw _ (List.mem_of_getElem? (i := 84) rfl)) Cd d24_7 ?_
    refine Own.aloadN C d24_10 rfl rfl ?_
    refine callV_ C (as' := []) (st := [(.int (0 : Int32))]) (hw _ (List.mem_of_getElem? (i := 138) rfl)) (hw _ (List.mem_of_getElem? (i := 53) rfl)) (fun _ hZ => notFace_of_selects (args := #[]) (mvT hZ (hw _ (List.mem_of_getElem? (i := 55) rfl)))) (hw _ (List.mem_of_getElem? (i := 55) rfl)) (hw _ (List.mem_of_getElem? (i := 54) rfl)) (hw _ (List.mem_of_getElem? (i := 7) rfl)) (hw _ (List.mem_of_getElem? (i := 56) rfl)) ⟨by decide, by decide⟩ E pd__28_29B rfl (fun O => k_scoder hw hs rfl Fc O) (fun _ q => nomatch q) rfl (dle rfl) (dle rfl) (dle rfl) (dle rfl) d24_11 rfl (fun v2 hp2 gs2 K2 Q2 => ?_)
    obtain ⟨rfl, rfl⟩ := Q2
    show Go _ K Z _ n0 _ _ 14 #[.val (.ref a), .val (.ref s)] [(.int (0 : Int32)), (.int (0 : Int32))] hp2 _ _ _
    refine icmp_eq C d24_14 (fun q3 => ?_) (fun q3 => ?_)
    · exact retV C (gs := []) d24_21 (dle rfl) (dle rfl) (fun _ q => nomatch q) ⟨rfl, rfl⟩
    · exact absurd rfl q3
set_option maxRecDepth 65536 in
set_option maxHeartbeats 4000000 in
theorem k_getBytes {Z : State} {a0 : Array Value} (hw : ∀ d ∈ tables_1, d.before a0 Z = true) (hs : Stt Z) {n0 : Nat} {h0 : Heap} {s b c : Addr} {ds : List Int32} {ws : List Value} {i : Nat} (E : Exa Z h0 s "java/lang/String") (Fc : Fld Z h0 s "java/lang/String" "coder" "B" (.int 0)) (Fv : Fld Z h0 s "java/lang/String" "value" "[B" (.ref c)) (A : Ary Z h0 c .byte (lat ds)) (B : ByA Z h0 b ws) (hd : ds.length ≤ 4096) (hi : i + ds.length ≤ ws.length) (hw4 : ws.length ≤ 4096) (O : Old Z n0 h0) :
    Con WD Z EL0 n0 (⟨"java/lang/String", "getBytes", "([BIB)V"⟩ : MethodName) jdk_42_method_147_code 4 none (Rm 1 0 0 18) [(.ref s), (.ref b), (.int (natI i)), (.int (0 : Int32))] h0 [b] (fun v h gs => v = none ∧ gs = [] ∧ ByA Z h b (over ws (lat ds) 0 i ds.length)) := by
  refine Con.of (a0 := a0) (by first | (exact plainFor_of_name (by first | (simp [plainName, overriddenIn]; done) | decide +kernel)) | decide +kernel) (hEL hw) hWE O (L0 := #[.val (.ref s), .val (.ref b), .val (.int (natI i)), .val (.int (0 : Int32))]) (fun m => by first | rfl | (simp [entryFrame, mkF, argsToLocals, Value.category]; done)) ?_
  intro K C hh
  have el := natI_toInt (i := ds.length) (by omega)
  have ei := natI_toInt (i := i) (by omega)
  refine Own.aloadN C d25_0 rfl rfl ?_
  refine callV_ C (as' := []) (st := []) (hw _ (List.mem_of_getElem? (i := 52) rfl)) (hw _ (List.mem_of_getElem? (i := 53) rfl)) (fun _ hZ => notFace_of_selects (args := #[]) (mvT hZ (hw _ (List.mem_of_getElem? (i := 55) rfl)))) (hw _ (List.mem_of_getElem? (i := 55) rfl)) (hw _ (List.mem_of_getElem? (i := 54) rfl)) (hw _ (List.mem_of_getElem? (i := 7) rfl)) (hw _ (List.mem_of_getElem? (i := 56) rfl)) ⟨by decide, by decide⟩ E pd__28_29B rfl (fun O => k_scoder hw hs rfl Fc O) (fun _ q => nomatch q) rfl (dle rfl) (dle rfl) (dle rfl) (dle rfl) d25_1 rfl (fun v1 hp1 gs1 K1 Q1 => ?_)
  obtain ⟨rfl, rfl⟩ := Q1
  show Go _ K Z _ n0 _ _ 4 #[.val (.ref s), .val (.ref b), .val (.int (natI i)), .val (.int (0 : Int32))] [(.int (0 : Int32))] hp1 _ _ _
  refine Own.iloadN C d25_4 rfl ?_
  refine icmp_ne C d25_5 (fun q2 => ?_) (fun q2 => ?_)
  · exact absurd rfl q2
  · have Ax1 := A.keep K1 nin0
    have Bx1 := B.keep K1 nin0
    have Vx1 := Fv.keep K1 nin0
    refine Own.aloadN C d25_8 rfl rfl ?_
    refine getF_ C (hw _ (List.mem_of_getElem? (i := 33) rfl)) Vx1 d25_9 ?_
    refine Own.iconst (v := 0) C d25_12 rfl ?_
    refine Own.aloadN C d25_13 rfl rfl ?_
    refine Own.iloadN C d25_14 rfl ?_
    refine Own.iloadN C d25_15 rfl ?_
    refine Own.ishl C d25_16 ?_
    rw [shl0]
    show Go _ K Z _ n0 _ _ 17 #[.val (.ref s), .val (.ref b), .val (.int (natI i)), .val (.int (0 : Int32))] [(.int (natI i)), (.ref b), (.int (0 : Int32)), (.ref c)] hp1 _ _ _
    refine Own.aloadN C d25_17 rfl rfl ?_
    refine getF_ C (hw _ (List.mem_of_getElem? (i := 33) rfl)) Vx1 d25_18 ?_
    refine arrlen C Ax1 (z := (natI ds.length)) (by rw [el, lat_len]) d25_21 ?_
    refine acopy_ C (st := []) (hw _ (List.mem_of_getElem? (i := 144) rfl)) (hw _ (List.mem_of_getElem? (i := 147) rfl)) (hw _ (List.mem_of_getElem? (i := 145) rfl)) (hw _ (List.mem_of_getElem? (i := 146) rfl)) Ax1 Bx1.1 0 i ds.length rfl ei el (by rw [lat_len]; omega) (by omega) (fun v hv => fits_lat v (List.mem_of_mem_drop (List.mem_of_mem_take hv))) (by simp) rfl (dle rfl) (dle rfl) d25_22 (fun hp3 K3 A3 => ?_)
    refine Own.goto_ C d25_25 ?_
    exact retV C (gs := []) d25_43 (dle rfl) (dle rfl) (fun _ q => nomatch q) ⟨rfl, rfl, A3, Bx1.2.1.keep K3, fun v hv => by unfold over at hv; rcases List.mem_append.mp hv with z | z; (rcases List.mem_append.mp z with z | z; exact Bx1.2.2 v (List.mem_of_mem_take z); exact fits_lat v (List.mem_of_mem_drop (List.mem_of_mem_take z))); exact Bx1.2.2 v (List.mem_of_mem_drop z)⟩
set_option maxRecDepth 65536 in
set_option maxHeartbeats 4000000 in
theorem k_putString {Z : State} {a0 : Array Value} (hw : ∀ d ∈ tables_1, d.before a0 Z = true) (hs : Stt Z) {n0 : Nat} {h0 : Heap} {a b s : Addr} {cs ds : List Int32} {cap : Nat} (S : Sb Z h0 a b cs cap) (F : Str Z h0 s ds) (hds : ∀ c ∈ ds, c.toInt < 256) (hfit : cs.length + ds.length ≤ cap) (O : Old Z n0 h0) :
    Con WD Z EL0 n0 (⟨"java/lang/AbstractStringBuilder", "putStringAt", "(ILjava/lang/String;)V"⟩ : MethodName) jdk_68_method_73_code 3 none (Rm 2 0 0 33) [(.ref a), (.int (natI cs.length)), (.ref s)] h0 [b] (fun v h gs => v = none ∧ gs = [] ∧ Exa Z h a "java/lang/StringBuilder" ∧ Fld Z h a "java/lang/AbstractStringBuilder" "value" "[B" (.ref b) ∧ Fld Z h a "java/lang/AbstractStringBuilder" "count" "I" (.int (natI cs.length)) ∧ Fld Z h a "java/lang/AbstractStringBuilder" "coder" "B" (.int 0) ∧ ∃ rest, ByA Z h b (lat (cs ++ ds) ++ rest) ∧ (cs ++ ds).length + rest.length = cap) := by
  refine Con.of (a0 := a0) (by first | (exact plainFor_of_name (by first | (simp [plainName, overriddenIn]; done) | decide +kernel)) | decide +kernel) (hEL hw) hWE O (L0 := #[.val (.ref a), .val (.int (natI cs.length)), .val (.ref s)]) (fun m => by first | rfl | (simp [entryFrame, mkF, argsToLocals, Value.category]; done)) ?_
  intro K C hh
  obtain ⟨E', hc1, hl1, c, z, vs, Fv, Fc, A, Bt⟩ := F
  obtain ⟨rfl, rfl⟩ : z = 0 ∧ vs = lat ds := by rcases Bt with ⟨-, p, q⟩ | ⟨⟨c, hc, p⟩, -⟩; exact ⟨p, q⟩; exact absurd (hds c hc) (by omega)
  obtain ⟨E, V, Nc, Cd, ⟨rest, B, hl⟩, hcs, hcap⟩ := S
  have hvl : (lat cs ++ rest).length = cap := by rw [List.length_append, lat_len]; omega
  refine Own.aloadN C d23_0 rfl rfl ?_
  refine Own.aloadN C d23_1 rfl rfl ?_
  refine callP_ C (as' := [(.ref s)]) (st := []) (hw _ (List.mem_of_getElem? (i := 133) rfl)) (hw _ (List.mem_of_getElem? (i := 134) rfl)) (hw _ (List.mem_of_getElem? (i := 136) rfl)) (hw _ (List.mem_of_getElem? (i := 135) rfl)) (hw _ (List.mem_of_getElem? (i := 78) rfl)) (hw _ (List.mem_of_getElem? (i := 137) rfl)) ⟨by decide, by decide⟩ E pd__28Ljava_2flang_2fString_3b_29V rfl (fun O => k_inflateIf hw hs Cd E' Fc O) (fun _ q => nomatch q) rfl (dle rfl) (dle rfl) (dle rfl) (dle rfl) d23_2 rfl (fun v1 hp1 gs1 K1 Q1 => ?_)
  obtain ⟨rfl, rfl⟩ := Q1
  show Go _ K Z _ n0 _ _ 5 #[.val (.ref a), .val (.int (natI cs.length)), .val (.ref s)] [] hp1 _ _ _
  refine Own.aloadN C d23_5 rfl rfl ?_
  refine Own.aloadN C d23_6 rfl rfl ?_
  refine getF_ C (hw _ (List.mem_of_getElem? (i := 82) rfl)) (V.keep K1 nin0) d23_7 ?_
  refine Own.iloadN C d23_10 rfl ?_
  refine Own.aloadN C d23_11 rfl rfl ?_
  refine getF_ C (hw _ (List.mem_of_getElem? (i := 84) rfl)) (Cd.keep K1 nin0) d23_12 ?_
  refine callV_ C (as' := [(.ref b), (.int (natI cs.length)), (.int (0 : Int32))]) (st := []) (hw _ (List.mem_of_getElem? (i := 139) rfl)) (hw _ (List.mem_of_getElem? (i := 140) rfl)) (fun _ hZ => notFace_of_selects (args := #[]) (mvT hZ (hw _ (List.mem_of_getElem? (i := 142) rfl)))) (hw _ (List.mem_of_getElem? (i := 142) rfl)) (hw _ (List.mem_of_getElem? (i := 141) rfl)) (hw _ (List.mem_of_getElem? (i := 7) rfl)) (hw _ (List.mem_of_getElem? (i := 143) rfl)) ⟨by decide, by decide⟩ (E'.keep K1) pd__28_5bBIB_29V rfl (fun O => k_getBytes hw hs (E'.keep K1) (Fc.keep K1 nin0) (Fv.keep K1 nin0) (A.keep K1 nin0) (B.keep K1 nin0) hl1 (by rw [hvl]; omega) (by rw [hvl]; omega) O) (by simp) rfl (dle rfl) (dle rfl) (dle rfl) (dle rfl) d23_15 rfl (fun v2 hp2 gs2 K2 Q2 => ?_)
  obtain ⟨rfl, rfl, Bx2⟩ := Q2
  show Go _ K Z _ n0 _ _ 18 #[.val (.ref a), .val (.int (natI cs.length)), .val (.ref s)] [] hp2 _ _ _
  rw [over_end (by omega)] at Bx2
  have hba : a ∉ [b] := ninS (fun e => absurd (ne_exa E B.2.1 (by decide)) (fun z => z e)) nin0
  exact retV C (gs := []) d23_18 (dle rfl) (dle rfl) (fun _ q => nomatch q) ⟨rfl, rfl, (E.keep K1).keep K2, (V.keep K1 nin0).keep K2 hba, (Nc.keep K1 nin0).keep K2 hba, (Cd.keep K1 nin0).keep K2 hba, rest.drop ds.length, Bx2, by rw [List.length_append, List.length_drop]; omega⟩
set_option maxRecDepth 65536 in
set_option maxHeartbeats 4000000 in
theorem k_asbapp {Z : State} {a0 : Array Value} (hw : ∀ d ∈ tables_1, d.before a0 Z = true) (hs : Stt Z) {n0 : Nat} {h0 : Heap} {a b s : Addr} {cs ds : List Int32} {cap N : Nat} (S : Sb Z h0 a b cs cap) (F : Str Z h0 s ds) (hds : ∀ c ∈ ds, c.toInt < 256) (hsa : NotIn Z h0 s a) (hsb : NotIn Z h0 s b) (hN : cs.length + ds.length ≤ cap ∧ N ≤ 4096) (O : Old Z n0 h0) :
    Con WD Z EL0 n0 (⟨"java/lang/AbstractStringBuilder", "append", "(Ljava/lang/String;)Ljava/lang/AbstractStringBuilder;"⟩ : MethodName) jdk_68_method_22_code 3 (some (.object "java/lang/AbstractStringBuilder")) (Rm 3 0 0 47) [(.ref a), (.ref s)] h0 [a, b] (fun v h gs => v = some (.ref a) ∧ ∃ (b' : Addr) (cap' : Nat), gs = [b'] ∧ Sb Z h a b' (cs ++ ds) cap' ∧ (cap' = cap ∨ cap' = cap + max (cs.length + ds.length - cap) (cap + 2))) := by
  refine Con.of (a0 := a0) (by first | (exact plainFor_of_name (by first | (simp [plainName, overriddenIn]; done) | decide +kernel)) | decide +kernel) (hEL hw) hWE O (L0 := #[.val (.ref a), .val (.ref s), .unset]) (fun m => by first | rfl | (simp [entryFrame, mkF, argsToLocals, Value.category]; done)) ?_
  intro K C hh
  have lF := F.2.2.1
  have hle := S.le
  have hvc := slot_ne (Or.inl (hw _ (List.mem_of_getElem? (i := 83) rfl)) : Laid Z a0 "java/lang/StringBuilder" "java/lang/AbstractStringBuilder" "value" "[B") (Or.inl (hw _ (List.mem_of_getElem? (i := 85) rfl)) : Laid Z a0 "java/lang/StringBuilder" "java/lang/AbstractStringBuilder" "coder" "B") (by decide) (t := .array .byte) (t' := .byte) (by decide) (by decide)
  have hvn := slot_ne (Or.inl (hw _ (List.mem_of_getElem? (i := 83) rfl)) : Laid Z a0 "java/lang/StringBuilder" "java/lang/AbstractStringBuilder" "value" "[B") (Or.inl (hw _ (List.mem_of_getElem? (i := 122) rfl)) : Laid Z a0 "java/lang/StringBuilder" "java/lang/AbstractStringBuilder" "count" "I") (by decide) (t := .array .byte) (t' := .int) (by decide) (by decide)
  have hcn := slot_ne (Or.inl (hw _ (List.mem_of_getElem? (i := 85) rfl)) : Laid Z a0 "java/lang/StringBuilder" "java/lang/AbstractStringBuilder" "coder" "B") (Or.inl (hw _ (List.mem_of_getElem? (i := 122) rfl)) : Laid Z a0 "java/lang/StringBuilder" "java/lang/AbstractStringBuilder" "count" "I") (by decide) (t := .byte) (t' := .int) (by decide) (by decide)
  refine Own.aloadN C d21_0 rfl rfl ?_
  refine ifnonnullY C d21_1 ?_
  refine Own.aloadN C d21_9 rfl rfl ?_
  refine callV_ C (as' := []) (st := []) (hw _ (List.mem_of_getElem? (i := 120) rfl)) (hw _ (List.mem_of_getElem? (i := 48) rfl)) (fun _ hZ => notFace_of_selects (args := #[]) (mvT hZ (hw _ (List.mem_of_getElem? (i := 50) rfl)))) (hw _ (List.mem_of_getElem? (i := 50) rfl)) (hw _ (List.mem_of_getElem? (i := 49) rfl)) (hw _ (List.mem_of_getElem? (i := 7) rfl)) (hw _ (List.mem_of_getElem? (i := 51) rfl)) ⟨by decide, by decide⟩ F.1 pd__28_29I rfl (fun O => k_length hw hs F O) (fun _ q => nomatch q) rfl (dle rfl) (dle rfl) (dle rfl) (by omega) d21_10 rfl (fun v1 hp1 gs1 K1 Q1 => ?_)
  obtain ⟨rfl, rfl⟩ := Q1
  show Go _ K Z _ n0 _ _ 13 #[.val (.ref a), .val (.ref s), .unset] [(.int (natI ds.length))] hp1 _ _ _
  have Sx1 := S.keep K1 nin0 nin0
  have Fx1 := F.keep K1
  refine Own.istoreN (L' := #[.val (.ref a), .val (.ref s), .val (.int (natI ds.length))]) C d21_13 rfl ?_
  refine Own.aloadN C d21_14 rfl rfl ?_
  refine Own.aloadN C d21_15 rfl rfl ?_
  refine getF_ C (hw _ (List.mem_of_getElem? (i := 121) rfl)) Sx1.2.2.1 d21_16 ?_
  refine Own.iloadN C d21_19 rfl ?_
  refine Own.iadd C d21_20 ?_
  rw [natI_plus (by omega)]
  show Go _ K Z _ n0 _ _ 21 #[.val (.ref a), .val (.ref s), .val (.int (natI ds.length))] [(.int (natI (cs.length + ds.length))), (.ref a)] hp1 _ _ _
  refine callP_ C (as' := [(.int (natI (cs.length + ds.length)))]) (st := []) (hw _ (List.mem_of_getElem? (i := 123) rfl)) (hw _ (List.mem_of_getElem? (i := 124) rfl)) (hw _ (List.mem_of_getElem? (i := 126) rfl)) (hw _ (List.mem_of_getElem? (i := 125) rfl)) (hw _ (List.mem_of_getElem? (i := 78) rfl)) (hw _ (List.mem_of_getElem? (i := 127) rfl)) ⟨by decide, by decide⟩ Sx1.1 pd__28I_29V rfl (fun O => k_ensure (N := N) hw hs Sx1 (by omega) (by omega) O) (by simp) rfl (dle rfl) (dle rfl) (dle rfl) (by omega) d21_21 rfl (fun v2 hp2 gs2 K2 Q2 => ?_)
  obtain ⟨rfl, b', cap', rfl, Sx2, hm2, hcap2⟩ := Q2
  show Go _ K Z _ n0 _ _ 24 #[.val (.ref a), .val (.ref s), .val (.int (natI ds.length))] [] hp2 _ _ _
  have Fx2 : Str Z hp2 s ds := Fx1.keep2 K2 (hsa.keep F K1) (hsb.keep F K1)
  refine Own.aloadN C d21_24 rfl rfl ?_
  refine Own.aloadN C d21_25 rfl rfl ?_
  refine getF_ C (hw _ (List.mem_of_getElem? (i := 121) rfl)) Sx2.2.2.1 d21_26 ?_
  refine Own.aloadN C d21_29 rfl rfl ?_
  refine callP_ C (as' := [(.int (natI cs.length)), (.ref s)]) (st := []) (hw _ (List.mem_of_getElem? (i := 128) rfl)) (hw _ (List.mem_of_getElem? (i := 129) rfl)) (hw _ (List.mem_of_getElem? (i := 131) rfl)) (hw _ (List.mem_of_getElem? (i := 130) rfl)) (hw _ (List.mem_of_getElem? (i := 78) rfl)) (hw _ (List.mem_of_getElem? (i := 132) rfl)) ⟨by decide, by decide⟩ Sx2.1 pd__28ILjava_2flang_2fString_3b_29V rfl (fun O => k_putString hw hs Sx2 Fx2 hds (by omega) O) (by simp) rfl (dle rfl) (dle rfl) (dle rfl) (by omega) d21_30 rfl (fun v3 hp3 gs3 K3 Q3 => ?_)
  obtain ⟨rfl, rfl, Ex3, Vx3, Nx3, Cx3, r3, Bx3, hl3⟩ := Q3
  show Go _ K Z _ n0 _ _ 33 #[.val (.ref a), .val (.ref s), .val (.int (natI ds.length))] [] hp3 _ _ _
  refine Own.aloadN C d21_33 rfl rfl ?_
  refine Own.dup C d21_34 rfl ?_
  refine getF_ C (hw _ (List.mem_of_getElem? (i := 121) rfl)) Nx3 d21_35 ?_
  refine Own.iloadN C d21_38 rfl ?_
  refine Own.iadd C d21_39 ?_
  rw [natI_plus (by omega)]
  show Go _ K Z _ n0 _ _ 40 #[.val (.ref a), .val (.ref s), .val (.int (natI ds.length))] [(.int (natI (cs.length + ds.length))), (.ref a)] hp3 _ _ _
  refine putF_ C (v' := .int (natI (cs.length + ds.length))) (ty := .int) (hw _ (List.mem_of_getElem? (i := 121) rfl)) Nx3 Ex3 (Or.inl (hw _ (List.mem_of_getElem? (i := 122) rfl))) (hw _ (List.mem_of_getElem? (i := 69) rfl)) (by decide) rfl rfl (by simp) d21_40 (fun hp4 W5 => ?_)
  refine Own.aloadN C d21_43 rfl rfl ?_
  have hba : b' ≠ a := fun e => ne_exa Bx3.2.1 Ex3 (by decide) e
  exact retA C (gs := [b']) rfl rfl d21_44 (dle rfl) (by omega) (by simp) ⟨rfl, b', cap', rfl, ⟨Ex3.wr W5, Vx3.other W5 (Or.inr hvn), by rw [List.length_append]; exact Nx3.same W5, Cx3.other W5 (Or.inr hcn), ⟨r3, Bx3.keep (Keep.of_wr W5) (ninS hba nin0), hl3⟩, fun c hc => by rcases List.mem_append.mp hc with z | z; exact S.2.2.2.2.2.1 c z; exact ⟨(F.2.1 c z).1, hds c z⟩, Sx2.le.2⟩, hcap2⟩
set_option maxRecDepth 65536 in
set_option maxHeartbeats 4000000 in
theorem k_append {Z : State} {a0 : Array Value} (hw : ∀ d ∈ tables_1, d.before a0 Z = true) (hs : Stt Z) {n0 : Nat} {h0 : Heap} {a b s : Addr} {cs ds : List Int32} {cap N : Nat} (S : Sb Z h0 a b cs cap) (F : Str Z h0 s ds) (hds : ∀ c ∈ ds, c.toInt < 256) (hsa : NotIn Z h0 s a) (hsb : NotIn Z h0 s b) (hN : cs.length + ds.length ≤ cap ∧ N ≤ 4096) (O : Old Z n0 h0) :
    Con WD Z EL0 n0 (⟨"java/lang/StringBuilder", "append", "(Ljava/lang/String;)Ljava/lang/StringBuilder;"⟩ : MethodName) jdk_67_method_7_code 2 (some (.object "java/lang/StringBuilder")) (Rm 4 0 0 61) [(.ref a), (.ref s)] h0 [a, b] (fun v h gs => v = some (.ref a) ∧ ∃ (b' : Addr) (cap' : Nat), gs = [b'] ∧ Sb Z h a b' (cs ++ ds) cap' ∧ (cap' = cap ∨ cap' = cap + max (cs.length + ds.length - cap) (cap + 2))) := by
  refine Con.of (a0 := a0) (by first | (exact plainFor_of_name (by first | (simp [plainName, overriddenIn]; done) | decide +kernel)) | decide +kernel) (hEL hw) hWE O (L0 := #[.val (.ref a), .val (.ref s)]) (fun m => by first | rfl | (simp [entryFrame, mkF, argsToLocals, Value.category]; done)) ?_
  intro K C hh
  refine Own.aloadN C d20_0 rfl rfl ?_
  refine Own.aloadN C d20_1 rfl rfl ?_
  refine callU_ C (as' := [(.ref s)]) (st := []) (hw _ (List.mem_of_getElem? (i := 115) rfl)) (same_of (x := ⟨"java/lang/AbstractStringBuilder", "ensureCapacityInternal", "(I)V"⟩) rfl (hw _ (List.mem_of_getElem? (i := 118) rfl)) (hw _ (List.mem_of_getElem? (i := 126) rfl)) ⟨by decide, by decide⟩) (hw _ (List.mem_of_getElem? (i := 116) rfl)) (hw _ (List.mem_of_getElem? (i := 117) rfl)) (by decide) (hw _ (List.mem_of_getElem? (i := 78) rfl)) (hw _ (List.mem_of_getElem? (i := 119) rfl)) S.1 pd__28Ljava_2flang_2fString_3b_29Ljava_2flang_2fAbstractStringBuilder_3b rfl (fun O => k_asbapp (N := N) hw hs S F hds hsa hsb hN O) (by simp) rfl (dle rfl) (dle rfl) (dle rfl) (by omega) d20_2 rfl (fun v1 hp1 gs1 K1 Q1 => ?_)
  obtain ⟨rfl, b', cap', rfl, Sx2, hc2⟩ := Q1
  show Go _ K Z _ n0 _ _ 5 #[.val (.ref a), .val (.ref s)] [(.ref a)] hp1 _ _ _
  refine Own.pop C d20_5 rfl ?_
  refine Own.aloadN C d20_6 rfl rfl ?_
  exact retA C (gs := [b']) rfl rfl d20_7 (dle rfl) (by omega) (by simp) ⟨rfl, b', cap', rfl, Sx2, hc2⟩
set_option maxRecDepth 65536 in
set_option maxHeartbeats 4000000 in
theorem k_checkLength {Z : State} {a0 : Array Value} (hw : ∀ d ∈ tables_1, d.before a0 Z = true) (hs : Stt Z) {n0 : Nat} {h0 : Heap} {f t : Nat} (h : f ≤ t ∧ t ≤ 100000) (O : Old Z n0 h0) :
    Con WD Z EL0 n0 (⟨"java/util/Arrays", "checkLength", "(II)V"⟩ : MethodName) jdk_65_method_131_code 2 none (Rm 0 0 0 0) [(.int (natI f)), (.int (natI t))] h0 [] (fun v h gs => v = none ∧ gs = []) := by
  refine Con.of (a0 := a0) (by first | (exact plainFor_of_name (by first | (simp [plainName, overriddenIn]; done) | decide +kernel)) | decide +kernel) (hEL hw) hWE O (L0 := #[.val (.int (natI f)), .val (.int (natI t))]) (fun m => by first | rfl | (simp [entryFrame, mkF, argsToLocals, Value.category]; done)) ?_
  intro K C hh
  have e1 := natI_lt (i := t) (j := f) (by omega) (by omega)
  refine Own.iloadN C d38_0 rfl ?_
  refine Own.iloadN C d38_1 rfl ?_
  refine icmp_ge C d38_2 (fun q1 => ?_) (fun q1 => ?_)
  · exact retV C (gs := []) d38_37 (dle rfl) (dle rfl) (fun _ q => nomatch q) ⟨rfl, rfl⟩
  · rw [e1] at q1
    omega
set_option maxRecDepth 65536 in
set_option maxHeartbeats 4000000 in
theorem k_corb {Z : State} {a0 : Array Value} (hw : ∀ d ∈ tables_1, d.before a0 Z = true) (hs : Stt Z) {n0 : Nat} {h0 : Heap} {b : Addr} {vs : List Value} {f t N : Nat} (hft : f ≤ t ∧ t ≤ vs.length ∧ vs.length ≤ 10000 ∧ t - f ≤ N ∧ N ≤ 10000) (A : Ary Z h0 b .byte vs) (hfit : ∀ v ∈ vs, fits .byte v = true) (O : Old Z n0 h0) :
    Con WD Z EL0 n0 (⟨"java/util/Arrays", "copyOfRangeByte", "([BII)[B"⟩ : MethodName) jdk_65_method_133_code 5 (some (.array .byte)) (Rm 1 1 (0 + 1 * N) 18) [(.ref b), (.int (natI f)), (.int (natI t))] h0 [] (fun v h gs => ∃ c : Addr, v = some (.ref c) ∧ gs = [c] ∧ h0.size ≤ c ∧ ByA Z h c ((vs.drop f).take (t - f))) := by
  refine Con.of (a0 := a0) (by first | (exact plainFor_of_name (by first | (simp [plainName, overriddenIn]; done) | decide +kernel)) | decide +kernel) (hEL hw) hWE O (L0 := #[.val (.ref b), .val (.int (natI f)), .val (.int (natI t)), .unset, .unset]) (fun m => by first | rfl | (simp [entryFrame, mkF, argsToLocals, Value.category]; done)) ?_
  intro K C hh
  have ev := natI_toInt (i := vs.length) (by omega)
  have ef := natI_toInt (i := f) (by omega)
  have em := natI_toInt (i := t - f) (by omega)
  have e3 : (natI (t - f)).toNatClampNeg = t - f := natI_clamp (by omega)
  refine Own.iloadN C d37_0 rfl ?_
  refine Own.iloadN C d37_1 rfl ?_
  refine callS_ C (as := [(.int (natI f)), (.int (natI t))]) (st := []) (hw _ (List.mem_of_getElem? (i := 198) rfl)) (hw _ (List.mem_of_getElem? (i := 199) rfl)) (hw _ (List.mem_of_getElem? (i := 193) rfl)) (hw _ (List.mem_of_getElem? (i := 200) rfl)) ⟨by decide, by decide⟩ pd__28II_29V rfl (fun O => k_checkLength hw hs (f := f) (t := t) ⟨by omega, by omega⟩ O) (fun _ q => nomatch q) rfl (dle rfl) (dle rfl) (dle rfl) (by omega) d37_2 rfl (fun v1 hp1 gs1 K1 Q1 => ?_)
  obtain ⟨rfl, rfl⟩ := Q1
  show Go _ K Z _ n0 _ _ 5 #[.val (.ref b), .val (.int (natI f)), .val (.int (natI t)), .unset, .unset] [] hp1 _ _ _
  have Ax1 := A.keep K1 nin0
  refine Own.iloadN C d37_5 rfl ?_
  refine Own.iloadN C d37_6 rfl ?_
  refine Own.isub C d37_7 ?_
  rw [natI_sub (by omega) (by omega)]
  show Go _ K Z _ n0 _ _ 8 #[.val (.ref b), .val (.int (natI f)), .val (.int (natI t)), .unset, .unset] [(.int (natI (t - f)))] hp1 _ _ _
  refine Own.istoreN (L' := #[.val (.ref b), .val (.int (natI f)), .val (.int (natI t)), .val (.int (natI (t - f))), .unset]) C d37_8 rfl ?_
  refine Own.iloadN C d37_9 rfl ?_
  refine newarrB C (hw _ (List.mem_of_getElem? (i := 24) rfl)) (by rw [lt32, em]; exact Int.not_lt.mpr (Int.natCast_nonneg _)) N (by rw [e3]; omega) (by omega) (dle rfl) (by omega) d37_10 (fun hp2 K2 lt2 le2 A2 => ?_)
  obtain ⟨c, g2⟩ : ∃ z, z = hp1.size := ⟨_, rfl⟩
  rw [← g2] at A2 lt2 le2 ⊢
  rw [e3] at A2
  have Ax2 := Ax1.keep K2 nin0
  refine Own.astore (L' := #[.val (.ref b), .val (.int (natI f)), .val (.int (natI t)), .val (.int (natI (t - f))), .val (.ref c)]) C d37_12 rfl rfl ?_
  refine Own.aloadN C d37_14 rfl rfl ?_
  refine Own.iloadN C d37_15 rfl ?_
  refine Own.aload C d37_16 rfl rfl ?_
  refine Own.iconst (v := 0) C d37_18 rfl ?_
  refine Own.aloadN C d37_19 rfl rfl ?_
  refine arrlen C Ax2 (z := (natI vs.length)) ev d37_20 ?_
  refine Own.iloadN C d37_21 rfl ?_
  refine Own.isub C d37_22 ?_
  rw [natI_sub (i := vs.length) (j := f) (by omega) (by omega)]
  show Go _ K Z _ n0 _ _ 23 #[.val (.ref b), .val (.int (natI f)), .val (.int (natI t)), .val (.int (natI (t - f))), .val (.ref c)] [(.int (natI (vs.length - f))), (.int (0 : Int32)), (.ref c), (.int (natI f)), (.ref b)] hp2 _ _ _
  refine Own.iloadN C d37_23 rfl ?_
  refine callS_ C (as := [(.int (natI (vs.length - f))), (.int (natI (t - f)))]) (st := [(.int (0 : Int32)), (.ref c), (.int (natI f)), (.ref b)]) (hw _ (List.mem_of_getElem? (i := 201) rfl)) (hw _ (List.mem_of_getElem? (i := 202) rfl)) (hw _ (List.mem_of_getElem? (i := 203) rfl)) (hw _ (List.mem_of_getElem? (i := 204) rfl)) ⟨by decide, by decide⟩ pd__28II_29I rfl (fun O => k_min hw hs (i := vs.length - f) (j := t - f) (by omega) (by omega) O) (fun _ q => nomatch q) rfl (dle rfl) (dle rfl) (dle rfl) (by omega) d37_24 rfl (fun v3 hp3 gs3 K3 Q3 => ?_)
  obtain ⟨rfl, rfl⟩ := Q3
  show Go _ K Z _ n0 _ _ 27 #[.val (.ref b), .val (.int (natI f)), .val (.int (natI t)), .val (.int (natI (t - f))), .val (.ref c)] [(.int (natI (min (vs.length - f) (t - f)))), (.int (0 : Int32)), (.ref c), (.int (natI f)), (.ref b)] hp3 _ _ _
  have Ax3 := Ax2.keep K3 nin0
  have Bx3 := A2.keep K3 nin0
  have emn : min (vs.length - f) (t - f) = t - f := by omega
  rw [emn]
  show Go _ K Z _ n0 _ _ 27 #[.val (.ref b), .val (.int (natI f)), .val (.int (natI t)), .val (.int (natI (t - f))), .val (.ref c)] [(.int (natI (t - f))), (.int (0 : Int32)), (.ref c), (.int (natI f)), (.ref b)] hp3 _ _ _
  refine acopy_ C (st := []) (hw _ (List.mem_of_getElem? (i := 205) rfl)) (hw _ (List.mem_of_getElem? (i := 147) rfl)) (hw _ (List.mem_of_getElem? (i := 145) rfl)) (hw _ (List.mem_of_getElem? (i := 146) rfl)) Ax3 Bx3.1 f 0 (t - f) ef rfl em (by omega) (by simp) (fun v hv => hfit v (List.mem_of_mem_drop (List.mem_of_mem_take hv))) (by simp) rfl (dle rfl) (dle rfl) d37_27 (fun hp4 K4 A4 => ?_)
  rw [over_sub _ (by omega)] at A4
  refine Own.aload C d37_30 rfl rfl ?_
  exact retA C (gs := [c]) rfl rfl d37_32 (dle rfl) (by omega) (by simp) ⟨c, rfl, rfl, (by have := K1.1; omega), A4, Bx3.2.1.keep K4, fun v hv => hfit v (List.mem_of_mem_drop (List.mem_of_mem_take hv))⟩
set_option maxRecDepth 65536 in
set_option maxHeartbeats 4000000 in
theorem k_corN {Z : State} {a0 : Array Value} (hw : ∀ d ∈ tables_1, d.before a0 Z = true) (hs : Stt Z) {n0 : Nat} {h0 : Heap} {b : Addr} {vs : List Value} {f t N : Nat} (hft : f ≤ t ∧ t ≤ vs.length ∧ vs.length ≤ 10000 ∧ t - f ≤ N ∧ N ≤ 10000) (A : Ary Z h0 b .byte vs) (hfit : ∀ v ∈ vs, fits .byte v = true) (hlt : t < vs.length ∨ 0 < f) (O : Old Z n0 h0) :
    Con WD Z EL0 n0 (⟨"java/util/Arrays", "copyOfRange", "([BII)[B"⟩ : MethodName) jdk_65_method_132_code 3 (some (.array .byte)) (Rm 2 1 (0 + 1 * N) 34) [(.ref b), (.int (natI f)), (.int (natI t))] h0 [] (fun v h gs => ∃ c : Addr, v = some (.ref c) ∧ gs = [c] ∧ h0.size ≤ c ∧ ByA Z h c ((vs.drop f).take (t - f))) := by
  refine Con.of (a0 := a0) (by first | (exact plainFor_of_name (by first | (simp [plainName, overriddenIn]; done) | decide +kernel)) | decide +kernel) (hEL hw) hWE O (L0 := #[.val (.ref b), .val (.int (natI f)), .val (.int (natI t))]) (fun m => by first | rfl | (simp [entryFrame, mkF, argsToLocals, Value.category]; done)) ?_
  intro K C hh
  have ev := natI_toInt (i := vs.length) (by omega)
  have ef := natI_toInt (i := f) (by omega)
  have z0 : (0 : Int32).toInt = 0 := rfl
  refine Own.iloadN C d36_0 rfl ?_
  refine if_ne C d36_1 (fun q1 => ?_) (fun q1 => ?_)
  · refine Own.aloadN C d36_10 rfl rfl ?_
    refine Own.iloadN C d36_11 rfl ?_
    refine Own.iloadN C d36_12 rfl ?_
    refine callS_ C (as := [(.ref b), (.int (natI f)), (.int (natI t))]) (st := []) (hw _ (List.mem_of_getElem? (i := 195) rfl)) (hw _ (List.mem_of_getElem? (i := 196) rfl)) (hw _ (List.mem_of_getElem? (i := 193) rfl)) (hw _ (List.mem_of_getElem? (i := 197) rfl)) ⟨by decide, by decide⟩ pd__28_5bBII_29_5bB rfl (fun O => k_corb (N := N) hw hs hft A hfit O) (fun _ q => nomatch q) rfl (dle rfl) (dle rfl) (dle rfl) (by omega) d36_13 rfl (fun v2 hp2 gs2 K2 Q2 => ?_)
    obtain ⟨c, rfl, rfl, hge, Bx1⟩ := Q2
    show Go _ K Z _ n0 _ _ 16 #[.val (.ref b), .val (.int (natI f)), .val (.int (natI t))] [(.ref c)] hp2 _ _ _
    exact retA C (gs := [c]) rfl rfl d36_16 (dle rfl) (by omega) (by simp) ⟨c, rfl, rfl, hge, Bx1⟩
  · have hf0 : f = 0 := by have := congrArg Int32.toInt q1; omega
    refine Own.iloadN C d36_4 rfl ?_
    refine Own.aloadN C d36_5 rfl rfl ?_
    refine arrlen C A (z := (natI vs.length)) ev d36_6 ?_
    refine icmp_eq C d36_7 (fun q3 => ?_) (fun q3 => ?_)
    · have ht : t = vs.length := (natI_inj (by omega) (by omega)).mp q3
      exact absurd ht (by omega)
    · refine Own.aloadN C d36_10 rfl rfl ?_
      refine Own.iloadN C d36_11 rfl ?_
      refine Own.iloadN C d36_12 rfl ?_
      refine callS_ C (as := [(.ref b), (.int (natI f)), (.int (natI t))]) (st := []) (hw _ (List.mem_of_getElem? (i := 195) rfl)) (hw _ (List.mem_of_getElem? (i := 196) rfl)) (hw _ (List.mem_of_getElem? (i := 193) rfl)) (hw _ (List.mem_of_getElem? (i := 197) rfl)) ⟨by decide, by decide⟩ pd__28_5bBII_29_5bB rfl (fun O => k_corb (N := N) hw hs hft A hfit O) (fun _ q => nomatch q) rfl (dle rfl) (dle rfl) (dle rfl) (by omega) d36_13 rfl (fun v4 hp4 gs4 K4 Q4 => ?_)
      obtain ⟨c, rfl, rfl, hge, Bx1⟩ := Q4
      show Go _ K Z _ n0 _ _ 16 #[.val (.ref b), .val (.int (natI f)), .val (.int (natI t))] [(.ref c)] hp4 _ _ _
      exact retA C (gs := [c]) rfl rfl d36_16 (dle rfl) (by omega) (by simp) ⟨c, rfl, rfl, hge, Bx1⟩
set_option maxRecDepth 65536 in
set_option maxHeartbeats 4000000 in
theorem k_cor {Z : State} {a0 : Array Value} (hw : ∀ d ∈ tables_1, d.before a0 Z = true) (hs : Stt Z) {n0 : Nat} {h0 : Heap} {b : Addr} {vs : List Value} {f t N : Nat} (hft : f ≤ t ∧ t ≤ vs.length ∧ vs.length ≤ 10000 ∧ t - f ≤ N ∧ N ≤ 10000) (A : ByA Z h0 b vs) (hlt : t < vs.length ∨ 0 < f) (O : Old Z n0 h0) :
    Con WD Z EL0 n0 (⟨"java/util/Arrays", "copyOfRange", "([BII)[B"⟩ : MethodName) jdk_65_method_132_code 3 (some (.array .byte)) (Rm 2 1 (0 + 1 * N) 34) [(.ref b), (.int (natI f)), (.int (natI t))] h0 [] (fun v h gs => ∃ c : Addr, v = some (.ref c) ∧ gs = [c] ∧ h0.size ≤ c ∧ ByA Z h c ((vs.drop f).take (t - f))) := by
  refine Con.of (a0 := a0) (by first | (exact plainFor_of_name (by first | (simp [plainName, overriddenIn]; done) | decide +kernel)) | decide +kernel) (hEL hw) hWE O (L0 := #[.val (.ref b), .val (.int (natI f)), .val (.int (natI t))]) (fun m => by first | rfl | (simp [entryFrame, mkF, argsToLocals, Value.category]; done)) ?_
  intro K C hh
  have ev := natI_toInt (i := vs.length) (by omega)
  have ef := natI_toInt (i := f) (by omega)
  have z0 : (0 : Int32).toInt = 0 := rfl
  refine Own.iloadN C d36_0 rfl ?_
  refine if_ne C d36_1 (fun q1 => ?_) (fun q1 => ?_)
  · refine Own.aloadN C d36_10 rfl rfl ?_
    refine Own.iloadN C d36_11 rfl ?_
    refine Own.iloadN C d36_12 rfl ?_
    refine callS_ C (as := [(.ref b), (.int (natI f)), (.int (natI t))]) (st := []) (hw _ (List.mem_of_getElem? (i := 195) rfl)) (hw _ (List.mem_of_getElem? (i := 196) rfl)) (hw _ (List.mem_of_getElem? (i := 193) rfl)) (hw _ (List.mem_of_getElem? (i := 197) rfl)) ⟨by decide, by decide⟩ pd__28_5bBII_29_5bB rfl (fun O => k_corb (N := N) hw hs hft A.1 A.2.2 O) (fun _ q => nomatch q) rfl (dle rfl) (dle rfl) (dle rfl) (by omega) d36_13 rfl (fun v2 hp2 gs2 K2 Q2 => ?_)
    obtain ⟨c, rfl, rfl, hge, Bx1⟩ := Q2
    show Go _ K Z _ n0 _ _ 16 #[.val (.ref b), .val (.int (natI f)), .val (.int (natI t))] [(.ref c)] hp2 _ _ _
    exact retA C (gs := [c]) rfl rfl d36_16 (dle rfl) (by omega) (by simp) ⟨c, rfl, rfl, hge, Bx1⟩
  · have hf0 : f = 0 := by have := congrArg Int32.toInt q1; omega
    refine Own.iloadN C d36_4 rfl ?_
    refine Own.aloadN C d36_5 rfl rfl ?_
    refine arrlen C A.1 (z := (natI vs.length)) ev d36_6 ?_
    refine icmp_eq C d36_7 (fun q3 => ?_) (fun q3 => ?_)
    · have ht : t = vs.length := (natI_inj (by omega) (by omega)).mp q3
      exact absurd ht (by omega)
    · refine Own.aloadN C d36_10 rfl rfl ?_
      refine Own.iloadN C d36_11 rfl ?_
      refine Own.iloadN C d36_12 rfl ?_
      refine callS_ C (as := [(.ref b), (.int (natI f)), (.int (natI t))]) (st := []) (hw _ (List.mem_of_getElem? (i := 195) rfl)) (hw _ (List.mem_of_getElem? (i := 196) rfl)) (hw _ (List.mem_of_getElem? (i := 193) rfl)) (hw _ (List.mem_of_getElem? (i := 197) rfl)) ⟨by decide, by decide⟩ pd__28_5bBII_29_5bB rfl (fun O => k_corb (N := N) hw hs hft A.1 A.2.2 O) (fun _ q => nomatch q) rfl (dle rfl) (dle rfl) (dle rfl) (by omega) d36_13 rfl (fun v4 hp4 gs4 K4 Q4 => ?_)
      obtain ⟨c, rfl, rfl, hge, Bx1⟩ := Q4
      show Go _ K Z _ n0 _ _ 16 #[.val (.ref b), .val (.int (natI f)), .val (.int (natI t))] [(.ref c)] hp4 _ _ _
      exact retA C (gs := [c]) rfl rfl d36_16 (dle rfl) (by omega) (by simp) ⟨c, rfl, rfl, hge, Bx1⟩
set_option maxRecDepth 65536 in
set_option maxHeartbeats 4000000 in
theorem k_getValue {Z : State} {a0 : Array Value} (hw : ∀ d ∈ tables_1, d.before a0 Z = true) (hs : Stt Z) {n0 : Nat} {h0 : Heap} {a b : Addr} {cs : List Int32} {cap : Nat} (S : Sb Z h0 a b cs cap) (O : Old Z n0 h0) :
    Con WD Z EL0 n0 (⟨"java/lang/AbstractStringBuilder", "getValue", "()[B"⟩ : MethodName) jdk_68_method_64_code 1 (some (.array .byte)) (Rm 0 0 0 0) [(.ref a)] h0 [] (fun v h gs => v = some (.ref b) ∧ gs = []) := by
  refine Con.of (a0 := a0) (by first | (exact plainFor_of_name (by first | (simp [plainName, overriddenIn]; done) | decide +kernel)) | decide +kernel) (hEL hw) hWE O (L0 := #[.val (.ref a)]) (fun m => by first | rfl | (simp [entryFrame, mkF, argsToLocals, Value.category]; done)) ?_
  intro K C hh
  refine Own.aloadN C d33_0 rfl rfl ?_
  refine getF_ C (hw _ (List.mem_of_getElem? (i := 82) rfl)) S.2.1 d33_1 ?_
  exact retA C (gs := []) rfl rfl d33_4 (dle rfl) (dle rfl) (fun _ q => nomatch q) ⟨rfl, rfl⟩
set_option maxRecDepth 65536 in
set_option maxHeartbeats 4000000 in
theorem k_asblen {Z : State} {a0 : Array Value} (hw : ∀ d ∈ tables_1, d.before a0 Z = true) (hs : Stt Z) {n0 : Nat} {h0 : Heap} {a b : Addr} {cs : List Int32} {cap : Nat} (S : Sb Z h0 a b cs cap) (O : Old Z n0 h0) :
    Con WD Z EL0 n0 (⟨"java/lang/AbstractStringBuilder", "length", "()I"⟩ : MethodName) jdk_68_method_6_code 1 (some .int) (Rm 0 0 0 0) [(.ref a)] h0 [] (fun v h gs => v = some (.int (natI cs.length)) ∧ gs = []) := by
  refine Con.of (a0 := a0) (by first | (exact plainFor_of_name (by first | (simp [plainName, overriddenIn]; done) | decide +kernel)) | decide +kernel) (hEL hw) hWE O (L0 := #[.val (.ref a)]) (fun m => by first | rfl | (simp [entryFrame, mkF, argsToLocals, Value.category]; done)) ?_
  intro K C hh
  refine Own.aloadN C d35_0 rfl rfl ?_
  refine getF_ C (hw _ (List.mem_of_getElem? (i := 121) rfl)) S.2.2.1 d35_1 ?_
  exact retI_ C (gs := []) d35_4 (dle rfl) (dle rfl) (fun _ q => nomatch q) ⟨rfl, rfl⟩
set_option maxRecDepth 65536 in
set_option maxHeartbeats 4000000 in
theorem k_sblen {Z : State} {a0 : Array Value} (hw : ∀ d ∈ tables_1, d.before a0 Z = true) (hs : Stt Z) {n0 : Nat} {h0 : Heap} {a b : Addr} {cs : List Int32} {cap : Nat} (S : Sb Z h0 a b cs cap) (O : Old Z n0 h0) :
    Con WD Z EL0 n0 (⟨"java/lang/StringBuilder", "length", "()I"⟩ : MethodName) jdk_67_method_93_code 1 (some .int) (Rm 1 0 0 12) [(.ref a)] h0 [] (fun v h gs => v = some (.int (natI cs.length)) ∧ gs = []) := by
  refine Con.of (a0 := a0) (by first | (exact plainFor_of_name (by first | (simp [plainName, overriddenIn]; done) | decide +kernel)) | decide +kernel) (hEL hw) hWE O (L0 := #[.val (.ref a)]) (fun m => by first | rfl | (simp [entryFrame, mkF, argsToLocals, Value.category]; done)) ?_
  intro K C hh
  refine Own.aloadN C d34_0 rfl rfl ?_
  refine callU_ C (as' := []) (st := []) (hw _ (List.mem_of_getElem? (i := 188) rfl)) (same_of (x := ⟨"java/lang/AbstractStringBuilder", "ensureCapacityInternal", "(I)V"⟩) rfl (hw _ (List.mem_of_getElem? (i := 183) rfl)) (hw _ (List.mem_of_getElem? (i := 126) rfl)) ⟨by decide, by decide⟩) (hw _ (List.mem_of_getElem? (i := 184) rfl)) (hw _ (List.mem_of_getElem? (i := 117) rfl)) (by decide) (hw _ (List.mem_of_getElem? (i := 78) rfl)) (hw _ (List.mem_of_getElem? (i := 189) rfl)) S.1 pd__28_29I rfl (fun O => k_asblen hw hs S O) (fun _ q => nomatch q) rfl (dle rfl) (dle rfl) (dle rfl) (dle rfl) d34_1 rfl (fun v1 hp1 gs1 K1 Q1 => ?_)
  obtain ⟨rfl, rfl⟩ := Q1
  show Go _ K Z _ n0 _ _ 4 #[.val (.ref a)] [(.int (natI cs.length))] hp1 _ _ _
  exact retI_ C (gs := []) d34_4 (dle rfl) (dle rfl) (fun _ q => nomatch q) ⟨rfl, rfl⟩
set_option maxRecDepth 65536 in
set_option maxHeartbeats 4000000 in
theorem k_asblat {Z : State} {a0 : Array Value} (hw : ∀ d ∈ tables_1, d.before a0 Z = true) (hs : Stt Z) {n0 : Nat} {h0 : Heap} {a b : Addr} {cs : List Int32} {cap : Nat} (S : Sb Z h0 a b cs cap) (O : Old Z n0 h0) :
    Con WD Z EL0 n0 (⟨"java/lang/AbstractStringBuilder", "isLatin1", "()Z"⟩ : MethodName) jdk_68_method_68_code 1 (some .boolean) (Rm 0 0 0 0) [(.ref a)] h0 [] (fun v h gs => v = some (.int 1) ∧ gs = []) := by
  refine Con.of (a0 := a0) (by first | (exact plainFor_of_name (by first | (simp [plainName, overriddenIn]; done) | decide +kernel)) | decide +kernel) (hEL hw) hWE O (L0 := #[.val (.ref a)]) (fun m => by first | rfl | (simp [entryFrame, mkF, argsToLocals, Value.category]; done)) ?_
  intro K C hh
  obtain ⟨cv, hcv, Sc⟩ := st_c hs
  refine getS_ C (hw _ (List.mem_of_getElem? (i := 81) rfl)) Sc d28_0 ?_
  refine if_eq C d28_3 (fun q1 => ?_) (fun q1 => ?_)
  · exact absurd q1 hcv
  · refine Own.aloadN C d28_6 rfl rfl ?_
    refine getF_ C (hw _ (List.mem_of_getElem? (i := 84) rfl)) S.2.2.2.1 d28_7 ?_
    refine if_ne C d28_10 (fun q2 => ?_) (fun q2 => ?_)
    · exact absurd rfl q2
    · refine Own.iconst (v := 1) C d28_13 rfl ?_
      refine Own.goto_ C d28_14 ?_
      exact retZ C (gs := []) d28_18 (dle rfl) (dle rfl) (fun _ q => nomatch q) ⟨rfl, rfl⟩
set_option maxRecDepth 65536 in
set_option maxHeartbeats 4000000 in
theorem k_initAsb {Z : State} {a0 : Array Value} (hw : ∀ d ∈ tables_1, d.before a0 Z = true) (hs : Stt Z) {n0 : Nat} {h0 : Heap} {s a b : Addr} {cs : List Int32} {cap N : Nat} (S : Sb Z h0 a b cs cap) (hN : cs.length ≤ N ∧ N ≤ 4096) (hlt : cs.length < cap) {u1 u2 : Value} (E : Exa Z h0 s "java/lang/String") (Fv : Fld Z h0 s "java/lang/String" "value" "[B" u1) (Fc : Fld Z h0 s "java/lang/String" "coder" "B" u2) (O : Old Z n0 h0) :
    Con WD Z EL0 n0 (⟨"java/lang/String", "<init>", "(Ljava/lang/AbstractStringBuilder;Ljava/lang/Void;)V"⟩ : MethodName) jdk_42_method_150_code 5 none (Rm 3 1 (0 + 1 * N) 49) [(.ref s), (.ref a), .null] h0 [s] (fun v h gs => v = none ∧ gs = [] ∧ Str Z h s cs) := by
  refine Con.of (a0 := a0) (by first | (exact plainFor_of_name (by first | (simp [plainName, overriddenIn]; done) | decide +kernel)) | decide +kernel) (hEL hw) hWE O (L0 := #[.val (.ref s), .val (.ref a), .val .null, .unset, .unset]) (fun m => by first | rfl | (simp [entryFrame, mkF, argsToLocals, Value.category]; done)) ?_
  intro K C hh
  have hne := slot_ne (Or.inr (hw _ (List.mem_of_getElem? (i := 34) rfl)) : Laid Z a0 "java/lang/String" "java/lang/String" "value" "[B") (Or.inr (hw _ (List.mem_of_getElem? (i := 32) rfl)) : Laid Z a0 "java/lang/String" "java/lang/String" "coder" "B") (by decide) (t := .array .byte) (t' := .byte) (by decide) (by decide)
  have hle := S.le
  refine Own.aloadN C d32_0 rfl rfl ?_
  refine initO_ C (hw _ (List.mem_of_getElem? (i := 16) rfl)) (hw _ (List.mem_of_getElem? (i := 17) rfl)) (hw _ (List.mem_of_getElem? (i := 18) rfl)) rfl (dle rfl) (dle rfl) d32_1 ?_
  refine Own.aloadN C d32_4 rfl rfl ?_
  refine callV_ C (as' := []) (st := []) (hw _ (List.mem_of_getElem? (i := 177) rfl)) (hw _ (List.mem_of_getElem? (i := 178) rfl)) (fun _ hZ => notFace_of_selects (args := #[]) (mvT hZ (hw _ (List.mem_of_getElem? (i := 180) rfl)))) (hw _ (List.mem_of_getElem? (i := 180) rfl)) (hw _ (List.mem_of_getElem? (i := 179) rfl)) (hw _ (List.mem_of_getElem? (i := 78) rfl)) (hw _ (List.mem_of_getElem? (i := 181) rfl)) ⟨by decide, by decide⟩ S.1 pd__28_29_5bB rfl (fun O => k_getValue hw hs S O) (fun _ q => nomatch q) rfl (dle rfl) (dle rfl) (dle rfl) (by omega) d32_5 rfl (fun v1 hp1 gs1 K1 Q1 => ?_)
  obtain ⟨rfl, rfl⟩ := Q1
  show Go _ K Z _ n0 _ _ 8 #[.val (.ref s), .val (.ref a), .val .null, .unset, .unset] [(.ref b)] hp1 _ _ _
  have Sx1 := S.keep K1 nin0 nin0
  refine Own.astoreN (L' := #[.val (.ref s), .val (.ref a), .val .null, .val (.ref b), .unset]) C d32_8 rfl rfl ?_
  refine Own.aloadN C d32_9 rfl rfl ?_
  refine callV_ C (as' := []) (st := []) (hw _ (List.mem_of_getElem? (i := 182) rfl)) (hw _ (List.mem_of_getElem? (i := 183) rfl)) (fun _ hZ => nf_sel (x := ⟨"java/lang/AbstractStringBuilder", "getValue", "()[B"⟩) rfl (args := #[]) (mvT hZ (hw _ (List.mem_of_getElem? (i := 180) rfl)))) (hw _ (List.mem_of_getElem? (i := 185) rfl)) (hw _ (List.mem_of_getElem? (i := 186) rfl)) (hw _ (List.mem_of_getElem? (i := 70) rfl)) (hw _ (List.mem_of_getElem? (i := 187) rfl)) ⟨by decide, by decide⟩ Sx1.1 pd__28_29I rfl (fun O => k_sblen hw hs Sx1 O) (fun _ q => nomatch q) rfl (dle rfl) (dle rfl) (dle rfl) (by omega) d32_10 rfl (fun v2 hp2 gs2 K2 Q2 => ?_)
  obtain ⟨rfl, rfl⟩ := Q2
  show Go _ K Z _ n0 _ _ 13 #[.val (.ref s), .val (.ref a), .val .null, .val (.ref b), .unset] [(.int (natI cs.length))] hp2 _ _ _
  have Sx2 := Sx1.keep K2 nin0 nin0
  refine Own.istore (L' := #[.val (.ref s), .val (.ref a), .val .null, .val (.ref b), .val (.int (natI cs.length))]) C d32_13 rfl ?_
  refine Own.aloadN C d32_15 rfl rfl ?_
  refine callV_ C (as' := []) (st := []) (hw _ (List.mem_of_getElem? (i := 190) rfl)) (hw _ (List.mem_of_getElem? (i := 158) rfl)) (fun _ hZ => notFace_of_selects (args := #[]) (mvT hZ (hw _ (List.mem_of_getElem? (i := 160) rfl)))) (hw _ (List.mem_of_getElem? (i := 160) rfl)) (hw _ (List.mem_of_getElem? (i := 159) rfl)) (hw _ (List.mem_of_getElem? (i := 78) rfl)) (hw _ (List.mem_of_getElem? (i := 161) rfl)) ⟨by decide, by decide⟩ Sx2.1 pd__28_29Z rfl (fun O => k_asblat hw hs Sx2 O) (fun _ q => nomatch q) rfl (dle rfl) (dle rfl) (dle rfl) (by omega) d32_16 rfl (fun v3 hp3 gs3 K3 Q3 => ?_)
  obtain ⟨rfl, rfl⟩ := Q3
  show Go _ K Z _ n0 _ _ 19 #[.val (.ref s), .val (.ref a), .val .null, .val (.ref b), .val (.int (natI cs.length))] [(.int (1 : Int32))] hp3 _ _ _
  have Sx3 := Sx2.keep K3 nin0 nin0
  have KK := (K1.trans K2 (fun _ q => nomatch q)).trans K3 (fun _ q => nomatch q)
  have Ex1 := E.keep KK
  have Vx1 := Fv.keep KK nin0
  have Cx1 := Fc.keep KK nin0
  refine if_eq C d32_19 (fun q4 => ?_) (fun q4 => ?_)
  · exact absurd q4 (by decide)
  · refine Own.aloadN C d32_22 rfl rfl ?_
    refine Own.iconst (v := 0) C d32_23 rfl ?_
    refine putF_ C (v' := .int (0 : Int32)) (ty := .byte) (hw _ (List.mem_of_getElem? (i := 31) rfl)) Cx1 Ex1 (Or.inr ⟨(hw _ (List.mem_of_getElem? (i := 32) rfl)), rfl, rfl⟩) (hw _ (List.mem_of_getElem? (i := 6) rfl)) (by decide) rfl rfl (by simp) d32_24 (fun hp5 W6 => ?_)
    have Ex2 := Ex1.wr W6
    have Cx2 := Cx1.same W6
    have Vx2 := Vx1.other W6 (Or.inr hne)
    obtain ⟨-, -, -, -, ⟨rest, Bq, hl⟩, hcs, hcap⟩ := Sx3
    have hsb : b ≠ s := fun e => ne_exa Bq.2.1 Ex1 (by decide) e
    have Bx2 := Bq.keep (Keep.of_wr W6) (ninS hsb nin0)
    have hvl : (lat cs ++ rest).length = cap := by rw [List.length_append, lat_len]; omega
    refine Own.aloadN C d32_27 rfl rfl ?_
    refine Own.aloadN C d32_28 rfl rfl ?_
    refine Own.iconst (v := 0) C d32_29 rfl ?_
    refine Own.iload C d32_30 rfl ?_
    refine callS_ C (as := [(.ref b), (.int (0 : Int32)), (.int (natI cs.length))]) (st := [(.ref s)]) (hw _ (List.mem_of_getElem? (i := 191) rfl)) (hw _ (List.mem_of_getElem? (i := 192) rfl)) (hw _ (List.mem_of_getElem? (i := 193) rfl)) (hw _ (List.mem_of_getElem? (i := 194) rfl)) ⟨by decide, by decide⟩ pd__28_5bBII_29_5bB rfl (fun O => k_cor (N := N) hw hs (f := 0) (t := cs.length) ⟨by omega, by omega, by omega, by omega, by omega⟩ Bx2 (Or.inl (by omega)) O) (fun _ q => nomatch q) rfl (dle rfl) (dle rfl) (dle rfl) (by omega) d32_32 rfl (fun v7 hp7 gs7 K7 Q7 => ?_)
    obtain ⟨c, rfl, rfl, hge, Bx4⟩ := Q7
    show Go _ K Z _ n0 _ _ 35 #[.val (.ref s), .val (.ref a), .val .null, .val (.ref b), .val (.int (natI cs.length))] [(.ref c), (.ref s)] hp7 _ _ _
    have Ex3 := Ex2.keep K7
    have Cx3 := Cx2.keep K7 nin0
    have Vx3 := Vx2.keep K7 nin0
    rw [List.drop_zero, Nat.sub_zero, List.take_left' (lat_len cs)] at Bx4
    have hcs2 : c ≠ s := fun e => ne_exa Bx4.2.1 Ex3 (by decide) e
    refine putF_ C (v' := .ref c) (ty := (.array .byte)) (hw _ (List.mem_of_getElem? (i := 33) rfl)) Vx3 Ex3 (Or.inr ⟨(hw _ (List.mem_of_getElem? (i := 34) rfl)), rfl, rfl⟩) (hw _ (List.mem_of_getElem? (i := 6) rfl)) (by decide) rfl rfl (by simp) d32_35 (fun hp8 W9 => ?_)
    refine Own.goto_ C d32_38 ?_
    exact retV C (gs := []) d32_97 (dle rfl) (by omega) (fun _ q => nomatch q) ⟨rfl, rfl, Ex3.wr W9, fun c hc => ⟨(hcs c hc).1, by have := (hcs c hc).2; omega⟩, by omega, c, 0, lat cs, Vx3.same W9, Cx3.other W9 (Or.inr hne.symm), Bx4.1.other W9 hcs2, Or.inl ⟨fun c hc => (hcs c hc).2, rfl, rfl⟩⟩
set_option maxRecDepth 65536 in
set_option maxHeartbeats 4000000 in
theorem k_initSb {Z : State} {a0 : Array Value} (hw : ∀ d ∈ tables_1, d.before a0 Z = true) (hs : Stt Z) {n0 : Nat} {h0 : Heap} {s a b : Addr} {cs : List Int32} {cap N : Nat} (S : Sb Z h0 a b cs cap) (hN : cs.length ≤ N ∧ N ≤ 4096) (hlt : cs.length < cap) {u1 u2 : Value} (E : Exa Z h0 s "java/lang/String") (Fv : Fld Z h0 s "java/lang/String" "value" "[B" u1) (Fc : Fld Z h0 s "java/lang/String" "coder" "B" u2) (O : Old Z n0 h0) :
    Con WD Z EL0 n0 (⟨"java/lang/String", "<init>", "(Ljava/lang/StringBuilder;)V"⟩ : MethodName) jdk_42_method_53_code 2 none (Rm 4 1 (0 + 1 * N) 65) [(.ref s), (.ref a)] h0 [s] (fun v h gs => v = none ∧ gs = [] ∧ Str Z h s cs) := by
  refine Con.of (a0 := a0) (by first | (exact plainFor_of_name (by first | (simp [plainName, overriddenIn]; done) | decide +kernel)) | decide +kernel) (hEL hw) hWE O (L0 := #[.val (.ref s), .val (.ref a)]) (fun m => by first | rfl | (simp [entryFrame, mkF, argsToLocals, Value.category]; done)) ?_
  intro K C hh
  refine Own.aloadN C d31_0 rfl rfl ?_
  refine Own.aloadN C d31_1 rfl rfl ?_
  refine Own.aconstNull C d31_2 ?_
  refine callI_ C (as' := [(.ref a), .null]) (st := []) rfl (hw _ (List.mem_of_getElem? (i := 174) rfl)) (hw _ (List.mem_of_getElem? (i := 175) rfl)) (hw _ (List.mem_of_getElem? (i := 7) rfl)) (hw _ (List.mem_of_getElem? (i := 176) rfl)) ⟨by decide, by decide⟩ pd__28Ljava_2flang_2fAbstractStringBuilder_3bLjava_2flang_2fVoid_3b_29V rfl (fun O => k_initAsb (N := N) hw hs S hN hlt E Fv Fc O) (by simp) rfl (dle rfl) (dle rfl) (dle rfl) (by omega) d31_3 rfl (fun v1 hp1 gs1 K1 Q1 => ?_)
  obtain ⟨rfl, rfl, F⟩ := Q1
  show Go _ K Z _ n0 _ _ 6 #[.val (.ref s), .val (.ref a)] [] hp1 _ _ _
  exact retV C (gs := []) d31_6 (dle rfl) (by omega) (fun _ q => nomatch q) ⟨rfl, rfl, F⟩
set_option maxRecDepth 65536 in
set_option maxHeartbeats 4000000 in
theorem k_toString {Z : State} {a0 : Array Value} (hw : ∀ d ∈ tables_1, d.before a0 Z = true) (hs : Stt Z) {n0 : Nat} {h0 : Heap} {a b : Addr} {cs : List Int32} {cap N : Nat} (S : Sb Z h0 a b cs cap) (hN : cs.length ≤ N ∧ N ≤ 4096) (hlt : cs.length < cap) (O : Old Z n0 h0) :
    Con WD Z EL0 n0 (⟨"java/lang/StringBuilder", "toString", "()Ljava/lang/String;"⟩ : MethodName) jdk_67_method_42_code 1 (some (.object "java/lang/String")) (Rm 5 2 (4 + 1 * N) 79) [(.ref a)] h0 [] (fun v h gs => gs = [] ∧ ∃ s : Addr, v = some (.ref s) ∧ h0.size ≤ s ∧ Str Z h s cs) := by
  refine Con.of (a0 := a0) (by first | (exact plainFor_of_name (by first | (simp [plainName, overriddenIn]; done) | decide +kernel)) | decide +kernel) (hEL hw) hWE O (L0 := #[.val (.ref a)]) (fun m => by first | rfl | (simp [entryFrame, mkF, argsToLocals, Value.category]; done)) ?_
  intro K C hh
  refine new_ C (hw _ (List.mem_of_getElem? (i := 170) rfl)) (hw _ (List.mem_of_getElem? (i := 6) rfl)) (hw _ (List.mem_of_getElem? (i := 7) rfl)) (dle rfl) (by omega) d30_0 (fun hp1 K1 lt1 le1 ⟨E1, F1⟩ => ?_)
  obtain ⟨s, g1⟩ : ∃ z, z = h0.size := ⟨_, rfl⟩
  rw [← g1] at E1 F1 lt1 le1 ⊢
  have Fv := F1 (Or.inr (hw _ (List.mem_of_getElem? (i := 34) rfl)) : Laid Z a0 "java/lang/String" "java/lang/String" "value" "[B") (ty := .array .byte) (by decide)
  have Fc := F1 (Or.inr (hw _ (List.mem_of_getElem? (i := 32) rfl)) : Laid Z a0 "java/lang/String" "java/lang/String" "coder" "B") (ty := .byte) (by decide)
  refine Own.dup C d30_3 rfl ?_
  refine Own.aloadN C d30_4 rfl rfl ?_
  refine callI_ C (as' := [(.ref a)]) (st := [(.ref s)]) rfl (hw _ (List.mem_of_getElem? (i := 171) rfl)) (hw _ (List.mem_of_getElem? (i := 172) rfl)) (hw _ (List.mem_of_getElem? (i := 7) rfl)) (hw _ (List.mem_of_getElem? (i := 173) rfl)) ⟨by decide, by decide⟩ pd__28Ljava_2flang_2fStringBuilder_3b_29V rfl (fun O => k_initSb (N := N) hw hs (S.keep K1 nin0 nin0) hN hlt E1 Fv Fc O) (by simp) rfl (dle rfl) (dle rfl) (dle rfl) (by omega) d30_5 rfl (fun v2 hp2 gs2 K2 Q2 => ?_)
  obtain ⟨rfl, rfl, F⟩ := Q2
  show Go _ K Z _ n0 _ _ 8 #[.val (.ref a)] [(.ref s)] hp2 _ _ _
  exact retA C (gs := []) rfl rfl d30_8 (dle rfl) (by omega) (fun _ q => nomatch q) ⟨rfl, s, rfl, by omega, F⟩
set_option maxRecDepth 65536 in
set_option maxHeartbeats 4000000 in
theorem k_newString0 {Z : State} {a0 : Array Value} (hw : ∀ d ∈ tables_1, d.before a0 Z = true) (hs : Stt Z) {n0 : Nat} {h0 : Heap} {b : Addr} {ds : List Int32} {e : Int32} {N : Nat} (hcs : ∀ c ∈ ds, isCh c) (hlt : ∀ c ∈ ds, c.toInt < 256) (A : Ary Z h0 b .byte (lat (ds ++ [e]))) (hN : ds.length ≤ N ∧ N ≤ 2000) (O : Old Z n0 h0) :
    Con WD Z EL0 n0 (⟨"java/lang/StringLatin1", "newString", "([BII)Ljava/lang/String;"⟩ : MethodName) jdk_43_method_47_code 3 (some (.object "java/lang/String")) (Rm 3 2 (4 + 1 * N) 50) [(.ref b), (.int (0 : Int32)), (.int (natI ds.length))] h0 [] (fun v h gs => gs = [] ∧ ∃ s : Addr, v = some (.ref s) ∧ Str Z h s ds) := by
  refine Con.of (a0 := a0) (by first | (exact plainFor_of_name (by first | (simp [plainName, overriddenIn]; done) | decide +kernel)) | decide +kernel) (hEL hw) hWE O (L0 := #[.val (.ref b), .val (.int (0 : Int32)), .val (.int (natI ds.length))]) (fun m => by first | rfl | (simp [entryFrame, mkF, argsToLocals, Value.category]; done)) ?_
  intro K C hh
  have en := natI_toInt (i := ds.length) (by omega)
  have z0 : (0 : Int32).toInt = 0 := rfl
  have hll : (lat (ds ++ [e])).length = ds.length + 1 := by rw [lat_len]; simp
  refine Own.iloadN C d19_0 rfl ?_
  refine if_ne C d19_1 (fun q1 => ?_) (fun q1 => ?_)
  · refine new_ C (hw _ (List.mem_of_getElem? (i := 238) rfl)) (hw _ (List.mem_of_getElem? (i := 6) rfl)) (hw _ (List.mem_of_getElem? (i := 7) rfl)) (dle rfl) (by omega) d19_7 (fun hp2 K2 lt2 le2 ⟨E2, F2⟩ => ?_)
    obtain ⟨s, g2⟩ : ∃ z, z = h0.size := ⟨_, rfl⟩
    rw [← g2] at E2 F2 lt2 le2 ⊢
    have Fv := F2 (Or.inr (hw _ (List.mem_of_getElem? (i := 34) rfl)) : Laid Z a0 "java/lang/String" "java/lang/String" "value" "[B") (ty := .array .byte) (by decide)
    have Fc := F2 (Or.inr (hw _ (List.mem_of_getElem? (i := 32) rfl)) : Laid Z a0 "java/lang/String" "java/lang/String" "coder" "B") (ty := .byte) (by decide)
    refine Own.dup C d19_10 rfl ?_
    refine Own.aloadN C d19_11 rfl rfl ?_
    refine Own.iloadN C d19_12 rfl ?_
    refine Own.iloadN C d19_13 rfl ?_
    refine Own.iloadN C d19_14 rfl ?_
    refine Own.iadd C d19_15 ?_
    rw [zadd]
    show Go _ K Z _ n0 _ _ 16 #[.val (.ref b), .val (.int (0 : Int32)), .val (.int (natI ds.length))] [(.int (natI ds.length)), (.int (0 : Int32)), (.ref b), (.ref s), (.ref s)] hp2 _ _ _
    refine callS_ C (as := [(.ref b), (.int (0 : Int32)), (.int (natI ds.length))]) (st := [(.ref s), (.ref s)]) (hw _ (List.mem_of_getElem? (i := 239) rfl)) (hw _ (List.mem_of_getElem? (i := 192) rfl)) (hw _ (List.mem_of_getElem? (i := 193) rfl)) (hw _ (List.mem_of_getElem? (i := 194) rfl)) ⟨by decide, by decide⟩ pd__28_5bBII_29_5bB rfl (fun O => k_corN (N := N) hw hs (f := 0) (t := ds.length) ⟨by omega, by omega, by omega, by omega, by omega⟩ (A.keep K2 nin0) fits_lat (Or.inl (by omega)) O) (fun _ q => nomatch q) rfl (dle rfl) (dle rfl) (dle rfl) (by omega) d19_16 rfl (fun v3 hp3 gs3 K3 Q3 => ?_)
    obtain ⟨c, rfl, rfl, hge, Bx1⟩ := Q3
    show Go _ K Z _ n0 _ _ 19 #[.val (.ref b), .val (.int (0 : Int32)), .val (.int (natI ds.length))] [(.ref c), (.ref s), (.ref s)] hp3 _ _ _
    rw [List.drop_zero, Nat.sub_zero, lat_app, List.take_left' (lat_len ds)] at Bx1
    refine Own.iconst (v := 0) C d19_19 rfl ?_
    refine callI_ C (as' := [(.ref c), (.int (0 : Int32))]) (st := [(.ref s)]) rfl (hw _ (List.mem_of_getElem? (i := 240) rfl)) (hw _ (List.mem_of_getElem? (i := 241) rfl)) (hw _ (List.mem_of_getElem? (i := 7) rfl)) (hw _ (List.mem_of_getElem? (i := 242) rfl)) ⟨by decide, by decide⟩ pd__28_5bBB_29V rfl (fun O => k_initBZ hw hs hcs (by omega) (Or.inl ⟨hlt, rfl, rfl⟩) Bx1.1 (E2.keep K3) (Fv.keep K3 nin0) (Fc.keep K3 nin0) O) (by simp) rfl (dle rfl) (dle rfl) (dle rfl) (by omega) d19_20 rfl (fun v4 hp4 gs4 K4 Q4 => ?_)
    obtain ⟨rfl, rfl, F⟩ := Q4
    show Go _ K Z _ n0 _ _ 23 #[.val (.ref b), .val (.int (0 : Int32)), .val (.int (natI ds.length))] [(.ref s)] hp4 _ _ _
    exact retA C (gs := []) rfl rfl d19_23 (dle rfl) (by omega) (fun _ q => nomatch q) ⟨rfl, s, rfl, F⟩
  · have hn0 : ds = [] := by have := congrArg Int32.toInt q1; exact List.eq_nil_of_length_eq_zero (by omega)
    subst hn0
    refine ldcS_ rfl C (text := "") (vs := []) (z := 0) (nn := 0) (hw _ (List.mem_of_getElem? (i := 109) rfl)) (wS hw) (by simp) ⟨by decide +kernel, by decide +kernel⟩ (by decide) (by decide) (by decide +kernel) (by decide) (dle rfl) (by omega) d19_4 (fun hp5 s5 b5 K5 E5 C5 V5 A5 ne5 => ?_)
    exact retA C (gs := []) rfl rfl d19_6 (dle rfl) (by omega) (fun _ q => nomatch q) ⟨rfl, s5, rfl, E5, hcs, by simp, b5, 0, [], V5, C5, A5, Or.inl ⟨by simp, rfl, rfl⟩⟩
set_option maxRecDepth 65536 in
set_option maxHeartbeats 4000000 in
theorem k_pcft {Z : State} {a0 : Array Value} (hw : ∀ d ∈ tables_1, d.before a0 Z = true) (hs : Stt Z) {n0 : Nat} {h0 : Heap} {f t n : Nat} {v : Value} (h1 : f ≤ t ∧ t ≤ n ∧ n ≤ 100000) (hv : v.isRef = true) (O : Old Z n0 h0) :
    Con WD Z EL0 n0 (⟨"jdk/internal/util/Preconditions", "checkFromToIndex", "(IIILjava/util/function/BiFunction;)I"⟩ : MethodName) jdk_41_method_12_code 4 (some .int) (Rm 0 0 0 0) [(.int (natI f)), (.int (natI t)), (.int (natI n)), v] h0 [] (fun v h gs => v = some (.int (natI f)) ∧ gs = []) := by
  rcases ref_cases hv with rfl | ⟨r, rfl⟩
  · refine Con.of (a0 := a0) (by first | (exact plainFor_of_name (by first | (simp [plainName, overriddenIn]; done) | decide +kernel)) | decide +kernel) (hEL hw) hWE O (L0 := #[.val (.int (natI f)), .val (.int (natI t)), .val (.int (natI n)), .val .null]) (fun m => by first | rfl | (simp [entryFrame, mkF, argsToLocals, Value.category]; done)) ?_
    intro K C hh
    have z0 : (0 : Int32).toInt = 0 := rfl
    have ef := natI_toInt (i := f) (by omega)
    have et := natI_toInt (i := t) (by omega)
    have en := natI_toInt (i := n) (by omega)
    refine Own.iloadN C d17_0 rfl ?_
    refine if_lt C d17_1 (fun q1 => ?_) (fun q1 => ?_)
    · rw [lt32] at q1
      omega
    · refine Own.iloadN C d17_4 rfl ?_
      refine Own.iloadN C d17_5 rfl ?_
      refine icmp_gt C d17_6 (fun q2 => ?_) (fun q2 => ?_)
      · rw [lt32] at q2
        omega
      · refine Own.iloadN C d17_9 rfl ?_
        refine Own.iloadN C d17_10 rfl ?_
        refine icmp_le C d17_11 (fun q3 => ?_) (fun q3 => ?_)
        · refine Own.iloadN C d17_22 rfl ?_
          exact retI_ C (gs := []) d17_23 (dle rfl) (dle rfl) (fun _ q => nomatch q) ⟨rfl, rfl⟩
        · rw [lt32] at q3
          omega
  · refine Con.of (a0 := a0) (by first | (exact plainFor_of_name (by first | (simp [plainName, overriddenIn]; done) | decide +kernel)) | decide +kernel) (hEL hw) hWE O (L0 := #[.val (.int (natI f)), .val (.int (natI t)), .val (.int (natI n)), .val (.ref r)]) (fun m => by first | rfl | (simp [entryFrame, mkF, argsToLocals, Value.category]; done)) ?_
    intro K C hh
    have z0 : (0 : Int32).toInt = 0 := rfl
    have ef := natI_toInt (i := f) (by omega)
    have et := natI_toInt (i := t) (by omega)
    have en := natI_toInt (i := n) (by omega)
    refine Own.iloadN C d17_0 rfl ?_
    refine if_lt C d17_1 (fun q1 => ?_) (fun q1 => ?_)
    · rw [lt32] at q1
      omega
    · refine Own.iloadN C d17_4 rfl ?_
      refine Own.iloadN C d17_5 rfl ?_
      refine icmp_gt C d17_6 (fun q2 => ?_) (fun q2 => ?_)
      · rw [lt32] at q2
        omega
      · refine Own.iloadN C d17_9 rfl ?_
        refine Own.iloadN C d17_10 rfl ?_
        refine icmp_le C d17_11 (fun q3 => ?_) (fun q3 => ?_)
        · refine Own.iloadN C d17_22 rfl ?_
          exact retI_ C (gs := []) d17_23 (dle rfl) (dle rfl) (fun _ q => nomatch q) ⟨rfl, rfl⟩
        · rw [lt32] at q3
          omega
set_option maxRecDepth 65536 in
set_option maxHeartbeats 4000000 in
theorem k_cbbe {Z : State} {a0 : Array Value} (hw : ∀ d ∈ tables_1, d.before a0 Z = true) (hs : Stt Z) {n0 : Nat} {h0 : Heap} {f t n : Nat} (h1 : f ≤ t ∧ t ≤ n ∧ n ≤ 100000) (O : Old Z n0 h0) :
    Con WD Z EL0 n0 (⟨"java/lang/String", "checkBoundsBeginEnd", "(III)V"⟩ : MethodName) jdk_42_method_158_code 3 none (Rm 1 0 0 15) [(.int (natI f)), (.int (natI t)), (.int (natI n))] h0 [] (fun v h gs => v = none ∧ gs = []) := by
  refine Con.of (a0 := a0) (by first | (exact plainFor_of_name (by first | (simp [plainName, overriddenIn]; done) | decide +kernel)) | decide +kernel) (hEL hw) hWE O (L0 := #[.val (.int (natI f)), .val (.int (natI t)), .val (.int (natI n))]) (fun m => by first | rfl | (simp [entryFrame, mkF, argsToLocals, Value.category]; done)) ?_
  intro K C hh
  obtain ⟨fv, hfv, Sf⟩ := st_f hs
  refine Own.iloadN C d16_0 rfl ?_
  refine Own.iloadN C d16_1 rfl ?_
  refine Own.iloadN C d16_2 rfl ?_
  refine getS_ C (hw _ (List.mem_of_getElem? (i := 95) rfl)) Sf d16_3 ?_
  refine callS_ C (as := [(.int (natI f)), (.int (natI t)), (.int (natI n)), fv]) (st := []) (hw _ (List.mem_of_getElem? (i := 97) rfl)) (hw _ (List.mem_of_getElem? (i := 98) rfl)) (hw _ (List.mem_of_getElem? (i := 96) rfl)) (hw _ (List.mem_of_getElem? (i := 99) rfl)) ⟨by decide, by decide⟩ pd__28IIILjava_2futil_2ffunction_2fBiFunction_3b_29I rfl (fun O => k_pcft hw hs h1 hfv O) (fun _ q => nomatch q) rfl (dle rfl) (dle rfl) (dle rfl) (dle rfl) d16_6 rfl (fun v1 hp1 gs1 K1 Q1 => ?_)
  obtain ⟨rfl, rfl⟩ := Q1
  show Go _ K Z _ n0 _ _ 9 #[.val (.int (natI f)), .val (.int (natI t)), .val (.int (natI n))] [(.int (natI f))] hp1 _ _ _
  refine Own.pop C d16_9 rfl ?_
  exact retV C (gs := []) d16_10 (dle rfl) (dle rfl) (fun _ q => nomatch q) ⟨rfl, rfl⟩
set_option maxRecDepth 65536 in
set_option maxHeartbeats 4000000 in
theorem k_pcfis {Z : State} {a0 : Array Value} (hw : ∀ d ∈ tables_1, d.before a0 Z = true) (hs : Stt Z) {n0 : Nat} {h0 : Heap} {m n : Nat} {f : Value} (hmn : m ≤ n ∧ n ≤ 4096) (hge : ¬ (((natI n ||| (0 : Int32)) ||| natI m) < 0)) (hf : f.isRef = true) (O : Old Z n0 h0) :
    Con WD Z EL0 n0 (⟨"jdk/internal/util/Preconditions", "checkFromIndexSize", "(IIILjava/util/function/BiFunction;)I"⟩ : MethodName) jdk_41_method_13_code 4 (some .int) (Rm 0 0 0 0) [(.int (0 : Int32)), (.int (natI m)), (.int (natI n)), f] h0 [] (fun v h gs => v = some (.int 0) ∧ gs = []) := by
  rcases ref_cases hf with rfl | ⟨r, rfl⟩
  · refine Con.of (a0 := a0) (by first | (exact plainFor_of_name (by first | (simp [plainName, overriddenIn]; done) | decide +kernel)) | decide +kernel) (hEL hw) hWE O (L0 := #[.val (.int (0 : Int32)), .val (.int (natI m)), .val (.int (natI n)), .val .null]) (fun m => by first | rfl | (simp [entryFrame, mkF, argsToLocals, Value.category]; done)) ?_
    intro K C hh
    have em := natI_toInt (i := m) (by omega)
    have en := natI_toInt (i := n) (by omega)
    refine Own.iloadN C d58_0 rfl ?_
    refine Own.iloadN C d58_1 rfl ?_
    refine Own.ior C d58_2 ?_
    refine Own.iloadN C d58_3 rfl ?_
    refine Own.ior C d58_4 ?_
    refine if_lt C d58_5 (fun q1 => ?_) (fun q1 => ?_)
    · exact absurd q1 hge
    · refine Own.iloadN C d58_8 rfl ?_
      refine Own.iloadN C d58_9 rfl ?_
      refine Own.iloadN C d58_10 rfl ?_
      refine Own.isub C d58_11 ?_
      refine icmp_le C d58_12 (fun q2 => ?_) (fun q2 => ?_)
      · refine Own.iloadN C d58_23 rfl ?_
        exact retI_ C (gs := []) d58_24 (dle rfl) (dle rfl) (fun _ q => nomatch q) ⟨rfl, rfl⟩
      · rw [subz, lt32] at q2
        omega
  · refine Con.of (a0 := a0) (by first | (exact plainFor_of_name (by first | (simp [plainName, overriddenIn]; done) | decide +kernel)) | decide +kernel) (hEL hw) hWE O (L0 := #[.val (.int (0 : Int32)), .val (.int (natI m)), .val (.int (natI n)), .val (.ref r)]) (fun m => by first | rfl | (simp [entryFrame, mkF, argsToLocals, Value.category]; done)) ?_
    intro K C hh
    have em := natI_toInt (i := m) (by omega)
    have en := natI_toInt (i := n) (by omega)
    refine Own.iloadN C d58_0 rfl ?_
    refine Own.iloadN C d58_1 rfl ?_
    refine Own.ior C d58_2 ?_
    refine Own.iloadN C d58_3 rfl ?_
    refine Own.ior C d58_4 ?_
    refine if_lt C d58_5 (fun q1 => ?_) (fun q1 => ?_)
    · exact absurd q1 hge
    · refine Own.iloadN C d58_8 rfl ?_
      refine Own.iloadN C d58_9 rfl ?_
      refine Own.iloadN C d58_10 rfl ?_
      refine Own.isub C d58_11 ?_
      refine icmp_le C d58_12 (fun q2 => ?_) (fun q2 => ?_)
      · refine Own.iloadN C d58_23 rfl ?_
        exact retI_ C (gs := []) d58_24 (dle rfl) (dle rfl) (fun _ q => nomatch q) ⟨rfl, rfl⟩
      · rw [subz, lt32] at q2
        omega
set_option maxRecDepth 65536 in
set_option maxHeartbeats 4000000 in
theorem k_sboc {Z : State} {a0 : Array Value} (hw : ∀ d ∈ tables_1, d.before a0 Z = true) (hs : Stt Z) {n0 : Nat} {h0 : Heap} {m n : Nat} (hmn : m ≤ n ∧ n ≤ 4096) (hge : ¬ (((natI n ||| (0 : Int32)) ||| natI m) < 0)) (O : Old Z n0 h0) :
    Con WD Z EL0 n0 (⟨"java/lang/String", "checkBoundsOffCount", "(III)I"⟩ : MethodName) jdk_42_method_157_code 3 (some .int) (Rm 1 0 0 15) [(.int (0 : Int32)), (.int (natI m)), (.int (natI n))] h0 [] (fun v h gs => v = some (.int 0) ∧ gs = []) := by
  refine Con.of (a0 := a0) (by first | (exact plainFor_of_name (by first | (simp [plainName, overriddenIn]; done) | decide +kernel)) | decide +kernel) (hEL hw) hWE O (L0 := #[.val (.int (0 : Int32)), .val (.int (natI m)), .val (.int (natI n))]) (fun m => by first | rfl | (simp [entryFrame, mkF, argsToLocals, Value.category]; done)) ?_
  intro K C hh
  obtain ⟨fv, hfv, Sf⟩ := st_f hs
  refine Own.iloadN C d57_0 rfl ?_
  refine Own.iloadN C d57_1 rfl ?_
  refine Own.iloadN C d57_2 rfl ?_
  refine getS_ C (hw _ (List.mem_of_getElem? (i := 95) rfl)) Sf d57_3 ?_
  refine callS_ C (as := [(.int (0 : Int32)), (.int (natI m)), (.int (natI n)), fv]) (st := []) (hw _ (List.mem_of_getElem? (i := 282) rfl)) (hw _ (List.mem_of_getElem? (i := 283) rfl)) (hw _ (List.mem_of_getElem? (i := 96) rfl)) (hw _ (List.mem_of_getElem? (i := 284) rfl)) ⟨by decide, by decide⟩ pd__28IIILjava_2futil_2ffunction_2fBiFunction_3b_29I rfl (fun O => k_pcfis hw hs hmn hge hfv O) (fun _ q => nomatch q) rfl (dle rfl) (dle rfl) (dle rfl) (dle rfl) d57_6 rfl (fun v1 hp1 gs1 K1 Q1 => ?_)
  obtain ⟨rfl, rfl⟩ := Q1
  show Go _ K Z _ n0 _ _ 9 #[.val (.int (0 : Int32)), .val (.int (natI m)), .val (.int (natI n))] [(.int (0 : Int32))] hp1 _ _ _
  exact retI_ C (gs := []) d57_9 (dle rfl) (dle rfl) (fun _ q => nomatch q) ⟨rfl, rfl⟩
set_option maxRecDepth 65536 in
set_option maxHeartbeats 4000000 in
theorem k_uboc {Z : State} {a0 : Array Value} (hw : ∀ d ∈ tables_1, d.before a0 Z = true) (hs : Stt Z) {n0 : Nat} {h0 : Heap} {m n : Nat} {b : Addr} {vs : List Value} (hmn : m ≤ n ∧ n ≤ 4096) (hge : ¬ (((natI n ||| (0 : Int32)) ||| natI m) < 0)) (A : Ary Z h0 b .byte vs) (hv : vs.length = 2 * n) (O : Old Z n0 h0) :
    Con WD Z EL0 n0 (⟨"java/lang/StringUTF16", "checkBoundsOffCount", "(II[B)V"⟩ : MethodName) jdk_52_method_94_code 3 none (Rm 2 0 0 29) [(.int (0 : Int32)), (.int (natI m)), (.ref b)] h0 [] (fun v h gs => v = none ∧ gs = []) := by
  refine Con.of (a0 := a0) (by first | (exact plainFor_of_name (by first | (simp [plainName, overriddenIn]; done) | decide +kernel)) | decide +kernel) (hEL hw) hWE O (L0 := #[.val (.int (0 : Int32)), .val (.int (natI m)), .val (.ref b)]) (fun m => by first | rfl | (simp [entryFrame, mkF, argsToLocals, Value.category]; done)) ?_
  intro K C hh
  refine Own.iloadN C d55_0 rfl ?_
  refine Own.iloadN C d55_1 rfl ?_
  refine Own.aloadN C d55_2 rfl rfl ?_
  refine callS_ C (as := [(.ref b)]) (st := [(.int (natI m)), (.int (0 : Int32))]) (hw _ (List.mem_of_getElem? (i := 276) rfl)) (hw _ (List.mem_of_getElem? (i := 277) rfl)) (hw _ (List.mem_of_getElem? (i := 22) rfl)) (hw _ (List.mem_of_getElem? (i := 278) rfl)) ⟨by decide, by decide⟩ pd__28_5bB_29I rfl (fun O => k_ulength hw hs (by omega) A hv O) (fun _ q => nomatch q) rfl (dle rfl) (dle rfl) (dle rfl) (dle rfl) d55_3 rfl (fun v1 hp1 gs1 K1 Q1 => ?_)
  obtain ⟨rfl, rfl⟩ := Q1
  show Go _ K Z _ n0 _ _ 6 #[.val (.int (0 : Int32)), .val (.int (natI m)), .val (.ref b)] [(.int (natI n)), (.int (natI m)), (.int (0 : Int32))] hp1 _ _ _
  refine callS_ C (as := [(.int (0 : Int32)), (.int (natI m)), (.int (natI n))]) (st := []) (hw _ (List.mem_of_getElem? (i := 279) rfl)) (hw _ (List.mem_of_getElem? (i := 280) rfl)) (hw _ (List.mem_of_getElem? (i := 7) rfl)) (hw _ (List.mem_of_getElem? (i := 281) rfl)) ⟨by decide, by decide⟩ pd__28III_29I rfl (fun O => k_sboc hw hs hmn hge O) (fun _ q => nomatch q) rfl (dle rfl) (dle rfl) (dle rfl) (dle rfl) d55_6 rfl (fun v2 hp2 gs2 K2 Q2 => ?_)
  obtain ⟨rfl, rfl⟩ := Q2
  show Go _ K Z _ n0 _ _ 9 #[.val (.int (0 : Int32)), .val (.int (natI m)), .val (.ref b)] [(.int (0 : Int32))] hp2 _ _ _
  refine Own.pop C d55_9 rfl ?_
  exact retV C (gs := []) d55_10 (dle rfl) (dle rfl) (fun _ q => nomatch q) ⟨rfl, rfl⟩
set_option maxRecDepth 65536 in
set_option maxHeartbeats 4000000 in
theorem k_ucompress5 {Z : State} {a0 : Array Value} (hw : ∀ d ∈ tables_1, d.before a0 Z = true) (hs : Stt Z) {n0 : Nat} {h0 : Heap} {a b : Addr} {ds : List Int32} {e : Int32} {ws : List Value} (hcs : ∀ c ∈ ds ++ [e], isCh c) (hsm : ds.length < 5) (hab : a ≠ b) (A : Ary Z h0 a .byte (utf (ds ++ [e]))) (Bw : Ary Z h0 b .byte ws) (hwl : ws.length = ds.length) (O : Old Z n0 h0) :
    Con WD Z EL0 n0 (⟨"java/lang/StringUTF16", "compress", "([BI[BII)I"⟩ : MethodName) jdk_52_method_22_code 7 (some .int) (Rm 3 0 0 43) [(.ref a), (.int (0 : Int32)), (.ref b), (.int (0 : Int32)), (.int (natI ds.length))] h0 [b] (fun v h gs => v = some (.int (natI (pfx ds))) ∧ gs = []) := by
  refine Con.of (a0 := a0) (by first | (exact plainFor_of_name (by first | (simp [plainName, overriddenIn]; done) | decide +kernel)) | decide +kernel) (hEL hw) hWE O (L0 := #[.val (.ref a), .val (.int (0 : Int32)), .val (.ref b), .val (.int (0 : Int32)), .val (.int (natI ds.length)), .unset, .unset]) (fun m => by first | rfl | (simp [entryFrame, mkF, argsToLocals, Value.category]; done)) ?_
  intro K C hh
  have hln : (ds ++ [e]).length = ds.length + 1 := by simp
  have hul : (utf (ds ++ [e])).length = 2 * (ds.length + 1) := by rw [utf_len, hln]
  have loop : ∀ (m i : Nat) (h : Heap) (s6 : Slot) (ws : List Value), i + m = ds.length → (∀ c ∈ ds.take i, c.toInt < 256) → (s6 = .unset ∨ ∃ w, s6 = .val w ∧ w.category = 1) → ws.length = ds.length → Ary Z h a .byte (utf (ds ++ [e])) → Ary Z h b .byte ws → Go WD K Z EL0 n0 [b] (fun v h gs => v = some (.int (natI (pfx ds))) ∧ gs = []) 10 #[.val (.ref a), .val (.int (natI i)), .val (.ref b), .val (.int (natI i)), .val (.int (natI ds.length)), .val (.int (natI i)), s6] [] h [b] 0 0 := by
    intro m
    induction m with
    | zero =>
      intro i h s6 ws hm hp hs6 hwl A Bw
      have e1 := natI_toInt (i := i) (by omega)
      have e2 := natI_toInt (i := ds.length) (by omega)
      refine Own.iload C d54_10 rfl ?_
      refine Own.iload C d54_12 rfl ?_
      refine icmp_ge C d54_14 (fun q1 => ?_) (fun q1 => ?_)
      · refine Own.iload C d54_53 rfl ?_
        have hi : i = ds.length := by omega
        subst hi
        rw [List.take_length] at hp
        have hq := pfx_all hp
        exact retI_ C (gs := []) d54_55 (dle rfl) (dle rfl) (fun _ q => nomatch q) ⟨by rw [hq], rfl⟩
      · rw [lt32] at q1
        omega
    | succ m ih =>
      intro i h s6 ws hm hp hs6 hwl A Bw
      have e1 := natI_toInt (i := i) (by omega)
      have e2 := natI_toInt (i := ds.length) (by omega)
      refine Own.iload C d54_10 rfl ?_
      refine Own.iload C d54_12 rfl ?_
      refine icmp_ge C d54_14 (fun q2 => ?_) (fun q2 => ?_)
      · rw [lt32] at q2
        omega
      · obtain ⟨c, hc⟩ : ∃ c, ds[i]? = some c := ⟨_, List.getElem?_eq_getElem (by omega)⟩
        have hc' : (ds ++ [e])[i]? = some c := by rw [List.getElem?_append_left (by omega)]; exact hc
        have hch := hcs c (List.mem_of_getElem? hc')
        refine Own.aloadN C d54_17 rfl rfl ?_
        refine Own.iloadN C d54_18 rfl ?_
        refine callS_ C (as := [(.ref a), (.int (natI i))]) (st := []) (hw _ (List.mem_of_getElem? (i := 259) rfl)) (hw _ (List.mem_of_getElem? (i := 260) rfl)) (hw _ (List.mem_of_getElem? (i := 22) rfl)) (hw _ (List.mem_of_getElem? (i := 261) rfl)) ⟨by decide, by decide⟩ pd__28_5bBI_29C rfl (fun O => k_getChar hw hs hcs (by omega) A e1 hc' O) (fun _ q => nomatch q) rfl (dle rfl) (dle rfl) (dle rfl) (dle rfl) d54_19 rfl (fun v3 hp3 gs3 K3 Q3 => ?_)
        obtain ⟨rfl, rfl⟩ := Q3
        show Go _ K Z _ n0 _ _ 22 #[.val (.ref a), .val (.int (natI i)), .val (.ref b), .val (.int (natI i)), .val (.int (natI ds.length)), .val (.int (natI i)), s6] [(.int c)] hp3 _ _ _
        have Ax1 := A.keep K3 nin0
        have Bx1 := Bw.keep K3 nin0
        refine Own.istore (L' := #[.val (.ref a), .val (.int (natI i)), .val (.ref b), .val (.int (natI i)), .val (.int (natI ds.length)), .val (.int (natI i)), .val (.int c)]) C d54_22 (st1 rfl hs6 rfl rfl) ?_
        refine Own.iload C d54_24 rfl ?_
        refine Own.sipush (v := 255) C d54_26 rfl ?_
        refine icmp_le C d54_29 (fun q4 => ?_) (fun q4 => ?_)
        · have hlt : c.toInt < 256 := by have e : (255 : Int32).toInt = 255 := rfl; rw [lt32] at q4; omega
          refine Own.aloadN C d54_35 rfl rfl ?_
          refine Own.iloadN C d54_36 rfl ?_
          refine Own.iload C d54_37 rfl ?_
          refine Own.i2b C d54_39 ?_
          refine bastore_ C Bx1 i e1 (by omega) (by simp) d54_40 (fun hp5 W5 A5 => ?_)
          have e3 := natI_succ (i := i) (by omega)
          refine Own.iinc (L' := #[.val (.ref a), .val (.int (natI (i + 1))), .val (.ref b), .val (.int (natI i)), .val (.int (natI ds.length)), .val (.int (natI i)), .val (.int c)]) (y := (natI (i + 1))) C d54_41 rfl e3 rfl ?_
          refine Own.iinc (L' := #[.val (.ref a), .val (.int (natI (i + 1))), .val (.ref b), .val (.int (natI (i + 1))), .val (.int (natI ds.length)), .val (.int (natI i)), .val (.int c)]) (y := (natI (i + 1))) C d54_44 rfl e3 rfl ?_
          refine Own.iinc (L' := #[.val (.ref a), .val (.int (natI (i + 1))), .val (.ref b), .val (.int (natI (i + 1))), .val (.int (natI ds.length)), .val (.int (natI (i + 1))), .val (.int c)]) (y := (natI (i + 1))) C d54_47 rfl e3 rfl ?_
          refine Own.goto_ C d54_50 ?_
          exact ih (i + 1) hp5 _ _ (by omega) (take_lt hp hc hlt) (Or.inr ⟨_, rfl, rfl⟩) (by rw [List.length_set]; exact hwl) (Ax1.other W5 hab) A5
        · have hge : 256 ≤ c.toInt := by have e : (255 : Int32).toInt = 255 := rfl; rw [lt32] at q4; omega
          refine Own.iload C d54_32 rfl ?_
          have hq := pfx_at hp hc hge
          exact retI_ C (gs := []) d54_34 (dle rfl) (dle rfl) (fun _ q => nomatch q) ⟨by rw [hq], rfl⟩
  refine Own.iloadN C d54_0 rfl ?_
  refine Own.iload C d54_1 rfl ?_
  refine Own.aloadN C d54_3 rfl rfl ?_
  refine callS_ C (as := [(.int (0 : Int32)), (.int (natI ds.length)), (.ref a)]) (st := []) (hw _ (List.mem_of_getElem? (i := 273) rfl)) (hw _ (List.mem_of_getElem? (i := 274) rfl)) (hw _ (List.mem_of_getElem? (i := 22) rfl)) (hw _ (List.mem_of_getElem? (i := 275) rfl)) ⟨by decide, by decide⟩ pd__28II_5bB_29V rfl (fun O => k_uboc hw hs (m := ds.length) (n := ds.length + 1) ⟨by omega, by omega⟩ (or_small ⟨ds.length, hsm⟩) A hul O) (fun _ q => nomatch q) rfl (dle rfl) (dle rfl) (dle rfl) (dle rfl) d54_4 rfl (fun v6 hp6 gs6 K6 Q6 => ?_)
  obtain ⟨rfl, rfl⟩ := Q6
  show Go _ K Z _ n0 _ _ 7 #[.val (.ref a), .val (.int (0 : Int32)), .val (.ref b), .val (.int (0 : Int32)), .val (.int (natI ds.length)), .unset, .unset] [] hp6 _ _ _
  refine Own.iconst (v := 0) C d54_7 rfl ?_
  refine Own.istore (L' := #[.val (.ref a), .val (.int (0 : Int32)), .val (.ref b), .val (.int (0 : Int32)), .val (.int (natI ds.length)), .val (.int (0 : Int32)), .unset]) C d54_8 rfl ?_
  exact loop ds.length 0 _ .unset ws (by omega) (by simp) (Or.inl rfl) hwl (A.keep K6 nin0) (Bw.keep K6 nin0)
set_option maxRecDepth 65536 in
set_option maxHeartbeats 4000000 in
theorem k_ucompress3 {Z : State} {a0 : Array Value} (hw : ∀ d ∈ tables_1, d.before a0 Z = true) (hs : Stt Z) {n0 : Nat} {h0 : Heap} {N : Nat} {a : Addr} {ds : List Int32} {e : Int32} (hcs : ∀ c ∈ ds ++ [e], isCh c) (hbig : ∃ c ∈ ds, 256 ≤ c.toInt) (hsm : ds.length < 5) (hN : ds.length ≤ N ∧ N ≤ 2000) (A : Ary Z h0 a .byte (utf (ds ++ [e]))) (O : Old Z n0 h0) :
    Con WD Z EL0 n0 (⟨"java/lang/StringUTF16", "compress", "([BII)[B"⟩ : MethodName) jdk_52_method_17_code 6 (some (.array .byte)) (Rm 4 2 (0 + 3 * N) 61) [(.ref a), (.int (0 : Int32)), (.int (natI ds.length))] h0 [] (fun v h gs => gs = [] ∧ ∃ d : Addr, v = some (.ref d) ∧ Ary Z h d .byte (utf ds)) := by
  refine Con.of (a0 := a0) (by first | (exact plainFor_of_name (by first | (simp [plainName, overriddenIn]; done) | decide +kernel)) | decide +kernel) (hEL hw) hWE O (L0 := #[.val (.ref a), .val (.int (0 : Int32)), .val (.int (natI ds.length)), .unset, .unset, .unset]) (fun m => by first | rfl | (simp [entryFrame, mkF, argsToLocals, Value.category]; done)) ?_
  intro K C hh
  have hln : (ds ++ [e]).length = ds.length + 1 := by simp
  have hul : (utf (ds ++ [e])).length = 2 * (ds.length + 1) := by rw [utf_len, hln]
  have hcd : ∀ c ∈ ds, isCh c := fun c hc => hcs c (List.mem_append_left _ hc)
  have e2 := natI_toInt (i := ds.length) (by omega)
  have e3 : (natI ds.length).toNatClampNeg = ds.length := natI_clamp (by omega)
  refine Own.iloadN C d53_0 rfl ?_
  refine newarr C (hw _ (List.mem_of_getElem? (i := 24) rfl)) (by rw [lt32, e2]; exact Int.not_lt.mpr (Int.natCast_nonneg _)) N (by omega) (by omega) (dle rfl) (by omega) d53_1 (fun hp1 K1 lt1 le1 A1 => ?_)
  obtain ⟨b, g1⟩ : ∃ z, z = h0.size := ⟨_, rfl⟩
  rw [← g1] at A1 lt1 le1 ⊢
  rw [e3] at A1
  have Ax1 := A.keep K1 nin0
  have hab : a ≠ b := by rw [g1]; exact Nat.ne_of_lt A.lt
  refine Own.astoreN (L' := #[.val (.ref a), .val (.int (0 : Int32)), .val (.int (natI ds.length)), .val (.ref b), .unset, .unset]) C d53_3 rfl rfl ?_
  refine Own.aloadN C d53_4 rfl rfl ?_
  refine Own.iloadN C d53_5 rfl ?_
  refine Own.aloadN C d53_6 rfl rfl ?_
  refine Own.iconst (v := 0) C d53_7 rfl ?_
  refine Own.iloadN C d53_8 rfl ?_
  refine callS_ C (as := [(.ref a), (.int (0 : Int32)), (.ref b), (.int (0 : Int32)), (.int (natI ds.length))]) (st := []) (hw _ (List.mem_of_getElem? (i := 270) rfl)) (hw _ (List.mem_of_getElem? (i := 271) rfl)) (hw _ (List.mem_of_getElem? (i := 22) rfl)) (hw _ (List.mem_of_getElem? (i := 272) rfl)) ⟨by decide, by decide⟩ pd__28_5bBI_5bBII_29I rfl (fun O => k_ucompress5 hw hs hcs hsm hab Ax1 A1 (by simp) O) (by simp) rfl (dle rfl) (dle rfl) (dle rfl) (by omega) d53_9 rfl (fun v2 hp2 gs2 K2 Q2 => ?_)
  obtain ⟨rfl, rfl⟩ := Q2
  show Go _ K Z _ n0 _ _ 12 #[.val (.ref a), .val (.int (0 : Int32)), .val (.int (natI ds.length)), .val (.ref b), .unset, .unset] [(.int (natI (pfx ds)))] hp2 _ _ _
  have Ax2 := Ax1.keep K2 (ninS hab nin0)
  refine Own.istore (L' := #[.val (.ref a), .val (.int (0 : Int32)), .val (.int (natI ds.length)), .val (.ref b), .val (.int (natI (pfx ds))), .unset]) C d53_12 rfl ?_
  refine Own.iload C d53_14 rfl ?_
  refine Own.iloadN C d53_16 rfl ?_
  refine icmp_eq C d53_17 (fun q3 => ?_) (fun q3 => ?_)
  · have hp : pfx ds = ds.length := by have e4 := natI_toInt (i := pfx ds) (by have := pfx_le ds; omega); have e5 := congrArg Int32.toInt q3; omega
    obtain ⟨c, hc, hge⟩ := hbig
    exact absurd (pfx_full hp c hc) (by omega)
  · have hp : pfx ds < ds.length := by have := pfx_le ds; rcases Nat.lt_or_ge (pfx ds) ds.length with z | z; exact z; exact absurd (by rw [Nat.le_antisymm this z]) q3
    obtain ⟨c, hc, hge⟩ := pfx_next hp
    refine Own.aloadN C d53_20 rfl rfl ?_
    refine Own.iloadN C d53_21 rfl ?_
    refine Own.iconst (v := 1) C d53_22 rfl ?_
    refine Own.ishl C d53_23 ?_
    refine Own.iloadN C d53_24 rfl ?_
    refine Own.iloadN C d53_25 rfl ?_
    refine Own.iadd C d53_26 ?_
    rw [zadd]
    show Go _ K Z _ n0 _ _ 27 #[.val (.ref a), .val (.int (0 : Int32)), .val (.int (natI ds.length)), .val (.ref b), .val (.int (natI (pfx ds))), .unset] [(.int (natI ds.length)), (.int ((0 : Int32) <<< ((1 : Int32) &&& 31))), (.ref a)] hp2 _ _ _
    refine callS_ C (as := [(.int (natI ds.length))]) (st := [(.int ((0 : Int32) <<< ((1 : Int32) &&& 31))), (.ref a)]) (hw _ (List.mem_of_getElem? (i := 249) rfl)) (hw _ (List.mem_of_getElem? (i := 250) rfl)) (hw _ (List.mem_of_getElem? (i := 22) rfl)) (hw _ (List.mem_of_getElem? (i := 251) rfl)) ⟨by decide, by decide⟩ pd__28I_29I rfl (fun O => k_nbl hw hs (m := ds.length) (by omega) O) (fun _ q => nomatch q) rfl (dle rfl) (dle rfl) (dle rfl) (by omega) d53_27 rfl (fun v4 hp4 gs4 K4 Q4 => ?_)
    obtain ⟨rfl, rfl⟩ := Q4
    show Go _ K Z _ n0 _ _ 30 #[.val (.ref a), .val (.int (0 : Int32)), .val (.int (natI ds.length)), .val (.ref b), .val (.int (natI (pfx ds))), .unset] [(.int (natI (2 * ds.length))), (.int ((0 : Int32) <<< ((1 : Int32) &&& 31))), (.ref a)] hp4 _ _ _
    rw [show ((0 : Int32) <<< ((1 : Int32) &&& 31)) = natI 0 from by decide]
    show Go _ K Z _ n0 _ _ 30 #[.val (.ref a), .val (.int (0 : Int32)), .val (.int (natI ds.length)), .val (.ref b), .val (.int (natI (pfx ds))), .unset] [(.int (natI (2 * ds.length))), (.int (natI 0)), (.ref a)] hp4 _ _ _
    refine callS_ C (as := [(.ref a), (.int (natI 0)), (.int (natI (2 * ds.length)))]) (st := []) (hw _ (List.mem_of_getElem? (i := 285) rfl)) (hw _ (List.mem_of_getElem? (i := 192) rfl)) (hw _ (List.mem_of_getElem? (i := 193) rfl)) (hw _ (List.mem_of_getElem? (i := 194) rfl)) ⟨by decide, by decide⟩ pd__28_5bBII_29_5bB rfl (fun O => k_corN (N := 2 * N) hw hs (f := 0) (t := 2 * ds.length) ⟨by omega, by omega, by omega, by omega, by omega⟩ (Ax2.keep K4 nin0) fits_utf (Or.inl (by omega)) O) (fun _ q => nomatch q) rfl (dle rfl) (dle rfl) (dle rfl) (by omega) d53_30 rfl (fun v5 hp5 gs5 K5 Q5 => ?_)
    obtain ⟨d, rfl, rfl, hge2, Bx1⟩ := Q5
    show Go _ K Z _ n0 _ _ 33 #[.val (.ref a), .val (.int (0 : Int32)), .val (.int (natI ds.length)), .val (.ref b), .val (.int (natI (pfx ds))), .unset] [(.ref d)] hp5 _ _ _
    rw [List.drop_zero, Nat.sub_zero, utf_app, List.take_left' (utf_len ds)] at Bx1
    refine Own.astore (L' := #[.val (.ref a), .val (.int (0 : Int32)), .val (.int (natI ds.length)), .val (.ref b), .val (.int (natI (pfx ds))), .val (.ref d)]) C d53_33 rfl rfl ?_
    refine Own.aload C d53_35 rfl rfl ?_
    refine Own.iload C d53_37 rfl ?_
    refine callS_ C (as := [(.ref d), (.int (natI (pfx ds)))]) (st := []) (hw _ (List.mem_of_getElem? (i := 259) rfl)) (hw _ (List.mem_of_getElem? (i := 260) rfl)) (hw _ (List.mem_of_getElem? (i := 22) rfl)) (hw _ (List.mem_of_getElem? (i := 261) rfl)) ⟨by decide, by decide⟩ pd__28_5bBI_29C rfl (fun O => k_getChar hw hs hcd (by omega) Bx1.1 (natI_toInt (by omega)) hc O) (fun _ q => nomatch q) rfl (dle rfl) (dle rfl) (dle rfl) (by omega) d53_39 rfl (fun v6 hp6 gs6 K6 Q6 => ?_)
    obtain ⟨rfl, rfl⟩ := Q6
    show Go _ K Z _ n0 _ _ 42 #[.val (.ref a), .val (.int (0 : Int32)), .val (.int (natI ds.length)), .val (.ref b), .val (.int (natI (pfx ds))), .val (.ref d)] [(.int c)] hp6 _ _ _
    refine Own.sipush (v := 255) C d53_42 rfl ?_
    refine icmp_gt C d53_45 (fun q7 => ?_) (fun q7 => ?_)
    · refine Own.aload C d53_61 rfl rfl ?_
      exact retA C (gs := []) rfl rfl d53_63 (dle rfl) (by omega) (fun _ q => nomatch q) ⟨rfl, d, rfl, Bx1.1.keep K6 nin0⟩
    · have e : (255 : Int32).toInt = 255 := rfl
      rw [lt32] at q7
      omega
set_option maxRecDepth 65536 in
set_option maxHeartbeats 4000000 in
theorem k_unewString {Z : State} {a0 : Array Value} (hw : ∀ d ∈ tables_1, d.before a0 Z = true) (hs : Stt Z) {n0 : Nat} {h0 : Heap} {N : Nat} {a : Addr} {ds : List Int32} {e : Int32} (hcs : ∀ c ∈ ds ++ [e], isCh c) (hbig : ∃ c ∈ ds, 256 ≤ c.toInt) (hsm : ds.length < 5) (hN : ds.length ≤ N ∧ N ≤ 2000) (A : Ary Z h0 a .byte (utf (ds ++ [e]))) (O : Old Z n0 h0) :
    Con WD Z EL0 n0 (⟨"java/lang/StringUTF16", "newString", "([BII)Ljava/lang/String;"⟩ : MethodName) jdk_52_method_69_code 5 (some (.object "java/lang/String")) (Rm 5 3 (4 + 3 * N) 78) [(.ref a), (.int (0 : Int32)), (.int (natI ds.length))] h0 [] (fun v h gs => gs = [] ∧ ∃ s : Addr, v = some (.ref s) ∧ Str Z h s ds) := by
  refine Con.of (a0 := a0) (by first | (exact plainFor_of_name (by first | (simp [plainName, overriddenIn]; done) | decide +kernel)) | decide +kernel) (hEL hw) hWE O (L0 := #[.val (.ref a), .val (.int (0 : Int32)), .val (.int (natI ds.length)), .unset, .unset]) (fun m => by first | rfl | (simp [entryFrame, mkF, argsToLocals, Value.category]; done)) ?_
  intro K C hh
  obtain ⟨cv, hcv, Sc⟩ := st_c hs
  have h1 : 1 ≤ ds.length := by obtain ⟨c, hc, -⟩ := hbig; exact List.length_pos_of_mem hc
  have en := natI_toInt (i := ds.length) (by omega)
  have z0 : (0 : Int32).toInt = 0 := rfl
  have hcd : ∀ c ∈ ds, isCh c := fun c hc => hcs c (List.mem_append_left _ hc)
  refine Own.iloadN C d52_0 rfl ?_
  refine if_ne C d52_1 (fun q1 => ?_) (fun q1 => ?_)
  · refine getS_ C (hw _ (List.mem_of_getElem? (i := 266) rfl)) Sc d52_8 ?_
    refine if_eq C d52_11 (fun q2 => ?_) (fun q2 => ?_)
    · exact absurd q2 hcv
    · refine Own.aloadN C d52_14 rfl rfl ?_
      refine Own.iloadN C d52_15 rfl ?_
      refine Own.iloadN C d52_16 rfl ?_
      refine callS_ C (as := [(.ref a), (.int (0 : Int32)), (.int (natI ds.length))]) (st := []) (hw _ (List.mem_of_getElem? (i := 267) rfl)) (hw _ (List.mem_of_getElem? (i := 268) rfl)) (hw _ (List.mem_of_getElem? (i := 22) rfl)) (hw _ (List.mem_of_getElem? (i := 269) rfl)) ⟨by decide, by decide⟩ pd__28_5bBII_29_5bB rfl (fun O => k_ucompress3 (N := N) hw hs hcs hbig hsm hN A O) (fun _ q => nomatch q) rfl (dle rfl) (dle rfl) (dle rfl) (by omega) d52_17 rfl (fun v3 hp3 gs3 K3 Q3 => ?_)
      obtain ⟨rfl, d, rfl, Bx1⟩ := Q3
      show Go _ K Z _ n0 _ _ 20 #[.val (.ref a), .val (.int (0 : Int32)), .val (.int (natI ds.length)), .unset, .unset] [(.ref d)] hp3 _ _ _
      have Bt : Byt ds 1 (utf ds) := Or.inr ⟨hbig, rfl, rfl⟩
      refine Own.astoreN (L' := #[.val (.ref a), .val (.int (0 : Int32)), .val (.int (natI ds.length)), .val (.ref d), .unset]) C d52_20 rfl rfl ?_
      refine Own.aloadN C d52_21 rfl rfl ?_
      refine Own.iloadN C d52_22 rfl ?_
      refine callS_ C (as := [(.ref d), (.int (natI ds.length))]) (st := []) (hw _ (List.mem_of_getElem? (i := 286) rfl)) (hw _ (List.mem_of_getElem? (i := 29) rfl)) (hw _ (List.mem_of_getElem? (i := 22) rfl)) (hw _ (List.mem_of_getElem? (i := 30) rfl)) ⟨by decide, by decide⟩ pd__28_5bBI_29B rfl (fun O => k_coder hw hs h1 (by omega) Bx1 Bt O) (fun _ q => nomatch q) rfl (dle rfl) (dle rfl) (dle rfl) (by omega) d52_23 rfl (fun v4 hp4 gs4 K4 Q4 => ?_)
      obtain ⟨rfl, rfl⟩ := Q4
      show Go _ K Z _ n0 _ _ 26 #[.val (.ref a), .val (.int (0 : Int32)), .val (.int (natI ds.length)), .val (.ref d), .unset] [(.int (1 : Int32))] hp4 _ _ _
      refine Own.istore (L' := #[.val (.ref a), .val (.int (0 : Int32)), .val (.int (natI ds.length)), .val (.ref d), .val (.int (1 : Int32))]) C d52_26 rfl ?_
      refine new_ C (hw _ (List.mem_of_getElem? (i := 287) rfl)) (hw _ (List.mem_of_getElem? (i := 6) rfl)) (hw _ (List.mem_of_getElem? (i := 7) rfl)) (dle rfl) (by omega) d52_28 (fun hp5 K5 lt5 le5 ⟨E5, F5⟩ => ?_)
      obtain ⟨s, g5⟩ : ∃ z, z = hp4.size := ⟨_, rfl⟩
      rw [← g5] at E5 F5 lt5 le5 ⊢
      have Fv := F5 (Or.inr (hw _ (List.mem_of_getElem? (i := 34) rfl)) : Laid Z a0 "java/lang/String" "java/lang/String" "value" "[B") (ty := .array .byte) (by decide)
      have Fc := F5 (Or.inr (hw _ (List.mem_of_getElem? (i := 32) rfl)) : Laid Z a0 "java/lang/String" "java/lang/String" "coder" "B") (ty := .byte) (by decide)
      refine Own.dup C d52_31 rfl ?_
      refine Own.aloadN C d52_32 rfl rfl ?_
      refine Own.iload C d52_33 rfl ?_
      refine callI_ C (as' := [(.ref d), (.int (1 : Int32))]) (st := [(.ref s)]) rfl (hw _ (List.mem_of_getElem? (i := 288) rfl)) (hw _ (List.mem_of_getElem? (i := 241) rfl)) (hw _ (List.mem_of_getElem? (i := 7) rfl)) (hw _ (List.mem_of_getElem? (i := 242) rfl)) ⟨by decide, by decide⟩ pd__28_5bBB_29V rfl (fun O => k_initBZ hw hs hcd (by omega) Bt ((Bx1.keep K4 nin0).keep K5 nin0) E5 Fv Fc O) (by simp) rfl (dle rfl) (dle rfl) (dle rfl) (by omega) d52_35 rfl (fun v6 hp6 gs6 K6 Q6 => ?_)
      obtain ⟨rfl, rfl, F⟩ := Q6
      show Go _ K Z _ n0 _ _ 38 #[.val (.ref a), .val (.int (0 : Int32)), .val (.int (natI ds.length)), .val (.ref d), .val (.int (1 : Int32))] [(.ref s)] hp6 _ _ _
      exact retA C (gs := []) rfl rfl d52_38 (dle rfl) (by omega) (fun _ q => nomatch q) ⟨rfl, s, rfl, F⟩
  · exact absurd (congrArg Int32.toInt q1) (by omega)
set_option maxRecDepth 65536 in
set_option maxHeartbeats 4000000 in
theorem k_isLatin1 {Z : State} {a0 : Array Value} (hw : ∀ d ∈ tables_1, d.before a0 Z = true) (hs : Stt Z) {n0 : Nat} {h0 : Heap} {a : Addr} {z : Int32} (Fc : Fld Z h0 a "java/lang/String" "coder" "B" (.int z)) (O : Old Z n0 h0) :
    Con WD Z EL0 n0 (⟨"java/lang/String", "isLatin1", "()Z"⟩ : MethodName) jdk_42_method_154_code 1 (some .boolean) (Rm 0 0 0 0) [(.ref a)] h0 [] (fun v h gs => v = some (.int (if z = 0 then 1 else 0)) ∧ gs = []) := by
  refine Con.of (a0 := a0) (by first | (exact plainFor_of_name (by first | (simp [plainName, overriddenIn]; done) | decide +kernel)) | decide +kernel) (hEL hw) hWE O (L0 := #[.val (.ref a)]) (fun m => by first | rfl | (simp [entryFrame, mkF, argsToLocals, Value.category]; done)) ?_
  intro K C hh
  obtain ⟨cv, hcv, Sc⟩ := st_c hs
  refine getS_ C (hw _ (List.mem_of_getElem? (i := 19) rfl)) Sc d18_0 ?_
  refine if_eq C d18_3 (fun q1 => ?_) (fun q1 => ?_)
  · exact absurd q1 hcv
  · refine Own.aloadN C d18_6 rfl rfl ?_
    refine getF_ C (hw _ (List.mem_of_getElem? (i := 31) rfl)) Fc d18_7 ?_
    refine if_ne C d18_10 (fun q2 => ?_) (fun q2 => ?_)
    · refine Own.iconst (v := 0) C d18_17 rfl ?_
      exact retZ C (gs := []) d18_18 (dle rfl) (dle rfl) (fun _ q => nomatch q) ⟨by rw [if_neg q2]; rfl, rfl⟩
    · refine Own.iconst (v := 1) C d18_13 rfl ?_
      refine Own.goto_ C d18_14 ?_
      exact retZ C (gs := []) d18_18 (dle rfl) (dle rfl) (fun _ q => nomatch q) ⟨by rw [if_pos q2]; rfl, rfl⟩
set_option maxRecDepth 65536 in
set_option maxHeartbeats 4000000 in
theorem k_sub0 {Z : State} {a0 : Array Value} (hw : ∀ d ∈ tables_1, d.before a0 Z = true) (hs : Stt Z) {n0 : Nat} {h0 : Heap} {a : Addr} {ds : List Int32} (F : Str Z h0 a (ds ++ [47])) (hsm : ds.length < 5) (O : Old Z n0 h0) :
    Con WD Z EL0 n0 (⟨"java/lang/String", "substring", "(II)Ljava/lang/String;"⟩ : MethodName) jdk_42_method_92_code 5 (some (.object "java/lang/String")) (Rm 6 3 16 94) [(.ref a), (.int (0 : Int32)), (.int (natI ds.length))] h0 [] (fun v h gs => gs = [] ∧ ∃ s : Addr, v = some (.ref s) ∧ Str Z h s ds) := by
  refine Con.of (a0 := a0) (by first | (exact plainFor_of_name (by first | (simp [plainName, overriddenIn]; done) | decide +kernel)) | decide +kernel) (hEL hw) hWE O (L0 := #[.val (.ref a), .val (.int (0 : Int32)), .val (.int (natI ds.length)), .unset, .unset]) (fun m => by first | rfl | (simp [entryFrame, mkF, argsToLocals, Value.category]; done)) ?_
  intro K C hh
  have hl := F.2.2.1
  have hln : (ds ++ [(47 : Int32)]).length = ds.length + 1 := by simp
  have en := natI_toInt (i := ds.length) (by omega)
  refine Own.aloadN C d15_0 rfl rfl ?_
  refine callV_ C (as' := []) (st := []) (hw _ (List.mem_of_getElem? (i := 47) rfl)) (hw _ (List.mem_of_getElem? (i := 48) rfl)) (fun _ hZ => notFace_of_selects (args := #[]) (mvT hZ (hw _ (List.mem_of_getElem? (i := 50) rfl)))) (hw _ (List.mem_of_getElem? (i := 50) rfl)) (hw _ (List.mem_of_getElem? (i := 49) rfl)) (hw _ (List.mem_of_getElem? (i := 7) rfl)) (hw _ (List.mem_of_getElem? (i := 51) rfl)) ⟨by decide, by decide⟩ F.1 pd__28_29I rfl (fun O => k_length hw hs F O) (fun _ q => nomatch q) rfl (dle rfl) (dle rfl) (dle rfl) (dle rfl) d15_1 rfl (fun v1 hp1 gs1 K1 Q1 => ?_)
  obtain ⟨rfl, rfl⟩ := Q1
  rw [hln]
  show Go _ K Z _ n0 _ _ 4 #[.val (.ref a), .val (.int (0 : Int32)), .val (.int (natI ds.length)), .unset, .unset] [(.int (natI (ds.length + 1)))] hp1 _ _ _
  have Fx1 := F.keep K1
  refine Own.istoreN (L' := #[.val (.ref a), .val (.int (0 : Int32)), .val (.int (natI ds.length)), .val (.int (natI (ds.length + 1))), .unset]) C d15_4 rfl ?_
  refine Own.iloadN C d15_5 rfl ?_
  refine Own.iloadN C d15_6 rfl ?_
  refine Own.iloadN C d15_7 rfl ?_
  refine callS_ C (as := [(.int (0 : Int32)), (.int (natI ds.length)), (.int (natI (ds.length + 1)))]) (st := []) (hw _ (List.mem_of_getElem? (i := 92) rfl)) (hw _ (List.mem_of_getElem? (i := 93) rfl)) (hw _ (List.mem_of_getElem? (i := 7) rfl)) (hw _ (List.mem_of_getElem? (i := 94) rfl)) ⟨by decide, by decide⟩ pd__28III_29V rfl (fun O => k_cbbe hw hs (f := 0) (t := ds.length) (n := ds.length + 1) ⟨by omega, by omega, by omega⟩ O) (fun _ q => nomatch q) rfl (dle rfl) (dle rfl) (dle rfl) (dle rfl) d15_8 rfl (fun v2 hp2 gs2 K2 Q2 => ?_)
  obtain ⟨rfl, rfl⟩ := Q2
  show Go _ K Z _ n0 _ _ 11 #[.val (.ref a), .val (.int (0 : Int32)), .val (.int (natI ds.length)), .val (.int (natI (ds.length + 1))), .unset] [] hp2 _ _ _
  have Fx2 := Fx1.keep K2
  refine Own.iloadN C d15_11 rfl ?_
  refine if_ne C d15_12 (fun q3 => ?_) (fun q3 => ?_)
  · exact absurd rfl q3
  · refine Own.iloadN C d15_15 rfl ?_
    refine Own.iloadN C d15_16 rfl ?_
    refine icmp_ne C d15_17 (fun q4 => ?_) (fun q4 => ?_)
    · refine Own.iloadN C d15_22 rfl ?_
      refine Own.iloadN C d15_23 rfl ?_
      refine Own.isub C d15_24 ?_
      rw [subz]
      show Go _ K Z _ n0 _ _ 25 #[.val (.ref a), .val (.int (0 : Int32)), .val (.int (natI ds.length)), .val (.int (natI (ds.length + 1))), .unset] [(.int (natI ds.length))] hp2 _ _ _
      obtain ⟨E, hc, hl2, bb, z, vs, Fv, Fc, A, By⟩ := Fx2
      refine Own.istore (L' := #[.val (.ref a), .val (.int (0 : Int32)), .val (.int (natI ds.length)), .val (.int (natI (ds.length + 1))), .val (.int (natI ds.length))]) C d15_25 rfl ?_
      refine Own.aloadN C d15_27 rfl rfl ?_
      refine callV_ C (as' := []) (st := []) (hw _ (List.mem_of_getElem? (i := 100) rfl)) (hw _ (List.mem_of_getElem? (i := 101) rfl)) (fun _ hZ => notFace_of_selects (args := #[]) (mvT hZ (hw _ (List.mem_of_getElem? (i := 103) rfl)))) (hw _ (List.mem_of_getElem? (i := 103) rfl)) (hw _ (List.mem_of_getElem? (i := 102) rfl)) (hw _ (List.mem_of_getElem? (i := 7) rfl)) (hw _ (List.mem_of_getElem? (i := 104) rfl)) ⟨by decide, by decide⟩ E pd__28_29Z rfl (fun O => k_isLatin1 hw hs Fc O) (fun _ q => nomatch q) rfl (dle rfl) (dle rfl) (dle rfl) (dle rfl) d15_28 rfl (fun v5 hp5 gs5 K5 Q5 => ?_)
      obtain ⟨rfl, rfl⟩ := Q5
      show Go _ K Z _ n0 _ _ 31 #[.val (.ref a), .val (.int (0 : Int32)), .val (.int (natI ds.length)), .val (.int (natI (ds.length + 1))), .val (.int (natI ds.length))] [(.int (if z = 0 then 1 else 0))] hp5 _ _ _
      refine if_eq C d15_31 (fun q6 => ?_) (fun q6 => ?_)
      · have hz : z = 1 := by rcases By.z01 with t | t; rw [if_pos t] at q6; exact absurd q6 (by decide); exact t
        subst hz
        obtain ⟨hbig, ev⟩ : (∃ c ∈ ds, 256 ≤ c.toInt) ∧ vs = utf (ds ++ [47]) := by rcases By with ⟨-, t, -⟩ | ⟨⟨c, h1, h2⟩, -, t⟩; exact absurd t (by decide); (rcases List.mem_append.mp h1 with h3 | h3; exact ⟨⟨c, h3, h2⟩, t⟩; (simp only [List.mem_singleton] at h3; subst h3; exact absurd h2 (by decide)))
        subst ev
        refine Own.aloadN C d15_47 rfl rfl ?_
        refine getF_ C (hw _ (List.mem_of_getElem? (i := 33) rfl)) (Fv.keep K5 nin0) d15_48 ?_
        refine Own.iloadN C d15_51 rfl ?_
        refine Own.iload C d15_52 rfl ?_
        refine callS_ C (as := [(.ref bb), (.int (0 : Int32)), (.int (natI ds.length))]) (st := []) (hw _ (List.mem_of_getElem? (i := 263) rfl)) (hw _ (List.mem_of_getElem? (i := 264) rfl)) (hw _ (List.mem_of_getElem? (i := 22) rfl)) (hw _ (List.mem_of_getElem? (i := 265) rfl)) ⟨by decide, by decide⟩ pd__28_5bBII_29Ljava_2flang_2fString_3b rfl (fun O => k_unewString (N := 4) hw hs hc hbig hsm ⟨by omega, by decide⟩ (A.keep K5 nin0) O) (fun _ q => nomatch q) rfl (dle rfl) (dle rfl) (dle rfl) (dle rfl) d15_54 rfl (fun v7 hp7 gs7 K7 Q7 => ?_)
        obtain ⟨rfl, s, rfl, Fs⟩ := Q7
        show Go _ K Z _ n0 _ _ 57 #[.val (.ref a), .val (.int (0 : Int32)), .val (.int (natI ds.length)), .val (.int (natI (ds.length + 1))), .val (.int (natI ds.length))] [(.ref s)] hp7 _ _ _
        exact retA C (gs := []) rfl rfl d15_57 (dle rfl) (dle rfl) (fun _ q => nomatch q) ⟨rfl, s, rfl, Fs⟩
      · have hz : z = 0 := by by_cases t : z = 0; exact t; exact absurd (if_neg t) q6
        subst hz
        obtain ⟨hlt, ev⟩ := By.zero
        subst ev
        refine Own.aloadN C d15_34 rfl rfl ?_
        refine getF_ C (hw _ (List.mem_of_getElem? (i := 33) rfl)) (Fv.keep K5 nin0) d15_35 ?_
        refine Own.iloadN C d15_38 rfl ?_
        refine Own.iload C d15_39 rfl ?_
        refine callS_ C (as := [(.ref bb), (.int (0 : Int32)), (.int (natI ds.length))]) (st := []) (hw _ (List.mem_of_getElem? (i := 105) rfl)) (hw _ (List.mem_of_getElem? (i := 106) rfl)) (hw _ (List.mem_of_getElem? (i := 107) rfl)) (hw _ (List.mem_of_getElem? (i := 108) rfl)) ⟨by decide, by decide⟩ pd__28_5bBII_29Ljava_2flang_2fString_3b rfl (fun O => k_newString0 (N := 4) hw hs (fun c h => hc c (List.mem_append_left _ h)) (fun c h => hlt c (List.mem_append_left _ h)) (A.keep K5 nin0) ⟨by omega, by decide⟩ O) (fun _ q => nomatch q) rfl (dle rfl) (dle rfl) (dle rfl) (dle rfl) d15_41 rfl (fun v8 hp8 gs8 K8 Q8 => ?_)
        obtain ⟨rfl, s, rfl, Fs⟩ := Q8
        show Go _ K Z _ n0 _ _ 44 #[.val (.ref a), .val (.int (0 : Int32)), .val (.int (natI ds.length)), .val (.int (natI (ds.length + 1))), .val (.int (natI ds.length))] [(.ref s)] hp8 _ _ _
        refine Own.goto_ C d15_44 ?_
        exact retA C (gs := []) rfl rfl d15_57 (dle rfl) (dle rfl) (fun _ q => nomatch q) ⟨rfl, s, rfl, Fs⟩
    · exact absurd ((natI_inj (by omega) (by omega)).mp q4) (by omega)
set_option maxRecDepth 65536 in
set_option maxHeartbeats 4000000 in
theorem k_ens {Z : State} {a0 : Array Value} (hw : ∀ d ∈ tables_1, d.before a0 Z = true) (hs : Stt Z) {n0 : Nat} {h0 : Heap} {a b : Addr} {vs : List Value} {z y : Int32} {cap m : Nat} (V : (Fld Z h0 a "java/lang/AbstractStringBuilder" "value" "[B" (.ref b))) (A : Ary Z h0 b .byte vs) (hy : y.toInt = vs.length) (Cd : (Fld Z h0 a "java/lang/AbstractStringBuilder" "coder" "B" (.int z))) (hz : y >>> (z &&& 31) = natI cap) (hm : m ≤ cap ∧ cap ≤ 4096) (O : Old Z n0 h0) :
    Con WD Z EL0 n0 (⟨"java/lang/AbstractStringBuilder", "ensureCapacityInternal", "(I)V"⟩ : MethodName) jdk_68_method_9_code 3 none (Rm 0 0 0 0) [(.ref a), (.int (natI m))] h0 [] (fun v h gs => v = none ∧ gs = []) := by
  refine Con.of (a0 := a0) (by first | (exact plainFor_of_name (by first | (simp [plainName, overriddenIn]; done) | decide +kernel)) | decide +kernel) (hEL hw) hWE O (L0 := #[.val (.ref a), .val (.int (natI m)), .unset]) (fun m => by first | rfl | (simp [entryFrame, mkF, argsToLocals, Value.category]; done)) ?_
  intro K C hh
  have ec := natI_toInt (i := cap) (by omega)
  have em := natI_toInt (i := m) (by omega)
  have z0 : (0 : Int32).toInt = 0 := rfl
  have hsub : (natI m - natI cap).toInt = (m : Int) - cap := by have a3 := c_isub (natI m) (natI cap); have a4 := rng32 (natI m - natI cap); omega
  refine Own.aloadN C d22_0 rfl rfl ?_
  refine getF_ C (hw _ (List.mem_of_getElem? (i := 82) rfl)) V d22_1 ?_
  refine arrlen C A (z := y) hy d22_4 ?_
  refine Own.aloadN C d22_5 rfl rfl ?_
  refine getF_ C (hw _ (List.mem_of_getElem? (i := 84) rfl)) Cd d22_6 ?_
  refine Own.ishr C d22_9 ?_
  rw [hz]
  show Go _ K Z _ n0 _ _ 10 #[.val (.ref a), .val (.int (natI m)), .unset] [(.int (natI cap))] h0 _ _ _
  refine Own.istoreN (L' := #[.val (.ref a), .val (.int (natI m)), .val (.int (natI cap))]) C d22_10 rfl ?_
  refine Own.iloadN C d22_11 rfl ?_
  refine Own.iloadN C d22_12 rfl ?_
  refine Own.isub C d22_13 ?_
  refine if_le C d22_14 (fun q1 => ?_) (fun q1 => ?_)
  · exact retV C (gs := []) d22_38 (dle rfl) (dle rfl) (fun _ q => nomatch q) ⟨rfl, rfl⟩
  · rw [lt32, hsub, z0] at q1
    omega
set_option maxRecDepth 65536 in
set_option maxHeartbeats 4000000 in
theorem k_asblatz {Z : State} {a0 : Array Value} (hw : ∀ d ∈ tables_1, d.before a0 Z = true) (hs : Stt Z) {n0 : Nat} {h0 : Heap} {a : Addr} {z : Int32} (Cd : (Fld Z h0 a "java/lang/AbstractStringBuilder" "coder" "B" (.int z))) (O : Old Z n0 h0) :
    Con WD Z EL0 n0 (⟨"java/lang/AbstractStringBuilder", "isLatin1", "()Z"⟩ : MethodName) jdk_68_method_68_code 1 (some .boolean) (Rm 0 0 0 0) [(.ref a)] h0 [] (fun v h gs => v = some (.int (if z = 0 then 1 else 0)) ∧ gs = []) := by
  refine Con.of (a0 := a0) (by first | (exact plainFor_of_name (by first | (simp [plainName, overriddenIn]; done) | decide +kernel)) | decide +kernel) (hEL hw) hWE O (L0 := #[.val (.ref a)]) (fun m => by first | rfl | (simp [entryFrame, mkF, argsToLocals, Value.category]; done)) ?_
  intro K C hh
  obtain ⟨cv, hcv, Sc⟩ := st_c hs
  refine getS_ C (hw _ (List.mem_of_getElem? (i := 81) rfl)) Sc d28_0 ?_
  refine if_eq C d28_3 (fun q1 => ?_) (fun q1 => ?_)
  · exact absurd q1 hcv
  · refine Own.aloadN C d28_6 rfl rfl ?_
    refine getF_ C (hw _ (List.mem_of_getElem? (i := 84) rfl)) Cd d28_7 ?_
    refine if_ne C d28_10 (fun q2 => ?_) (fun q2 => ?_)
    · refine Own.iconst (v := 0) C d28_17 rfl ?_
      exact retZ C (gs := []) d28_18 (dle rfl) (dle rfl) (fun _ q => nomatch q) ⟨by rw [if_neg q2]; rfl, rfl⟩
    · refine Own.iconst (v := 1) C d28_13 rfl ?_
      refine Own.goto_ C d28_14 ?_
      exact retZ C (gs := []) d28_18 (dle rfl) (dle rfl) (fun _ q => nomatch q) ⟨by rw [if_pos q2]; rfl, rfl⟩
set_option maxRecDepth 65536 in
set_option maxHeartbeats 4000000 in
theorem k_uinflate0 {Z : State} {a0 : Array Value} (hw : ∀ d ∈ tables_1, d.before a0 Z = true) (hs : Stt Z) {n0 : Nat} {h0 : Heap} {b d : Addr} {ws : List Value} (A : Ary Z h0 d .byte ws) (hwl : ws.length = 2 * 16) (O : Old Z n0 h0) :
    Con WD Z EL0 n0 (⟨"java/lang/StringUTF16", "inflate", "([BI[BII)V"⟩ : MethodName) jdk_52_method_86_code 6 none (Rm 3 0 0 43) [(.ref b), (.int (0 : Int32)), (.ref d), (.int (0 : Int32)), (.int (natI 0))] h0 [] (fun v h gs => v = none ∧ gs = []) := by
  refine Con.of (a0 := a0) (by first | (exact plainFor_of_name (by first | (simp [plainName, overriddenIn]; done) | decide +kernel)) | decide +kernel) (hEL hw) hWE O (L0 := #[.val (.ref b), .val (.int (0 : Int32)), .val (.ref d), .val (.int (0 : Int32)), .val (.int (natI 0)), .unset]) (fun m => by first | rfl | (simp [entryFrame, mkF, argsToLocals, Value.category]; done)) ?_
  intro K C hh
  refine Own.iloadN C d61_0 rfl ?_
  refine Own.iload C d61_1 rfl ?_
  refine Own.aloadN C d61_3 rfl rfl ?_
  refine callS_ C (as := [(.int (0 : Int32)), (.int (natI 0)), (.ref d)]) (st := []) (hw _ (List.mem_of_getElem? (i := 273) rfl)) (hw _ (List.mem_of_getElem? (i := 274) rfl)) (hw _ (List.mem_of_getElem? (i := 22) rfl)) (hw _ (List.mem_of_getElem? (i := 275) rfl)) ⟨by decide, by decide⟩ pd__28II_5bB_29V rfl (fun O => k_uboc hw hs (m := 0) (n := 16) ⟨by decide, by decide⟩ (by decide) A hwl O) (fun _ q => nomatch q) rfl (dle rfl) (dle rfl) (dle rfl) (dle rfl) d61_4 rfl (fun v1 hp1 gs1 K1 Q1 => ?_)
  obtain ⟨rfl, rfl⟩ := Q1
  show Go _ K Z _ n0 _ _ 7 #[.val (.ref b), .val (.int (0 : Int32)), .val (.ref d), .val (.int (0 : Int32)), .val (.int (natI 0)), .unset] [] hp1 _ _ _
  refine Own.iconst (v := 0) C d61_7 rfl ?_
  refine Own.istore (L' := #[.val (.ref b), .val (.int (0 : Int32)), .val (.ref d), .val (.int (0 : Int32)), .val (.int (natI 0)), .val (.int (0 : Int32))]) C d61_8 rfl ?_
  refine Own.iload C d61_10 rfl ?_
  refine Own.iload C d61_12 rfl ?_
  refine icmp_ge C d61_14 (fun q2 => ?_) (fun q2 => ?_)
  · exact retV C (gs := []) d61_41 (dle rfl) (dle rfl) (fun _ q => nomatch q) ⟨rfl, rfl⟩
  · exact absurd q2 (by decide)
set_option maxRecDepth 65536 in
set_option maxHeartbeats 4000000 in
theorem k_linflate0 {Z : State} {a0 : Array Value} (hw : ∀ d ∈ tables_1, d.before a0 Z = true) (hs : Stt Z) {n0 : Nat} {h0 : Heap} {b d : Addr} {ws : List Value} (A : Ary Z h0 d .byte ws) (hwl : ws.length = 2 * 16) (O : Old Z n0 h0) :
    Con WD Z EL0 n0 (⟨"java/lang/StringLatin1", "inflate", "([BI[BII)V"⟩ : MethodName) jdk_43_method_50_code 5 none (Rm 4 0 0 60) [(.ref b), (.int (0 : Int32)), (.ref d), (.int (0 : Int32)), (.int (natI 0))] h0 [] (fun v h gs => v = none ∧ gs = []) := by
  refine Con.of (a0 := a0) (by first | (exact plainFor_of_name (by first | (simp [plainName, overriddenIn]; done) | decide +kernel)) | decide +kernel) (hEL hw) hWE O (L0 := #[.val (.ref b), .val (.int (0 : Int32)), .val (.ref d), .val (.int (0 : Int32)), .val (.int (natI 0))]) (fun m => by first | rfl | (simp [entryFrame, mkF, argsToLocals, Value.category]; done)) ?_
  intro K C hh
  refine Own.aloadN C d60_0 rfl rfl ?_
  refine Own.iloadN C d60_1 rfl ?_
  refine Own.aloadN C d60_2 rfl rfl ?_
  refine Own.iloadN C d60_3 rfl ?_
  refine Own.iload C d60_4 rfl ?_
  refine callS_ C (as := [(.ref b), (.int (0 : Int32)), (.ref d), (.int (0 : Int32)), (.int (natI 0))]) (st := []) (hw _ (List.mem_of_getElem? (i := 298) rfl)) (hw _ (List.mem_of_getElem? (i := 299) rfl)) (hw _ (List.mem_of_getElem? (i := 22) rfl)) (hw _ (List.mem_of_getElem? (i := 300) rfl)) ⟨by decide, by decide⟩ pd__28_5bBI_5bBII_29V rfl (fun O => k_uinflate0 hw hs A hwl O) (fun _ q => nomatch q) rfl (dle rfl) (dle rfl) (dle rfl) (dle rfl) d60_6 rfl (fun v1 hp1 gs1 K1 Q1 => ?_)
  obtain ⟨rfl, rfl⟩ := Q1
  show Go _ K Z _ n0 _ _ 9 #[.val (.ref b), .val (.int (0 : Int32)), .val (.ref d), .val (.int (0 : Int32)), .val (.int (natI 0))] [] hp1 _ _ _
  exact retV C (gs := []) d60_9 (dle rfl) (dle rfl) (fun _ q => nomatch q) ⟨rfl, rfl⟩
set_option maxRecDepth 65536 in
set_option maxHeartbeats 4000000 in
theorem k_inflate {Z : State} {a0 : Array Value} (hw : ∀ d ∈ tables_1, d.before a0 Z = true) (hs : Stt Z) {n0 : Nat} {h0 : Heap} {a b : Addr} (S : Sb Z h0 a b [] 16) (Mb : (Fld Z h0 a "java/lang/AbstractStringBuilder" "maybeLatin1" "Z" (.int 0))) (O : Old Z n0 h0) :
    Con WD Z EL0 n0 (⟨"java/lang/AbstractStringBuilder", "inflate", "()V"⟩ : MethodName) jdk_68_method_11_code 2 none (Rm 5 1 32 76) [(.ref a)] h0 [a] (fun v h gs => v = none ∧ ∃ d : Addr, gs = [d] ∧ h0.size ≤ d ∧ Su Z h a d [] 16) := by
  refine Con.of (a0 := a0) (by first | (exact plainFor_of_name (by first | (simp [plainName, overriddenIn]; done) | decide +kernel)) | decide +kernel) (hEL hw) hWE O (L0 := #[.val (.ref a), .unset]) (fun m => by first | rfl | (simp [entryFrame, mkF, argsToLocals, Value.category]; done)) ?_
  intro K C hh
  obtain ⟨E, V, Nc, Cd, ⟨rest, B, hl⟩, hcs, hcap⟩ := S
  have hvl : (lat [] ++ rest).length = 16 := by rw [List.length_append, lat_len]; exact hl
  have hvm := slot_ne (Or.inl (hw _ (List.mem_of_getElem? (i := 83) rfl)) : Laid Z a0 "java/lang/StringBuilder" "java/lang/AbstractStringBuilder" "value" "[B") (Or.inl (hw _ (List.mem_of_getElem? (i := 314) rfl)) : Laid Z a0 "java/lang/StringBuilder" "java/lang/AbstractStringBuilder" "maybeLatin1" "Z") (by decide) (t := .array .byte) (t' := .boolean) (by decide) (by decide)
  have hcm := slot_ne (Or.inl (hw _ (List.mem_of_getElem? (i := 85) rfl)) : Laid Z a0 "java/lang/StringBuilder" "java/lang/AbstractStringBuilder" "coder" "B") (Or.inl (hw _ (List.mem_of_getElem? (i := 314) rfl)) : Laid Z a0 "java/lang/StringBuilder" "java/lang/AbstractStringBuilder" "maybeLatin1" "Z") (by decide) (t := .byte) (t' := .boolean) (by decide) (by decide)
  have hnm := slot_ne (Or.inl (hw _ (List.mem_of_getElem? (i := 122) rfl)) : Laid Z a0 "java/lang/StringBuilder" "java/lang/AbstractStringBuilder" "count" "I") (Or.inl (hw _ (List.mem_of_getElem? (i := 314) rfl)) : Laid Z a0 "java/lang/StringBuilder" "java/lang/AbstractStringBuilder" "maybeLatin1" "Z") (by decide) (t := .int) (t' := .boolean) (by decide) (by decide)
  have hvc := slot_ne (Or.inl (hw _ (List.mem_of_getElem? (i := 83) rfl)) : Laid Z a0 "java/lang/StringBuilder" "java/lang/AbstractStringBuilder" "value" "[B") (Or.inl (hw _ (List.mem_of_getElem? (i := 85) rfl)) : Laid Z a0 "java/lang/StringBuilder" "java/lang/AbstractStringBuilder" "coder" "B") (by decide) (t := .array .byte) (t' := .byte) (by decide) (by decide)
  have hvn := slot_ne (Or.inl (hw _ (List.mem_of_getElem? (i := 83) rfl)) : Laid Z a0 "java/lang/StringBuilder" "java/lang/AbstractStringBuilder" "value" "[B") (Or.inl (hw _ (List.mem_of_getElem? (i := 122) rfl)) : Laid Z a0 "java/lang/StringBuilder" "java/lang/AbstractStringBuilder" "count" "I") (by decide) (t := .array .byte) (t' := .int) (by decide) (by decide)
  have hcn := slot_ne (Or.inl (hw _ (List.mem_of_getElem? (i := 85) rfl)) : Laid Z a0 "java/lang/StringBuilder" "java/lang/AbstractStringBuilder" "coder" "B") (Or.inl (hw _ (List.mem_of_getElem? (i := 122) rfl)) : Laid Z a0 "java/lang/StringBuilder" "java/lang/AbstractStringBuilder" "count" "I") (by decide) (t := .byte) (t' := .int) (by decide) (by decide)
  refine Own.aloadN C d59_0 rfl rfl ?_
  refine callV_ C (as' := []) (st := []) (hw _ (List.mem_of_getElem? (i := 157) rfl)) (hw _ (List.mem_of_getElem? (i := 158) rfl)) (fun _ hZ => notFace_of_selects (args := #[]) (mvT hZ (hw _ (List.mem_of_getElem? (i := 160) rfl)))) (hw _ (List.mem_of_getElem? (i := 160) rfl)) (hw _ (List.mem_of_getElem? (i := 159) rfl)) (hw _ (List.mem_of_getElem? (i := 78) rfl)) (hw _ (List.mem_of_getElem? (i := 161) rfl)) ⟨by decide, by decide⟩ E pd__28_29Z rfl (fun O => k_asblatz hw hs Cd O) (fun _ q => nomatch q) rfl (dle rfl) (dle rfl) (dle rfl) (dle rfl) d59_1 rfl (fun v1 hp1 gs1 K1 Q1 => ?_)
  obtain ⟨rfl, rfl⟩ := Q1
  show Go _ K Z _ n0 _ _ 4 #[.val (.ref a), .unset] [(.int (1 : Int32))] hp1 _ _ _
  refine if_ne C d59_4 (fun q2 => ?_) (fun q2 => ?_)
  · refine Own.aloadN C d59_8 rfl rfl ?_
    refine getF_ C (hw _ (List.mem_of_getElem? (i := 82) rfl)) (V.keep K1 nin0) d59_9 ?_
    refine arrlen C (B.keep K1 nin0).1 (z := (natI 16)) (by rw [hvl]; exact natI_toInt (by decide)) d59_12 ?_
    refine callS_ C (as := [(.int (natI 16))]) (st := []) (hw _ (List.mem_of_getElem? (i := 294) rfl)) (hw _ (List.mem_of_getElem? (i := 247) rfl)) (hw _ (List.mem_of_getElem? (i := 22) rfl)) (hw _ (List.mem_of_getElem? (i := 248) rfl)) ⟨by decide, by decide⟩ pd__28I_29_5bB rfl (fun O => k_nbf (N := 16) hw hs (m := 16) ⟨by decide, by decide⟩ O) (fun _ q => nomatch q) rfl (dle rfl) (dle rfl) (dle rfl) (dle rfl) d59_13 rfl (fun v3 hp3 gs3 K3 Q3 => ?_)
    obtain ⟨d, rfl, rfl, hge, Dx⟩ := Q3
    show Go _ K Z _ n0 _ _ 16 #[.val (.ref a), .unset] [(.ref d)] hp3 _ _ _
    have KK := K1.trans K3 (fun _ q => nomatch q)
    have hge0 : h0.size ≤ d := Nat.le_trans K1.1 hge
    refine Own.astoreN (L' := #[.val (.ref a), .val (.ref d)]) C d59_16 rfl rfl ?_
    refine Own.aloadN C d59_17 rfl rfl ?_
    refine getF_ C (hw _ (List.mem_of_getElem? (i := 82) rfl)) (V.keep KK nin0) d59_18 ?_
    refine Own.iconst (v := 0) C d59_21 rfl ?_
    refine Own.aloadN C d59_22 rfl rfl ?_
    refine Own.iconst (v := 0) C d59_23 rfl ?_
    refine Own.aloadN C d59_24 rfl rfl ?_
    refine getF_ C (hw _ (List.mem_of_getElem? (i := 121) rfl)) (Nc.keep KK nin0) d59_25 ?_
    refine callS_ C (as := [(.ref b), (.int (0 : Int32)), (.ref d), (.int (0 : Int32)), (.int (natI 0))]) (st := []) (hw _ (List.mem_of_getElem? (i := 295) rfl)) (hw _ (List.mem_of_getElem? (i := 296) rfl)) (hw _ (List.mem_of_getElem? (i := 107) rfl)) (hw _ (List.mem_of_getElem? (i := 297) rfl)) ⟨by decide, by decide⟩ pd__28_5bBI_5bBII_29V rfl (fun O => k_linflate0 hw hs Dx (by simp) O) (fun _ q => nomatch q) rfl (dle rfl) (dle rfl) (dle rfl) (dle rfl) d59_28 rfl (fun v4 hp4 gs4 K4 Q4 => ?_)
    obtain ⟨rfl, rfl⟩ := Q4
    show Go _ K Z _ n0 _ _ 31 #[.val (.ref a), .val (.ref d)] [] hp4 _ _ _
    have KT := KK.trans K4 (fun _ q => nomatch q)
    have Ex1 := E.keep KT
    have Vx1 := V.keep KT nin0
    have Nx1 := Nc.keep KT nin0
    have Cx1 := Cd.keep KT nin0
    have Mx1 := Mb.keep KT nin0
    have Dx1 := Dx.keep K4 nin0
    refine Own.aloadN C d59_31 rfl rfl ?_
    refine Own.aloadN C d59_32 rfl rfl ?_
    refine putF_ C (v' := .ref d) (ty := (.array .byte)) (hw _ (List.mem_of_getElem? (i := 82) rfl)) Vx1 Ex1 (Or.inl (hw _ (List.mem_of_getElem? (i := 83) rfl))) (hw _ (List.mem_of_getElem? (i := 69) rfl)) (by decide) rfl rfl (by simp) d59_33 (fun hp5 W6 => ?_)
    have Ex2 := Ex1.wr W6
    have Vx2 := Vx1.same W6
    have Nx2 := Nx1.other W6 (Or.inr hvn.symm)
    have Cx2 := Cx1.other W6 (Or.inr hvc.symm)
    have Mx2 := Mx1.other W6 (Or.inr hvm.symm)
    have Dx2 := Dx1.other W6 (Dx1.neX Ex1 (hw _ (List.mem_of_getElem? (i := 69) rfl)))
    refine Own.aloadN C d59_36 rfl rfl ?_
    refine Own.iconst (v := 1) C d59_37 rfl ?_
    refine putF_ C (v' := .int (1 : Int32)) (ty := .byte) (hw _ (List.mem_of_getElem? (i := 84) rfl)) Cx2 Ex2 (Or.inl (hw _ (List.mem_of_getElem? (i := 85) rfl))) (hw _ (List.mem_of_getElem? (i := 69) rfl)) (by decide) rfl rfl (by simp) d59_38 (fun hp7 W8 => ?_)
    have Dx3 := Dx2.other W8 (Dx2.neX Ex2 (hw _ (List.mem_of_getElem? (i := 69) rfl)))
    exact retV C (gs := [d]) d59_41 (dle rfl) (dle rfl) (by simp) ⟨rfl, d, rfl, hge0, Ex2.wr W8, Vx2.other W8 (Or.inr hvc), Nx2.other W8 (Or.inr hcn.symm), Cx2.same W8, Mx2.other W8 (Or.inr hcm.symm), ⟨List.replicate (2 * 16) (.int 0), Dx3, fun v hv => by rw [List.mem_replicate] at hv; rw [hv.2]; exact fits0, by simp⟩, by simp, by decide⟩
  · exact absurd q2 (by decide)
set_option maxRecDepth 65536 in
set_option maxHeartbeats 4000000 in
theorem k_inflateIfU {Z : State} {a0 : Array Value} (hw : ∀ d ∈ tables_1, d.before a0 Z = true) (hs : Stt Z) {n0 : Nat} {h0 : Heap} {a b s : Addr} (S : Sb Z h0 a b [] 16) (Mb : (Fld Z h0 a "java/lang/AbstractStringBuilder" "maybeLatin1" "Z" (.int 0))) (E : Exa Z h0 s "java/lang/String") (Fc : Fld Z h0 s "java/lang/String" "coder" "B" (.int 1)) (O : Old Z n0 h0) :
    Con WD Z EL0 n0 (⟨"java/lang/AbstractStringBuilder", "inflateIfNeededFor", "(Ljava/lang/String;)V"⟩ : MethodName) jdk_68_method_71_code 2 none (Rm 6 1 32 89) [(.ref a), (.ref s)] h0 [a] (fun v h gs => v = none ∧ ∃ d : Addr, gs = [d] ∧ h0.size ≤ d ∧ Su Z h a d [] 16) := by
  refine Con.of (a0 := a0) (by first | (exact plainFor_of_name (by first | (simp [plainName, overriddenIn]; done) | decide +kernel)) | decide +kernel) (hEL hw) hWE O (L0 := #[.val (.ref a), .val (.ref s)]) (fun m => by first | rfl | (simp [entryFrame, mkF, argsToLocals, Value.category]; done)) ?_
  intro K C hh
  obtain ⟨cv, hcv, Sc⟩ := st_c hs
  refine getS_ C (hw _ (List.mem_of_getElem? (i := 81) rfl)) Sc d24_0 ?_
  refine if_eq C d24_3 (fun q1 => ?_) (fun q1 => ?_)
  · exact absurd q1 hcv
  · refine Own.aloadN C d24_6 rfl rfl ?_
    refine getF_ C (hw _ (List.mem_of_getElem? (i := 84) rfl)) S.2.2.2.1 d24_7 ?_
    refine Own.aloadN C d24_10 rfl rfl ?_
    refine callV_ C (as' := []) (st := [(.int (0 : Int32))]) (hw _ (List.mem_of_getElem? (i := 138) rfl)) (hw _ (List.mem_of_getElem? (i := 53) rfl)) (fun _ hZ => notFace_of_selects (args := #[]) (mvT hZ (hw _ (List.mem_of_getElem? (i := 55) rfl)))) (hw _ (List.mem_of_getElem? (i := 55) rfl)) (hw _ (List.mem_of_getElem? (i := 54) rfl)) (hw _ (List.mem_of_getElem? (i := 7) rfl)) (hw _ (List.mem_of_getElem? (i := 56) rfl)) ⟨by decide, by decide⟩ E pd__28_29B rfl (fun O => k_scoder hw hs rfl Fc O) (fun _ q => nomatch q) rfl (dle rfl) (dle rfl) (dle rfl) (dle rfl) d24_11 rfl (fun v2 hp2 gs2 K2 Q2 => ?_)
    obtain ⟨rfl, rfl⟩ := Q2
    show Go _ K Z _ n0 _ _ 14 #[.val (.ref a), .val (.ref s)] [(.int (1 : Int32)), (.int (0 : Int32))] hp2 _ _ _
    refine icmp_eq C d24_14 (fun q3 => ?_) (fun q3 => ?_)
    · exact absurd q3 (by decide)
    · refine Own.aloadN C d24_17 rfl rfl ?_
      have Sx1 := S.keep K2 nin0 nin0
      refine callP_ C (as' := []) (st := []) (hw _ (List.mem_of_getElem? (i := 289) rfl)) (hw _ (List.mem_of_getElem? (i := 290) rfl)) (hw _ (List.mem_of_getElem? (i := 292) rfl)) (hw _ (List.mem_of_getElem? (i := 291) rfl)) (hw _ (List.mem_of_getElem? (i := 78) rfl)) (hw _ (List.mem_of_getElem? (i := 293) rfl)) ⟨by decide, by decide⟩ Sx1.1 pd__28_29V rfl (fun O => k_inflate hw hs Sx1 (Mb.keep K2 nin0) O) (by simp) rfl (dle rfl) (dle rfl) (dle rfl) (dle rfl) d24_18 rfl (fun v4 hp4 gs4 K4 Q4 => ?_)
      obtain ⟨rfl, d, rfl, hge, Sx2⟩ := Q4
      show Go _ K Z _ n0 _ _ 21 #[.val (.ref a), .val (.ref s)] [] hp4 _ _ _
      exact retV C (gs := [d]) d24_21 (dle rfl) (dle rfl) (by simp) ⟨rfl, d, rfl, Nat.le_trans K2.1 hge, Sx2⟩
set_option maxRecDepth 65536 in
set_option maxHeartbeats 4000000 in
theorem k_getBytesU {Z : State} {a0 : Array Value} (hw : ∀ d ∈ tables_1, d.before a0 Z = true) (hs : Stt Z) {n0 : Nat} {h0 : Heap} {s b c : Addr} {ds : List Int32} {ws : List Value} (E : Exa Z h0 s "java/lang/String") (Fc : Fld Z h0 s "java/lang/String" "coder" "B" (.int 1)) (Fv : Fld Z h0 s "java/lang/String" "value" "[B" (.ref c)) (A : Ary Z h0 c .byte (utf ds)) (Bw : Ary Z h0 b .byte ws) (hi : 2 * ds.length ≤ ws.length) (hw4 : ws.length ≤ 4096) (O : Old Z n0 h0) :
    Con WD Z EL0 n0 (⟨"java/lang/String", "getBytes", "([BIB)V"⟩ : MethodName) jdk_42_method_147_code 4 none (Rm 1 0 0 18) [(.ref s), (.ref b), (.int (natI 0)), (.int (1 : Int32))] h0 [b] (fun v h gs => v = none ∧ gs = [] ∧ Ary Z h b .byte (utf ds ++ ws.drop (2 * ds.length))) := by
  refine Con.of (a0 := a0) (by first | (exact plainFor_of_name (by first | (simp [plainName, overriddenIn]; done) | decide +kernel)) | decide +kernel) (hEL hw) hWE O (L0 := #[.val (.ref s), .val (.ref b), .val (.int (natI 0)), .val (.int (1 : Int32))]) (fun m => by first | rfl | (simp [entryFrame, mkF, argsToLocals, Value.category]; done)) ?_
  intro K C hh
  have hul := utf_len ds
  have el := natI_toInt (i := 2 * ds.length) (by omega)
  refine Own.aloadN C d25_0 rfl rfl ?_
  refine callV_ C (as' := []) (st := []) (hw _ (List.mem_of_getElem? (i := 52) rfl)) (hw _ (List.mem_of_getElem? (i := 53) rfl)) (fun _ hZ => notFace_of_selects (args := #[]) (mvT hZ (hw _ (List.mem_of_getElem? (i := 55) rfl)))) (hw _ (List.mem_of_getElem? (i := 55) rfl)) (hw _ (List.mem_of_getElem? (i := 54) rfl)) (hw _ (List.mem_of_getElem? (i := 7) rfl)) (hw _ (List.mem_of_getElem? (i := 56) rfl)) ⟨by decide, by decide⟩ E pd__28_29B rfl (fun O => k_scoder hw hs rfl Fc O) (fun _ q => nomatch q) rfl (dle rfl) (dle rfl) (dle rfl) (dle rfl) d25_1 rfl (fun v1 hp1 gs1 K1 Q1 => ?_)
  obtain ⟨rfl, rfl⟩ := Q1
  show Go _ K Z _ n0 _ _ 4 #[.val (.ref s), .val (.ref b), .val (.int (natI 0)), .val (.int (1 : Int32))] [(.int (1 : Int32))] hp1 _ _ _
  refine Own.iloadN C d25_4 rfl ?_
  refine icmp_ne C d25_5 (fun q2 => ?_) (fun q2 => ?_)
  · exact absurd rfl q2
  · have Ax1 := A.keep K1 nin0
    have Bx1 := Bw.keep K1 nin0
    have Vx1 := Fv.keep K1 nin0
    refine Own.aloadN C d25_8 rfl rfl ?_
    refine getF_ C (hw _ (List.mem_of_getElem? (i := 33) rfl)) Vx1 d25_9 ?_
    refine Own.iconst (v := 0) C d25_12 rfl ?_
    refine Own.aloadN C d25_13 rfl rfl ?_
    refine Own.iloadN C d25_14 rfl ?_
    refine Own.iloadN C d25_15 rfl ?_
    refine Own.ishl C d25_16 ?_
    refine Own.aloadN C d25_17 rfl rfl ?_
    refine getF_ C (hw _ (List.mem_of_getElem? (i := 33) rfl)) Vx1 d25_18 ?_
    refine arrlen C Ax1 (z := (natI (2 * ds.length))) (by rw [el, hul]) d25_21 ?_
    refine acopy_ C (st := []) (hw _ (List.mem_of_getElem? (i := 144) rfl)) (hw _ (List.mem_of_getElem? (i := 147) rfl)) (hw _ (List.mem_of_getElem? (i := 145) rfl)) (hw _ (List.mem_of_getElem? (i := 146) rfl)) Ax1 Bx1 0 0 (2 * ds.length) rfl (shl1 (i := 0) rfl (by decide)) el (by omega) (by omega) (fun v hv => fits_utf v (List.mem_of_mem_drop (List.mem_of_mem_take hv))) (by simp) rfl (dle rfl) (dle rfl) d25_22 (fun hp3 K3 A3 => ?_)
    rw [over_all hul.symm] at A3
    refine Own.goto_ C d25_25 ?_
    exact retV C (gs := []) d25_43 (dle rfl) (dle rfl) (fun _ q => nomatch q) ⟨rfl, rfl, A3⟩
set_option maxRecDepth 65536 in
set_option maxHeartbeats 4000000 in
theorem k_putStringU {Z : State} {a0 : Array Value} (hw : ∀ d ∈ tables_1, d.before a0 Z = true) (hs : Stt Z) {n0 : Nat} {h0 : Heap} {a b s : Addr} {ds : List Int32} (S : Sb Z h0 a b [] 16) (Mb : (Fld Z h0 a "java/lang/AbstractStringBuilder" "maybeLatin1" "Z" (.int 0))) (F : Str Z h0 s ds) (hbig : ∃ c ∈ ds, 256 ≤ c.toInt) (hsm : ds.length < 5) (O : Old Z n0 h0) :
    Con WD Z EL0 n0 (⟨"java/lang/AbstractStringBuilder", "putStringAt", "(ILjava/lang/String;)V"⟩ : MethodName) jdk_68_method_73_code 3 none (Rm 7 1 32 102) [(.ref a), (.int (natI 0)), (.ref s)] h0 [a] (fun v h gs => v = none ∧ ∃ d : Addr, gs = [d] ∧ Exa Z h a "java/lang/StringBuilder" ∧ (Fld Z h a "java/lang/AbstractStringBuilder" "value" "[B" (.ref d)) ∧ (Fld Z h a "java/lang/AbstractStringBuilder" "count" "I" (.int (natI 0))) ∧ (Fld Z h a "java/lang/AbstractStringBuilder" "coder" "B" (.int 1)) ∧ (Fld Z h a "java/lang/AbstractStringBuilder" "maybeLatin1" "Z" (.int 0)) ∧ ∃ rest, Ary Z h d .byte (utf ds ++ rest) ∧ (∀ v ∈ rest, fits .byte v = true) ∧ 2 * ds.length + rest.length = 32) := by
  refine Con.of (a0 := a0) (by first | (exact plainFor_of_name (by first | (simp [plainName, overriddenIn]; done) | decide +kernel)) | decide +kernel) (hEL hw) hWE O (L0 := #[.val (.ref a), .val (.int (natI 0)), .val (.ref s)]) (fun m => by first | rfl | (simp [entryFrame, mkF, argsToLocals, Value.category]; done)) ?_
  intro K C hh
  obtain ⟨E', hc1, hl1, c, z, vs, Fv, Fc, A, Bt⟩ := F
  obtain ⟨rfl, rfl⟩ : z = 1 ∧ vs = utf ds := by rcases Bt with ⟨p, -, -⟩ | ⟨-, p, q⟩; (obtain ⟨c, hc, h2⟩ := hbig; exact absurd (p c hc) (by omega)); exact ⟨p, q⟩
  have nsa : s ∉ [a] := ninS (ne_exa E' S.1 (by decide)) nin0
  have nca : c ∉ [a] := ninS (A.neX S.1 (hw _ (List.mem_of_getElem? (i := 69) rfl))) nin0
  refine Own.aloadN C d23_0 rfl rfl ?_
  refine Own.aloadN C d23_1 rfl rfl ?_
  refine callP_ C (as' := [(.ref s)]) (st := []) (hw _ (List.mem_of_getElem? (i := 133) rfl)) (hw _ (List.mem_of_getElem? (i := 134) rfl)) (hw _ (List.mem_of_getElem? (i := 136) rfl)) (hw _ (List.mem_of_getElem? (i := 135) rfl)) (hw _ (List.mem_of_getElem? (i := 78) rfl)) (hw _ (List.mem_of_getElem? (i := 137) rfl)) ⟨by decide, by decide⟩ S.1 pd__28Ljava_2flang_2fString_3b_29V rfl (fun O => k_inflateIfU hw hs S Mb E' Fc O) (by simp) rfl (dle rfl) (dle rfl) (dle rfl) (dle rfl) d23_2 rfl (fun v1 hp1 gs1 K1 Q1 => ?_)
  obtain ⟨rfl, d, rfl, hge, Sx⟩ := Q1
  show Go _ K Z _ n0 _ _ 5 #[.val (.ref a), .val (.int (natI 0)), .val (.ref s)] [] hp1 _ _ _
  obtain ⟨Ex, Vx, Nx, Cd, Mx, ⟨rest, Dx, hfr, hlr⟩, -, -⟩ := Sx
  have nad : a ∉ [d] := ninS (Dx.neX Ex (hw _ (List.mem_of_getElem? (i := 69) rfl))).symm nin0
  have hrl : (utf [] ++ rest).length = 32 := by rw [List.length_append, utf_len]; exact hlr
  refine Own.aloadN C d23_5 rfl rfl ?_
  refine Own.aloadN C d23_6 rfl rfl ?_
  refine getF_ C (hw _ (List.mem_of_getElem? (i := 82) rfl)) Vx d23_7 ?_
  refine Own.iloadN C d23_10 rfl ?_
  refine Own.aloadN C d23_11 rfl rfl ?_
  refine getF_ C (hw _ (List.mem_of_getElem? (i := 84) rfl)) Cd d23_12 ?_
  refine callV_ C (as' := [(.ref d), (.int (natI 0)), (.int (1 : Int32))]) (st := []) (hw _ (List.mem_of_getElem? (i := 139) rfl)) (hw _ (List.mem_of_getElem? (i := 140) rfl)) (fun _ hZ => notFace_of_selects (args := #[]) (mvT hZ (hw _ (List.mem_of_getElem? (i := 142) rfl)))) (hw _ (List.mem_of_getElem? (i := 142) rfl)) (hw _ (List.mem_of_getElem? (i := 141) rfl)) (hw _ (List.mem_of_getElem? (i := 7) rfl)) (hw _ (List.mem_of_getElem? (i := 143) rfl)) ⟨by decide, by decide⟩ (E'.keep K1) pd__28_5bBIB_29V rfl (fun O => k_getBytesU hw hs (E'.keep K1) (Fc.keep K1 nsa) (Fv.keep K1 nsa) (A.keep K1 nca) Dx (by rw [hrl]; omega) (by rw [hrl]; decide) O) (by simp) rfl (dle rfl) (dle rfl) (dle rfl) (dle rfl) d23_15 rfl (fun v2 hp2 gs2 K2 Q2 => ?_)
  obtain ⟨rfl, rfl, Bx2⟩ := Q2
  show Go _ K Z _ n0 _ _ 18 #[.val (.ref a), .val (.int (natI 0)), .val (.ref s)] [] hp2 _ _ _
  exact retV C (gs := [d]) d23_18 (dle rfl) (dle rfl) (by simp) ⟨rfl, d, rfl, Ex.keep K2, Vx.keep K2 nad, Nx.keep K2 nad, Cd.keep K2 nad, Mx.keep K2 nad, _, Bx2, fun v hv => hfr v (by have q := List.mem_of_mem_drop hv; exact q), by rw [List.length_drop, hrl]; omega⟩
set_option maxRecDepth 65536 in
set_option maxHeartbeats 4000000 in
theorem k_asbappU {Z : State} {a0 : Array Value} (hw : ∀ d ∈ tables_1, d.before a0 Z = true) (hs : Stt Z) {n0 : Nat} {h0 : Heap} {a b s : Addr} {ds : List Int32} (S : Sb Z h0 a b [] 16) (Mb : (Fld Z h0 a "java/lang/AbstractStringBuilder" "maybeLatin1" "Z" (.int 0))) (F : Str Z h0 s ds) (hbig : ∃ c ∈ ds, 256 ≤ c.toInt) (hsm : ds.length < 5) (O : Old Z n0 h0) :
    Con WD Z EL0 n0 (⟨"java/lang/AbstractStringBuilder", "append", "(Ljava/lang/String;)Ljava/lang/AbstractStringBuilder;"⟩ : MethodName) jdk_68_method_22_code 3 (some (.object "java/lang/AbstractStringBuilder")) (Rm 8 1 32 116) [(.ref a), (.ref s)] h0 [a] (fun v h gs => v = some (.ref a) ∧ ∃ d : Addr, gs = [d] ∧ Su Z h a d ds 16) := by
  refine Con.of (a0 := a0) (by first | (exact plainFor_of_name (by first | (simp [plainName, overriddenIn]; done) | decide +kernel)) | decide +kernel) (hEL hw) hWE O (L0 := #[.val (.ref a), .val (.ref s), .unset]) (fun m => by first | rfl | (simp [entryFrame, mkF, argsToLocals, Value.category]; done)) ?_
  intro K C hh
  have hvm := slot_ne (Or.inl (hw _ (List.mem_of_getElem? (i := 83) rfl)) : Laid Z a0 "java/lang/StringBuilder" "java/lang/AbstractStringBuilder" "value" "[B") (Or.inl (hw _ (List.mem_of_getElem? (i := 314) rfl)) : Laid Z a0 "java/lang/StringBuilder" "java/lang/AbstractStringBuilder" "maybeLatin1" "Z") (by decide) (t := .array .byte) (t' := .boolean) (by decide) (by decide)
  have hcm := slot_ne (Or.inl (hw _ (List.mem_of_getElem? (i := 85) rfl)) : Laid Z a0 "java/lang/StringBuilder" "java/lang/AbstractStringBuilder" "coder" "B") (Or.inl (hw _ (List.mem_of_getElem? (i := 314) rfl)) : Laid Z a0 "java/lang/StringBuilder" "java/lang/AbstractStringBuilder" "maybeLatin1" "Z") (by decide) (t := .byte) (t' := .boolean) (by decide) (by decide)
  have hnm := slot_ne (Or.inl (hw _ (List.mem_of_getElem? (i := 122) rfl)) : Laid Z a0 "java/lang/StringBuilder" "java/lang/AbstractStringBuilder" "count" "I") (Or.inl (hw _ (List.mem_of_getElem? (i := 314) rfl)) : Laid Z a0 "java/lang/StringBuilder" "java/lang/AbstractStringBuilder" "maybeLatin1" "Z") (by decide) (t := .int) (t' := .boolean) (by decide) (by decide)
  have hvc := slot_ne (Or.inl (hw _ (List.mem_of_getElem? (i := 83) rfl)) : Laid Z a0 "java/lang/StringBuilder" "java/lang/AbstractStringBuilder" "value" "[B") (Or.inl (hw _ (List.mem_of_getElem? (i := 85) rfl)) : Laid Z a0 "java/lang/StringBuilder" "java/lang/AbstractStringBuilder" "coder" "B") (by decide) (t := .array .byte) (t' := .byte) (by decide) (by decide)
  have hvn := slot_ne (Or.inl (hw _ (List.mem_of_getElem? (i := 83) rfl)) : Laid Z a0 "java/lang/StringBuilder" "java/lang/AbstractStringBuilder" "value" "[B") (Or.inl (hw _ (List.mem_of_getElem? (i := 122) rfl)) : Laid Z a0 "java/lang/StringBuilder" "java/lang/AbstractStringBuilder" "count" "I") (by decide) (t := .array .byte) (t' := .int) (by decide) (by decide)
  have hcn := slot_ne (Or.inl (hw _ (List.mem_of_getElem? (i := 85) rfl)) : Laid Z a0 "java/lang/StringBuilder" "java/lang/AbstractStringBuilder" "coder" "B") (Or.inl (hw _ (List.mem_of_getElem? (i := 122) rfl)) : Laid Z a0 "java/lang/StringBuilder" "java/lang/AbstractStringBuilder" "count" "I") (by decide) (t := .byte) (t' := .int) (by decide) (by decide)
  refine Own.aloadN C d21_0 rfl rfl ?_
  refine ifnonnullY C d21_1 ?_
  refine Own.aloadN C d21_9 rfl rfl ?_
  refine callV_ C (as' := []) (st := []) (hw _ (List.mem_of_getElem? (i := 120) rfl)) (hw _ (List.mem_of_getElem? (i := 48) rfl)) (fun _ hZ => notFace_of_selects (args := #[]) (mvT hZ (hw _ (List.mem_of_getElem? (i := 50) rfl)))) (hw _ (List.mem_of_getElem? (i := 50) rfl)) (hw _ (List.mem_of_getElem? (i := 49) rfl)) (hw _ (List.mem_of_getElem? (i := 7) rfl)) (hw _ (List.mem_of_getElem? (i := 51) rfl)) ⟨by decide, by decide⟩ F.1 pd__28_29I rfl (fun O => k_length hw hs F O) (fun _ q => nomatch q) rfl (dle rfl) (dle rfl) (dle rfl) (dle rfl) d21_10 rfl (fun v1 hp1 gs1 K1 Q1 => ?_)
  obtain ⟨rfl, rfl⟩ := Q1
  show Go _ K Z _ n0 _ _ 13 #[.val (.ref a), .val (.ref s), .unset] [(.int (natI ds.length))] hp1 _ _ _
  have Sx1 := S.keep K1 nin0 nin0
  have Fx1 := F.keep K1
  have Mx1 := Mb.keep K1 nin0
  refine Own.istoreN (L' := #[.val (.ref a), .val (.ref s), .val (.int (natI ds.length))]) C d21_13 rfl ?_
  refine Own.aloadN C d21_14 rfl rfl ?_
  refine Own.aloadN C d21_15 rfl rfl ?_
  refine getF_ C (hw _ (List.mem_of_getElem? (i := 121) rfl)) Sx1.2.2.1 d21_16 ?_
  show Go _ K Z _ n0 _ _ 19 #[.val (.ref a), .val (.ref s), .val (.int (natI ds.length))] [(.int (natI 0)), (.ref a)] hp1 _ _ _
  refine Own.iloadN C d21_19 rfl ?_
  refine Own.iadd C d21_20 ?_
  rw [show natI 0 + natI ds.length = natI ds.length from zadd _]
  show Go _ K Z _ n0 _ _ 21 #[.val (.ref a), .val (.ref s), .val (.int (natI ds.length))] [(.int (natI ds.length)), (.ref a)] hp1 _ _ _
  obtain ⟨rest, Bq, hlq⟩ := Sx1.2.2.2.2.1
  refine callP_ C (as' := [(.int (natI ds.length))]) (st := []) (hw _ (List.mem_of_getElem? (i := 123) rfl)) (hw _ (List.mem_of_getElem? (i := 124) rfl)) (hw _ (List.mem_of_getElem? (i := 126) rfl)) (hw _ (List.mem_of_getElem? (i := 125) rfl)) (hw _ (List.mem_of_getElem? (i := 78) rfl)) (hw _ (List.mem_of_getElem? (i := 127) rfl)) ⟨by decide, by decide⟩ Sx1.1 pd__28I_29V rfl (fun O => k_ens hw hs (z := 0) (y := natI 16) (cap := 16) Sx1.2.1 Bq.1 (by rw [List.length_append, lat_len, hlq]; exact natI_toInt (by decide)) Sx1.2.2.2.1 (shr0 _) ⟨by omega, by decide⟩ O) (fun _ q => nomatch q) rfl (dle rfl) (dle rfl) (dle rfl) (dle rfl) d21_21 rfl (fun v2 hp2 gs2 K2 Q2 => ?_)
  obtain ⟨rfl, rfl⟩ := Q2
  show Go _ K Z _ n0 _ _ 24 #[.val (.ref a), .val (.ref s), .val (.int (natI ds.length))] [] hp2 _ _ _
  have Sx2 := Sx1.keep K2 nin0 nin0
  refine Own.aloadN C d21_24 rfl rfl ?_
  refine Own.aloadN C d21_25 rfl rfl ?_
  refine getF_ C (hw _ (List.mem_of_getElem? (i := 121) rfl)) Sx2.2.2.1 d21_26 ?_
  refine Own.aloadN C d21_29 rfl rfl ?_
  refine callP_ C (as' := [(.int (natI 0)), (.ref s)]) (st := []) (hw _ (List.mem_of_getElem? (i := 128) rfl)) (hw _ (List.mem_of_getElem? (i := 129) rfl)) (hw _ (List.mem_of_getElem? (i := 131) rfl)) (hw _ (List.mem_of_getElem? (i := 130) rfl)) (hw _ (List.mem_of_getElem? (i := 78) rfl)) (hw _ (List.mem_of_getElem? (i := 132) rfl)) ⟨by decide, by decide⟩ Sx2.1 pd__28ILjava_2flang_2fString_3b_29V rfl (fun O => k_putStringU hw hs Sx2 (Mx1.keep K2 nin0) (Fx1.keep K2) hbig hsm O) (by simp) rfl (dle rfl) (dle rfl) (dle rfl) (dle rfl) d21_30 rfl (fun v3 hp3 gs3 K3 Q3 => ?_)
  obtain ⟨rfl, d, rfl, Ex3, Vx3, Nx3, Cx3, Mx3, r3, Ax3, hf3, hl3⟩ := Q3
  show Go _ K Z _ n0 _ _ 33 #[.val (.ref a), .val (.ref s), .val (.int (natI ds.length))] [] hp3 _ _ _
  refine Own.aloadN C d21_33 rfl rfl ?_
  refine Own.dup C d21_34 rfl ?_
  refine getF_ C (hw _ (List.mem_of_getElem? (i := 121) rfl)) Nx3 d21_35 ?_
  refine Own.iloadN C d21_38 rfl ?_
  refine Own.iadd C d21_39 ?_
  rw [show natI 0 + natI ds.length = natI ds.length from zadd _]
  show Go _ K Z _ n0 _ _ 40 #[.val (.ref a), .val (.ref s), .val (.int (natI ds.length))] [(.int (natI ds.length)), (.ref a)] hp3 _ _ _
  refine putF_ C (v' := .int (natI ds.length)) (ty := .int) (hw _ (List.mem_of_getElem? (i := 121) rfl)) Nx3 Ex3 (Or.inl (hw _ (List.mem_of_getElem? (i := 122) rfl))) (hw _ (List.mem_of_getElem? (i := 69) rfl)) (by decide) rfl rfl (by simp) d21_40 (fun hp4 W5 => ?_)
  refine Own.aloadN C d21_43 rfl rfl ?_
  exact retA C (gs := [d]) rfl rfl d21_44 (dle rfl) (dle rfl) (by simp) ⟨rfl, d, rfl, Ex3.wr W5, Vx3.other W5 (Or.inr hvn), Nx3.same W5, Cx3.other W5 (Or.inr hcn), Mx3.other W5 (Or.inr hnm.symm), ⟨r3, Ax3.other W5 (Ax3.neX Ex3 (hw _ (List.mem_of_getElem? (i := 69) rfl))), hf3, hl3⟩, F.2.1, by decide⟩
set_option maxRecDepth 65536 in
set_option maxHeartbeats 4000000 in
theorem k_appendU {Z : State} {a0 : Array Value} (hw : ∀ d ∈ tables_1, d.before a0 Z = true) (hs : Stt Z) {n0 : Nat} {h0 : Heap} {a b s : Addr} {ds : List Int32} (S : Sb Z h0 a b [] 16) (Mb : (Fld Z h0 a "java/lang/AbstractStringBuilder" "maybeLatin1" "Z" (.int 0))) (F : Str Z h0 s ds) (hbig : ∃ c ∈ ds, 256 ≤ c.toInt) (hsm : ds.length < 5) (O : Old Z n0 h0) :
    Con WD Z EL0 n0 (⟨"java/lang/StringBuilder", "append", "(Ljava/lang/String;)Ljava/lang/StringBuilder;"⟩ : MethodName) jdk_67_method_7_code 2 (some (.object "java/lang/StringBuilder")) (Rm 9 1 32 130) [(.ref a), (.ref s)] h0 [a] (fun v h gs => v = some (.ref a) ∧ ∃ d : Addr, gs = [d] ∧ Su Z h a d ds 16) := by
  refine Con.of (a0 := a0) (by first | (exact plainFor_of_name (by first | (simp [plainName, overriddenIn]; done) | decide +kernel)) | decide +kernel) (hEL hw) hWE O (L0 := #[.val (.ref a), .val (.ref s)]) (fun m => by first | rfl | (simp [entryFrame, mkF, argsToLocals, Value.category]; done)) ?_
  intro K C hh
  refine Own.aloadN C d20_0 rfl rfl ?_
  refine Own.aloadN C d20_1 rfl rfl ?_
  refine callU_ C (as' := [(.ref s)]) (st := []) (hw _ (List.mem_of_getElem? (i := 115) rfl)) (same_of (x := ⟨"java/lang/AbstractStringBuilder", "ensureCapacityInternal", "(I)V"⟩) rfl (hw _ (List.mem_of_getElem? (i := 118) rfl)) (hw _ (List.mem_of_getElem? (i := 126) rfl)) ⟨by decide, by decide⟩) (hw _ (List.mem_of_getElem? (i := 116) rfl)) (hw _ (List.mem_of_getElem? (i := 117) rfl)) (by decide) (hw _ (List.mem_of_getElem? (i := 78) rfl)) (hw _ (List.mem_of_getElem? (i := 119) rfl)) S.1 pd__28Ljava_2flang_2fString_3b_29Ljava_2flang_2fAbstractStringBuilder_3b rfl (fun O => k_asbappU hw hs S Mb F hbig hsm O) (by simp) rfl (dle rfl) (dle rfl) (dle rfl) (dle rfl) d20_2 rfl (fun v1 hp1 gs1 K1 Q1 => ?_)
  obtain ⟨rfl, d, rfl, Sx2⟩ := Q1
  show Go _ K Z _ n0 _ _ 5 #[.val (.ref a), .val (.ref s)] [(.ref a)] hp1 _ _ _
  refine Own.pop C d20_5 rfl ?_
  refine Own.aloadN C d20_6 rfl rfl ?_
  exact retA C (gs := [d]) rfl rfl d20_7 (dle rfl) (dle rfl) (by simp) ⟨rfl, d, rfl, Sx2⟩
set_option maxRecDepth 65536 in
set_option maxHeartbeats 4000000 in
theorem k_canEncode48 {Z : State} {a0 : Array Value} (hw : ∀ d ∈ tables_1, d.before a0 Z = true) (hs : Stt Z) {n0 : Nat} {h0 : Heap}  (O : Old Z n0 h0) :
    Con WD Z EL0 n0 (⟨"java/lang/StringLatin1", "canEncode", "(C)Z"⟩ : MethodName) jdk_43_method_3_code 1 (some .boolean) (Rm 0 0 0 0) [(.int (48 : Int32))] h0 [] (fun v h gs => v = some (.int 1) ∧ gs = []) := by
  refine Con.of (a0 := a0) (by first | (exact plainFor_of_name (by first | (simp [plainName, overriddenIn]; done) | decide +kernel)) | decide +kernel) (hEL hw) hWE O (L0 := #[.val (.int (48 : Int32))]) (fun m => by first | rfl | (simp [entryFrame, mkF, argsToLocals, Value.category]; done)) ?_
  intro K C hh
  refine Own.iloadN C d29_0 rfl ?_
  refine Own.sipush (v := 255) C d29_1 rfl ?_
  refine icmp_gt C d29_4 (fun q1 => ?_) (fun q1 => ?_)
  · exact absurd q1 (by decide)
  · refine Own.iconst (v := 1) C d29_7 rfl ?_
    refine Own.goto_ C d29_8 ?_
    exact retZ C (gs := []) d29_12 (dle rfl) (dle rfl) (fun _ q => nomatch q) ⟨rfl, rfl⟩
set_option maxRecDepth 65536 in
set_option maxHeartbeats 4000000 in
theorem k_putCharSB {Z : State} {a0 : Array Value} (hw : ∀ d ∈ tables_1, d.before a0 Z = true) (hs : Stt Z) {n0 : Nat} {h0 : Heap} {b : Addr} {vs : List Value} {j c : Int32} {i m : Nat} (hm : m ≤ 4096) (A : Ary Z h0 b .byte vs) (hv : vs.length = 2 * m) (hj : j.toInt = i) (hi : i < m) (O : Old Z n0 h0) :
    Con WD Z EL0 n0 (⟨"java/lang/StringUTF16", "putCharSB", "([BII)V"⟩ : MethodName) jdk_52_method_71_code 3 none (Rm 3 0 0 40) [(.ref b), (.int j), (.int c)] h0 [b] (fun v h gs => v = none ∧ gs = [] ∧ Ary Z h b .byte ((vs.set (2 * i) (.int (nar .byte c))).set (2 * i + 1) (.int (nar .byte (c >>> 8))))) := by
  refine Con.of (a0 := a0) (by first | (exact plainFor_of_name (by first | (simp [plainName, overriddenIn]; done) | decide +kernel)) | decide +kernel) (hEL hw) hWE O (L0 := #[.val (.ref b), .val (.int j), .val (.int c)]) (fun m => by first | rfl | (simp [entryFrame, mkF, argsToLocals, Value.category]; done)) ?_
  intro K C hh
  refine Own.iloadN C d62_0 rfl ?_
  refine Own.aloadN C d62_1 rfl rfl ?_
  refine callS_ C (as := [(.int j), (.ref b)]) (st := []) (hw _ (List.mem_of_getElem? (i := 304) rfl)) (hw _ (List.mem_of_getElem? (i := 305) rfl)) (hw _ (List.mem_of_getElem? (i := 22) rfl)) (hw _ (List.mem_of_getElem? (i := 306) rfl)) ⟨by decide, by decide⟩ pd__28I_5bB_29V rfl (fun O => k_uci hw hs hm A hv hj hi O) (fun _ q => nomatch q) rfl (dle rfl) (dle rfl) (dle rfl) (dle rfl) d62_2 rfl (fun v1 hp1 gs1 K1 Q1 => ?_)
  obtain ⟨rfl, rfl⟩ := Q1
  show Go _ K Z _ n0 _ _ 5 #[.val (.ref b), .val (.int j), .val (.int c)] [] hp1 _ _ _
  refine Own.aloadN C d62_5 rfl rfl ?_
  refine Own.iloadN C d62_6 rfl ?_
  refine Own.iloadN C d62_7 rfl ?_
  refine callS_ C (as := [(.ref b), (.int j), (.int c)]) (st := []) (hw _ (List.mem_of_getElem? (i := 253) rfl)) (hw _ (List.mem_of_getElem? (i := 254) rfl)) (hw _ (List.mem_of_getElem? (i := 22) rfl)) (hw _ (List.mem_of_getElem? (i := 255) rfl)) ⟨by decide, by decide⟩ pd__28_5bBII_29V rfl (fun O => k_putChar hw hs (by omega) (by omega) (A.keep K1 nin0) hj O) (by simp) rfl (dle rfl) (dle rfl) (dle rfl) (dle rfl) d62_8 rfl (fun v2 hp2 gs2 K2 Q2 => ?_)
  obtain ⟨rfl, rfl, Bx⟩ := Q2
  show Go _ K Z _ n0 _ _ 11 #[.val (.ref b), .val (.int j), .val (.int c)] [] hp2 _ _ _
  exact retV C (gs := []) d62_11 (dle rfl) (dle rfl) (fun _ q => nomatch q) ⟨rfl, rfl, Bx⟩
set_option maxRecDepth 65536 in
set_option maxHeartbeats 4000000 in
theorem k_asbappC {Z : State} {a0 : Array Value} (hw : ∀ d ∈ tables_1, d.before a0 Z = true) (hs : Stt Z) {n0 : Nat} {h0 : Heap} {a b : Addr} {cs : List Int32} {cap : Nat} (S : Sb Z h0 a b cs cap) (hcap1 : cs.length + 1 ≤ cap) (O : Old Z n0 h0) :
    Con WD Z EL0 n0 (⟨"java/lang/AbstractStringBuilder", "append", "(C)Ljava/lang/AbstractStringBuilder;"⟩ : MethodName) jdk_68_method_31_code 2 (some (.object "java/lang/AbstractStringBuilder")) (Rm 1 0 0 14) [(.ref a), (.int (48 : Int32))] h0 [a, b] (fun v h gs => v = some (.ref a) ∧ gs = [] ∧ Sb Z h a b (cs ++ [48]) cap) := by
  refine Con.of (a0 := a0) (by first | (exact plainFor_of_name (by first | (simp [plainName, overriddenIn]; done) | decide +kernel)) | decide +kernel) (hEL hw) hWE O (L0 := #[.val (.ref a), .val (.int (48 : Int32))]) (fun m => by first | rfl | (simp [entryFrame, mkF, argsToLocals, Value.category]; done)) ?_
  intro K C hh
  have hle := S.le
  obtain ⟨E, V, Nc, Cd, ⟨rest, B, hl⟩, hcs, hcap⟩ := S
  have eC := natI_toInt (i := cs.length) (by omega)
  have hlc := lat_len cs
  have hvm := slot_ne (Or.inl (hw _ (List.mem_of_getElem? (i := 83) rfl)) : Laid Z a0 "java/lang/StringBuilder" "java/lang/AbstractStringBuilder" "value" "[B") (Or.inl (hw _ (List.mem_of_getElem? (i := 314) rfl)) : Laid Z a0 "java/lang/StringBuilder" "java/lang/AbstractStringBuilder" "maybeLatin1" "Z") (by decide) (t := .array .byte) (t' := .boolean) (by decide) (by decide)
  have hcm := slot_ne (Or.inl (hw _ (List.mem_of_getElem? (i := 85) rfl)) : Laid Z a0 "java/lang/StringBuilder" "java/lang/AbstractStringBuilder" "coder" "B") (Or.inl (hw _ (List.mem_of_getElem? (i := 314) rfl)) : Laid Z a0 "java/lang/StringBuilder" "java/lang/AbstractStringBuilder" "maybeLatin1" "Z") (by decide) (t := .byte) (t' := .boolean) (by decide) (by decide)
  have hnm := slot_ne (Or.inl (hw _ (List.mem_of_getElem? (i := 122) rfl)) : Laid Z a0 "java/lang/StringBuilder" "java/lang/AbstractStringBuilder" "count" "I") (Or.inl (hw _ (List.mem_of_getElem? (i := 314) rfl)) : Laid Z a0 "java/lang/StringBuilder" "java/lang/AbstractStringBuilder" "maybeLatin1" "Z") (by decide) (t := .int) (t' := .boolean) (by decide) (by decide)
  have hvc := slot_ne (Or.inl (hw _ (List.mem_of_getElem? (i := 83) rfl)) : Laid Z a0 "java/lang/StringBuilder" "java/lang/AbstractStringBuilder" "value" "[B") (Or.inl (hw _ (List.mem_of_getElem? (i := 85) rfl)) : Laid Z a0 "java/lang/StringBuilder" "java/lang/AbstractStringBuilder" "coder" "B") (by decide) (t := .array .byte) (t' := .byte) (by decide) (by decide)
  have hvn := slot_ne (Or.inl (hw _ (List.mem_of_getElem? (i := 83) rfl)) : Laid Z a0 "java/lang/StringBuilder" "java/lang/AbstractStringBuilder" "value" "[B") (Or.inl (hw _ (List.mem_of_getElem? (i := 122) rfl)) : Laid Z a0 "java/lang/StringBuilder" "java/lang/AbstractStringBuilder" "count" "I") (by decide) (t := .array .byte) (t' := .int) (by decide) (by decide)
  have hcn := slot_ne (Or.inl (hw _ (List.mem_of_getElem? (i := 85) rfl)) : Laid Z a0 "java/lang/StringBuilder" "java/lang/AbstractStringBuilder" "coder" "B") (Or.inl (hw _ (List.mem_of_getElem? (i := 122) rfl)) : Laid Z a0 "java/lang/StringBuilder" "java/lang/AbstractStringBuilder" "count" "I") (by decide) (t := .byte) (t' := .int) (by decide) (by decide)
  refine Own.aloadN C d27_0 rfl rfl ?_
  refine Own.aloadN C d27_1 rfl rfl ?_
  refine getF_ C (hw _ (List.mem_of_getElem? (i := 121) rfl)) Nc d27_2 ?_
  refine Own.iconst (v := 1) C d27_5 rfl ?_
  refine Own.iadd C d27_6 ?_
  rw [natI_succ (i := cs.length) (by omega)]
  show Go _ K Z _ n0 _ _ 7 #[.val (.ref a), .val (.int (48 : Int32))] [(.int (natI (cs.length + 1))), (.ref a)] h0 _ _ _
  refine callP_ C (as' := [(.int (natI (cs.length + 1)))]) (st := []) (hw _ (List.mem_of_getElem? (i := 123) rfl)) (hw _ (List.mem_of_getElem? (i := 124) rfl)) (hw _ (List.mem_of_getElem? (i := 126) rfl)) (hw _ (List.mem_of_getElem? (i := 125) rfl)) (hw _ (List.mem_of_getElem? (i := 78) rfl)) (hw _ (List.mem_of_getElem? (i := 127) rfl)) ⟨by decide, by decide⟩ E pd__28I_29V rfl (fun O => k_ens hw hs (z := 0) (y := natI (cap)) (cap := cap) V B.1 (by rw [natI_toInt (by omega), List.length_append, hlc]; omega) Cd (shr0 _) ⟨by omega, by omega⟩ O) (fun _ q => nomatch q) rfl (dle rfl) (dle rfl) (dle rfl) (dle rfl) d27_7 rfl (fun v1 hp1 gs1 K1 Q1 => ?_)
  obtain ⟨rfl, rfl⟩ := Q1
  show Go _ K Z _ n0 _ _ 10 #[.val (.ref a), .val (.int (48 : Int32))] [] hp1 _ _ _
  refine Own.aloadN C d27_10 rfl rfl ?_
  refine callV_ C (as' := []) (st := []) (hw _ (List.mem_of_getElem? (i := 157) rfl)) (hw _ (List.mem_of_getElem? (i := 158) rfl)) (fun _ hZ => notFace_of_selects (args := #[]) (mvT hZ (hw _ (List.mem_of_getElem? (i := 160) rfl)))) (hw _ (List.mem_of_getElem? (i := 160) rfl)) (hw _ (List.mem_of_getElem? (i := 159) rfl)) (hw _ (List.mem_of_getElem? (i := 78) rfl)) (hw _ (List.mem_of_getElem? (i := 161) rfl)) ⟨by decide, by decide⟩ (E.keep K1) pd__28_29Z rfl (fun O => k_asblatz hw hs (Cd.keep K1 nin0) O) (fun _ q => nomatch q) rfl (dle rfl) (dle rfl) (dle rfl) (dle rfl) d27_11 rfl (fun v2 hp2 gs2 K2 Q2 => ?_)
  obtain ⟨rfl, rfl⟩ := Q2
  show Go _ K Z _ n0 _ _ 14 #[.val (.ref a), .val (.int (48 : Int32))] [(.int (1 : Int32))] hp2 _ _ _
  have KK := K1.trans K2 (fun _ q => nomatch q)
  refine if_eq C d27_14 (fun q3 => ?_) (fun q3 => ?_)
  · exact absurd q3 (by decide)
  · refine Own.iloadN C d27_17 rfl ?_
    refine callS_ C (as := [(.int (48 : Int32))]) (st := []) (hw _ (List.mem_of_getElem? (i := 162) rfl)) (hw _ (List.mem_of_getElem? (i := 163) rfl)) (hw _ (List.mem_of_getElem? (i := 107) rfl)) (hw _ (List.mem_of_getElem? (i := 164) rfl)) ⟨by decide, by decide⟩ pd__28C_29Z rfl (fun O => k_canEncode48 hw hs O) (fun _ q => nomatch q) rfl (dle rfl) (dle rfl) (dle rfl) (dle rfl) d27_18 rfl (fun v4 hp4 gs4 K4 Q4 => ?_)
    obtain ⟨rfl, rfl⟩ := Q4
    show Go _ K Z _ n0 _ _ 21 #[.val (.ref a), .val (.int (48 : Int32))] [(.int (1 : Int32))] hp4 _ _ _
    have KT := KK.trans K4 (fun _ q => nomatch q)
    refine if_eq C d27_21 (fun q5 => ?_) (fun q5 => ?_)
    · exact absurd q5 (by decide)
    · have Ex1 := E.keep KT
      have Vx1 := V.keep KT nin0
      have Nx1 := Nc.keep KT nin0
      have Cx1 := Cd.keep KT nin0
      have Bx1 := B.keep KT nin0
      refine Own.aloadN C d27_24 rfl rfl ?_
      refine getF_ C (hw _ (List.mem_of_getElem? (i := 82) rfl)) Vx1 d27_25 ?_
      refine Own.aloadN C d27_28 rfl rfl ?_
      refine Own.dup C d27_29 rfl ?_
      refine getF_ C (hw _ (List.mem_of_getElem? (i := 121) rfl)) Nx1 d27_30 ?_
      refine Own.dupX1 C d27_33 rfl rfl ?_
      refine Own.iconst (v := 1) C d27_34 rfl ?_
      refine Own.iadd C d27_35 ?_
      rw [natI_succ (i := cs.length) (by omega)]
      show Go _ K Z _ n0 _ _ 36 #[.val (.ref a), .val (.int (48 : Int32))] [(.int (natI (cs.length + 1))), (.ref a), (.int (natI cs.length)), (.ref b)] hp4 _ _ _
      refine putF_ C (v' := .int (natI (cs.length + 1))) (ty := .int) (hw _ (List.mem_of_getElem? (i := 121) rfl)) Nx1 Ex1 (Or.inl (hw _ (List.mem_of_getElem? (i := 122) rfl))) (hw _ (List.mem_of_getElem? (i := 69) rfl)) (by decide) rfl rfl (by simp) d27_36 (fun hp6 W7 => ?_)
      have hba : b ≠ a := fun e => ne_exa Bx1.2.1 Ex1 (by decide) e
      have Bx2 := Bx1.keep (Keep.of_wr W7) (ninS hba nin0)
      have Ex2 := Ex1.wr W7
      have Vx2 := Vx1.other W7 (Or.inr hvn)
      have Nx2 := Nx1.same W7
      have Cx2 := Cx1.other W7 (Or.inr hcn)
      have nab : a ∉ [b] := ninS (fun e => hba e.symm) nin0
      refine Own.iloadN C d27_39 rfl ?_
      refine Own.i2b C d27_40 ?_
      obtain ⟨r0, rs, rfl⟩ := one (rest := rest) (by omega)
      simp only [List.length_cons] at hl
      refine bastore_ C Bx2.1 cs.length eC (by rw [List.length_append, hlc]; simp) (by simp) d27_41 (fun hp8 W8 A8 => ?_)
      rw [set_app1 hlc.symm] at A8
      have Kw := Keep.of_wr W8
      have Ab : Ary Z hp8 b .byte (lat (cs ++ [48]) ++ rs) := by have q := A8; rw [lat_app]; simpa [lat, narb_idem, List.append_assoc] using q
      refine Own.goto_ C d27_42 ?_
      refine Own.aloadN C d27_75 rfl rfl ?_
      exact retA C (gs := []) rfl rfl d27_76 (dle rfl) (dle rfl) (fun _ q => nomatch q) ⟨rfl, rfl, Ex2.keep Kw, Vx2.keep Kw nab, by rw [List.length_append]; exact Nx2.keep Kw nab, Cx2.keep Kw nab, ⟨rs, ⟨Ab, Bx2.2.1.keep Kw, fun v hv => by rcases List.mem_append.mp hv with z | z; exact fits_lat v z; exact Bx2.2.2 v (List.mem_append_right _ (by simp [z]))⟩, by rw [List.length_append]; simp only [List.length_cons, List.length_nil]; omega⟩, fun c hc => by rcases List.mem_append.mp hc with z | z; exact hcs c z; (simp only [List.mem_singleton] at z; subst z; exact ⟨by decide, by decide⟩), hcap⟩
set_option maxRecDepth 65536 in
set_option maxHeartbeats 4000000 in
theorem k_appendC {Z : State} {a0 : Array Value} (hw : ∀ d ∈ tables_1, d.before a0 Z = true) (hs : Stt Z) {n0 : Nat} {h0 : Heap} {a b : Addr} {cs : List Int32} {cap : Nat} (S : Sb Z h0 a b cs cap) (hcap1 : cs.length + 1 ≤ cap) (O : Old Z n0 h0) :
    Con WD Z EL0 n0 (⟨"java/lang/StringBuilder", "append", "(C)Ljava/lang/StringBuilder;"⟩ : MethodName) jdk_67_method_14_code 2 (some (.object "java/lang/StringBuilder")) (Rm 2 0 0 27) [(.ref a), (.int (48 : Int32))] h0 [a, b] (fun v h gs => v = some (.ref a) ∧ gs = [] ∧ Sb Z h a b (cs ++ [48]) cap) := by
  refine Con.of (a0 := a0) (by first | (exact plainFor_of_name (by first | (simp [plainName, overriddenIn]; done) | decide +kernel)) | decide +kernel) (hEL hw) hWE O (L0 := #[.val (.ref a), .val (.int (48 : Int32))]) (fun m => by first | rfl | (simp [entryFrame, mkF, argsToLocals, Value.category]; done)) ?_
  intro K C hh
  refine Own.aloadN C d26_0 rfl rfl ?_
  refine Own.iloadN C d26_1 rfl ?_
  refine callU_ C (as' := [(.int (48 : Int32))]) (st := []) (hw _ (List.mem_of_getElem? (i := 153) rfl)) (same_of (x := ⟨"java/lang/AbstractStringBuilder", "ensureCapacityInternal", "(I)V"⟩) rfl (hw _ (List.mem_of_getElem? (i := 155) rfl)) (hw _ (List.mem_of_getElem? (i := 126) rfl)) ⟨by decide, by decide⟩) (hw _ (List.mem_of_getElem? (i := 154) rfl)) (hw _ (List.mem_of_getElem? (i := 117) rfl)) (by decide) (hw _ (List.mem_of_getElem? (i := 78) rfl)) (hw _ (List.mem_of_getElem? (i := 156) rfl)) S.1 pd__28C_29Ljava_2flang_2fAbstractStringBuilder_3b rfl (fun O => k_asbappC hw hs S hcap1 O) (by simp) rfl (dle rfl) (dle rfl) (dle rfl) (dle rfl) d26_2 rfl (fun v1 hp1 gs1 K1 Q1 => ?_)
  obtain ⟨rfl, rfl, Sx2⟩ := Q1
  show Go _ K Z _ n0 _ _ 5 #[.val (.ref a), .val (.int (48 : Int32))] [(.ref a)] hp1 _ _ _
  refine Own.pop C d26_5 rfl ?_
  refine Own.aloadN C d26_6 rfl rfl ?_
  exact retA C (gs := []) rfl rfl d26_7 (dle rfl) (dle rfl) (fun _ q => nomatch q) ⟨rfl, rfl, Sx2⟩
set_option maxRecDepth 65536 in
set_option maxHeartbeats 4000000 in
theorem k_asbappCU {Z : State} {a0 : Array Value} (hw : ∀ d ∈ tables_1, d.before a0 Z = true) (hs : Stt Z) {n0 : Nat} {h0 : Heap} {a b : Addr} {cs : List Int32} {cap : Nat} (S : Su Z h0 a b cs cap) (hcap1 : cs.length + 1 ≤ cap) (O : Old Z n0 h0) :
    Con WD Z EL0 n0 (⟨"java/lang/AbstractStringBuilder", "append", "(C)Ljava/lang/AbstractStringBuilder;"⟩ : MethodName) jdk_68_method_31_code 2 (some (.object "java/lang/AbstractStringBuilder")) (Rm 4 0 0 54) [(.ref a), (.int (48 : Int32))] h0 [a, b] (fun v h gs => v = some (.ref a) ∧ gs = [] ∧ Su Z h a b (cs ++ [48]) cap) := by
  refine Con.of (a0 := a0) (by first | (exact plainFor_of_name (by first | (simp [plainName, overriddenIn]; done) | decide +kernel)) | decide +kernel) (hEL hw) hWE O (L0 := #[.val (.ref a), .val (.int (48 : Int32))]) (fun m => by first | rfl | (simp [entryFrame, mkF, argsToLocals, Value.category]; done)) ?_
  intro K C hh
  have hle := S.le
  obtain ⟨E, V, Nc, Cd, Mx, ⟨rest, B, hfr, hl⟩, hcs, hcap⟩ := S
  have eC := natI_toInt (i := cs.length) (by omega)
  have hlc := utf_len cs
  have hvm := slot_ne (Or.inl (hw _ (List.mem_of_getElem? (i := 83) rfl)) : Laid Z a0 "java/lang/StringBuilder" "java/lang/AbstractStringBuilder" "value" "[B") (Or.inl (hw _ (List.mem_of_getElem? (i := 314) rfl)) : Laid Z a0 "java/lang/StringBuilder" "java/lang/AbstractStringBuilder" "maybeLatin1" "Z") (by decide) (t := .array .byte) (t' := .boolean) (by decide) (by decide)
  have hcm := slot_ne (Or.inl (hw _ (List.mem_of_getElem? (i := 85) rfl)) : Laid Z a0 "java/lang/StringBuilder" "java/lang/AbstractStringBuilder" "coder" "B") (Or.inl (hw _ (List.mem_of_getElem? (i := 314) rfl)) : Laid Z a0 "java/lang/StringBuilder" "java/lang/AbstractStringBuilder" "maybeLatin1" "Z") (by decide) (t := .byte) (t' := .boolean) (by decide) (by decide)
  have hnm := slot_ne (Or.inl (hw _ (List.mem_of_getElem? (i := 122) rfl)) : Laid Z a0 "java/lang/StringBuilder" "java/lang/AbstractStringBuilder" "count" "I") (Or.inl (hw _ (List.mem_of_getElem? (i := 314) rfl)) : Laid Z a0 "java/lang/StringBuilder" "java/lang/AbstractStringBuilder" "maybeLatin1" "Z") (by decide) (t := .int) (t' := .boolean) (by decide) (by decide)
  have hvc := slot_ne (Or.inl (hw _ (List.mem_of_getElem? (i := 83) rfl)) : Laid Z a0 "java/lang/StringBuilder" "java/lang/AbstractStringBuilder" "value" "[B") (Or.inl (hw _ (List.mem_of_getElem? (i := 85) rfl)) : Laid Z a0 "java/lang/StringBuilder" "java/lang/AbstractStringBuilder" "coder" "B") (by decide) (t := .array .byte) (t' := .byte) (by decide) (by decide)
  have hvn := slot_ne (Or.inl (hw _ (List.mem_of_getElem? (i := 83) rfl)) : Laid Z a0 "java/lang/StringBuilder" "java/lang/AbstractStringBuilder" "value" "[B") (Or.inl (hw _ (List.mem_of_getElem? (i := 122) rfl)) : Laid Z a0 "java/lang/StringBuilder" "java/lang/AbstractStringBuilder" "count" "I") (by decide) (t := .array .byte) (t' := .int) (by decide) (by decide)
  have hcn := slot_ne (Or.inl (hw _ (List.mem_of_getElem? (i := 85) rfl)) : Laid Z a0 "java/lang/StringBuilder" "java/lang/AbstractStringBuilder" "coder" "B") (Or.inl (hw _ (List.mem_of_getElem? (i := 122) rfl)) : Laid Z a0 "java/lang/StringBuilder" "java/lang/AbstractStringBuilder" "count" "I") (by decide) (t := .byte) (t' := .int) (by decide) (by decide)
  refine Own.aloadN C d27_0 rfl rfl ?_
  refine Own.aloadN C d27_1 rfl rfl ?_
  refine getF_ C (hw _ (List.mem_of_getElem? (i := 121) rfl)) Nc d27_2 ?_
  refine Own.iconst (v := 1) C d27_5 rfl ?_
  refine Own.iadd C d27_6 ?_
  rw [natI_succ (i := cs.length) (by omega)]
  show Go _ K Z _ n0 _ _ 7 #[.val (.ref a), .val (.int (48 : Int32))] [(.int (natI (cs.length + 1))), (.ref a)] h0 _ _ _
  refine callP_ C (as' := [(.int (natI (cs.length + 1)))]) (st := []) (hw _ (List.mem_of_getElem? (i := 123) rfl)) (hw _ (List.mem_of_getElem? (i := 124) rfl)) (hw _ (List.mem_of_getElem? (i := 126) rfl)) (hw _ (List.mem_of_getElem? (i := 125) rfl)) (hw _ (List.mem_of_getElem? (i := 78) rfl)) (hw _ (List.mem_of_getElem? (i := 127) rfl)) ⟨by decide, by decide⟩ E pd__28I_29V rfl (fun O => k_ens hw hs (z := 1) (y := natI (2 * cap)) (cap := cap) V B (by rw [natI_toInt (by omega), List.length_append, hlc]; omega) Cd (i32e (by rw [shr1 (natI_toInt (by omega)), natI_toInt (by omega)])) ⟨by omega, by omega⟩ O) (fun _ q => nomatch q) rfl (dle rfl) (dle rfl) (dle rfl) (dle rfl) d27_7 rfl (fun v1 hp1 gs1 K1 Q1 => ?_)
  obtain ⟨rfl, rfl⟩ := Q1
  show Go _ K Z _ n0 _ _ 10 #[.val (.ref a), .val (.int (48 : Int32))] [] hp1 _ _ _
  refine Own.aloadN C d27_10 rfl rfl ?_
  refine callV_ C (as' := []) (st := []) (hw _ (List.mem_of_getElem? (i := 157) rfl)) (hw _ (List.mem_of_getElem? (i := 158) rfl)) (fun _ hZ => notFace_of_selects (args := #[]) (mvT hZ (hw _ (List.mem_of_getElem? (i := 160) rfl)))) (hw _ (List.mem_of_getElem? (i := 160) rfl)) (hw _ (List.mem_of_getElem? (i := 159) rfl)) (hw _ (List.mem_of_getElem? (i := 78) rfl)) (hw _ (List.mem_of_getElem? (i := 161) rfl)) ⟨by decide, by decide⟩ (E.keep K1) pd__28_29Z rfl (fun O => k_asblatz hw hs (Cd.keep K1 nin0) O) (fun _ q => nomatch q) rfl (dle rfl) (dle rfl) (dle rfl) (dle rfl) d27_11 rfl (fun v2 hp2 gs2 K2 Q2 => ?_)
  obtain ⟨rfl, rfl⟩ := Q2
  show Go _ K Z _ n0 _ _ 14 #[.val (.ref a), .val (.int (48 : Int32))] [(.int (0 : Int32))] hp2 _ _ _
  have KK := K1.trans K2 (fun _ q => nomatch q)
  refine if_eq C d27_14 (fun q3 => ?_) (fun q3 => ?_)
  · refine Own.aloadN C d27_45 rfl rfl ?_
    refine callV_ C (as' := []) (st := []) (hw _ (List.mem_of_getElem? (i := 157) rfl)) (hw _ (List.mem_of_getElem? (i := 158) rfl)) (fun _ hZ => notFace_of_selects (args := #[]) (mvT hZ (hw _ (List.mem_of_getElem? (i := 160) rfl)))) (hw _ (List.mem_of_getElem? (i := 160) rfl)) (hw _ (List.mem_of_getElem? (i := 159) rfl)) (hw _ (List.mem_of_getElem? (i := 78) rfl)) (hw _ (List.mem_of_getElem? (i := 161) rfl)) ⟨by decide, by decide⟩ (E.keep KK) pd__28_29Z rfl (fun O => k_asblatz hw hs (Cd.keep KK nin0) O) (fun _ q => nomatch q) rfl (dle rfl) (dle rfl) (dle rfl) (dle rfl) d27_46 rfl (fun v4 hp4 gs4 K4 Q4 => ?_)
    obtain ⟨rfl, rfl⟩ := Q4
    show Go _ K Z _ n0 _ _ 49 #[.val (.ref a), .val (.int (48 : Int32))] [(.int (0 : Int32))] hp4 _ _ _
    have KT := KK.trans K4 (fun _ q => nomatch q)
    refine if_eq C d27_49 (fun q5 => ?_) (fun q5 => ?_)
    · have Ex1 := E.keep KT
      have Vx1 := V.keep KT nin0
      have Nx1 := Nc.keep KT nin0
      have Cx1 := Cd.keep KT nin0
      have Bx1 := B.keep KT nin0
      have Mx1 := Mx.keep KT nin0
      refine Own.aloadN C d27_56 rfl rfl ?_
      refine getF_ C (hw _ (List.mem_of_getElem? (i := 82) rfl)) Vx1 d27_57 ?_
      refine Own.aloadN C d27_60 rfl rfl ?_
      refine Own.dup C d27_61 rfl ?_
      refine getF_ C (hw _ (List.mem_of_getElem? (i := 121) rfl)) Nx1 d27_62 ?_
      refine Own.dupX1 C d27_65 rfl rfl ?_
      refine Own.iconst (v := 1) C d27_66 rfl ?_
      refine Own.iadd C d27_67 ?_
      rw [natI_succ (i := cs.length) (by omega)]
      show Go _ K Z _ n0 _ _ 68 #[.val (.ref a), .val (.int (48 : Int32))] [(.int (natI (cs.length + 1))), (.ref a), (.int (natI cs.length)), (.ref b)] hp4 _ _ _
      refine putF_ C (v' := .int (natI (cs.length + 1))) (ty := .int) (hw _ (List.mem_of_getElem? (i := 121) rfl)) Nx1 Ex1 (Or.inl (hw _ (List.mem_of_getElem? (i := 122) rfl))) (hw _ (List.mem_of_getElem? (i := 69) rfl)) (by decide) rfl rfl (by simp) d27_68 (fun hp6 W7 => ?_)
      have hba : b ≠ a := Bx1.neX Ex1 (hw _ (List.mem_of_getElem? (i := 69) rfl))
      have Bx2 := Bx1.keep (Keep.of_wr W7) (ninS hba nin0)
      have Ex2 := Ex1.wr W7
      have Vx2 := Vx1.other W7 (Or.inr hvn)
      have Nx2 := Nx1.same W7
      have Cx2 := Cx1.other W7 (Or.inr hcn)
      have Mx2 := Mx1.other W7 (Or.inr hnm.symm)
      have nab : a ∉ [b] := ninS (fun e => hba e.symm) nin0
      refine Own.iloadN C d27_71 rfl ?_
      obtain ⟨r0, r1, rs, rfl⟩ := two (rest := rest) (by omega)
      simp only [List.length_cons] at hl
      refine callS_ C (as := [(.ref b), (.int (natI cs.length)), (.int (48 : Int32))]) (st := []) (hw _ (List.mem_of_getElem? (i := 301) rfl)) (hw _ (List.mem_of_getElem? (i := 302) rfl)) (hw _ (List.mem_of_getElem? (i := 22) rfl)) (hw _ (List.mem_of_getElem? (i := 303) rfl)) ⟨by decide, by decide⟩ pd__28_5bBII_29V rfl (fun O => k_putCharSB hw hs (m := cap) (i := cs.length) (by omega) Bx2 (by rw [List.length_append, hlc]; simp only [List.length_cons]; omega) eC (by omega) O) (by simp) rfl (dle rfl) (dle rfl) (dle rfl) (dle rfl) d27_72 rfl (fun v8 hp8 gs8 K8 Q8 => ?_)
      obtain ⟨rfl, rfl, Ab⟩ := Q8
      rw [utf_set1 rfl] at Ab
      show Go _ K Z _ n0 _ _ 75 #[.val (.ref a), .val (.int (48 : Int32))] [] hp8 _ _ _
      refine Own.aloadN C d27_75 rfl rfl ?_
      exact retA C (gs := []) rfl rfl d27_76 (dle rfl) (dle rfl) (fun _ q => nomatch q) ⟨rfl, rfl, Ex2.keep K8, Vx2.keep K8 nab, by rw [List.length_append]; exact Nx2.keep K8 nab, Cx2.keep K8 nab, Mx2.keep K8 nab, ⟨rs, Ab, fun v hv => hfr v (by simp [hv]), by rw [List.length_append]; simp only [List.length_cons, List.length_nil]; omega⟩, fun c hc => by rcases List.mem_append.mp hc with z | z; exact hcs c z; (simp only [List.mem_singleton] at z; subst z; exact ⟨by decide, by decide⟩), hcap⟩
    · exact absurd rfl q5
  · exact absurd rfl q3
set_option maxRecDepth 65536 in
set_option maxHeartbeats 4000000 in
theorem k_appendCU {Z : State} {a0 : Array Value} (hw : ∀ d ∈ tables_1, d.before a0 Z = true) (hs : Stt Z) {n0 : Nat} {h0 : Heap} {a b : Addr} {cs : List Int32} {cap : Nat} (S : Su Z h0 a b cs cap) (hcap1 : cs.length + 1 ≤ cap) (O : Old Z n0 h0) :
    Con WD Z EL0 n0 (⟨"java/lang/StringBuilder", "append", "(C)Ljava/lang/StringBuilder;"⟩ : MethodName) jdk_67_method_14_code 2 (some (.object "java/lang/StringBuilder")) (Rm 5 0 0 67) [(.ref a), (.int (48 : Int32))] h0 [a, b] (fun v h gs => v = some (.ref a) ∧ gs = [] ∧ Su Z h a b (cs ++ [48]) cap) := by
  refine Con.of (a0 := a0) (by first | (exact plainFor_of_name (by first | (simp [plainName, overriddenIn]; done) | decide +kernel)) | decide +kernel) (hEL hw) hWE O (L0 := #[.val (.ref a), .val (.int (48 : Int32))]) (fun m => by first | rfl | (simp [entryFrame, mkF, argsToLocals, Value.category]; done)) ?_
  intro K C hh
  refine Own.aloadN C d26_0 rfl rfl ?_
  refine Own.iloadN C d26_1 rfl ?_
  refine callU_ C (as' := [(.int (48 : Int32))]) (st := []) (hw _ (List.mem_of_getElem? (i := 153) rfl)) (same_of (x := ⟨"java/lang/AbstractStringBuilder", "ensureCapacityInternal", "(I)V"⟩) rfl (hw _ (List.mem_of_getElem? (i := 155) rfl)) (hw _ (List.mem_of_getElem? (i := 126) rfl)) ⟨by decide, by decide⟩) (hw _ (List.mem_of_getElem? (i := 154) rfl)) (hw _ (List.mem_of_getElem? (i := 117) rfl)) (by decide) (hw _ (List.mem_of_getElem? (i := 78) rfl)) (hw _ (List.mem_of_getElem? (i := 156) rfl)) S.1 pd__28C_29Ljava_2flang_2fAbstractStringBuilder_3b rfl (fun O => k_asbappCU hw hs S hcap1 O) (by simp) rfl (dle rfl) (dle rfl) (dle rfl) (dle rfl) d26_2 rfl (fun v1 hp1 gs1 K1 Q1 => ?_)
  obtain ⟨rfl, rfl, Sx2⟩ := Q1
  show Go _ K Z _ n0 _ _ 5 #[.val (.ref a), .val (.int (48 : Int32))] [(.ref a)] hp1 _ _ _
  refine Own.pop C d26_5 rfl ?_
  refine Own.aloadN C d26_6 rfl rfl ?_
  exact retA C (gs := []) rfl rfl d26_7 (dle rfl) (dle rfl) (fun _ q => nomatch q) ⟨rfl, rfl, Sx2⟩
set_option maxRecDepth 65536 in
set_option maxHeartbeats 4000000 in
theorem k_getValueU {Z : State} {a0 : Array Value} (hw : ∀ d ∈ tables_1, d.before a0 Z = true) (hs : Stt Z) {n0 : Nat} {h0 : Heap} {a b : Addr} {cs : List Int32} {cap : Nat} (S : Su Z h0 a b cs cap) (O : Old Z n0 h0) :
    Con WD Z EL0 n0 (⟨"java/lang/AbstractStringBuilder", "getValue", "()[B"⟩ : MethodName) jdk_68_method_64_code 1 (some (.array .byte)) (Rm 0 0 0 0) [(.ref a)] h0 [] (fun v h gs => v = some (.ref b) ∧ gs = []) := by
  refine Con.of (a0 := a0) (by first | (exact plainFor_of_name (by first | (simp [plainName, overriddenIn]; done) | decide +kernel)) | decide +kernel) (hEL hw) hWE O (L0 := #[.val (.ref a)]) (fun m => by first | rfl | (simp [entryFrame, mkF, argsToLocals, Value.category]; done)) ?_
  intro K C hh
  refine Own.aloadN C d33_0 rfl rfl ?_
  refine getF_ C (hw _ (List.mem_of_getElem? (i := 82) rfl)) S.2.1 d33_1 ?_
  exact retA C (gs := []) rfl rfl d33_4 (dle rfl) (dle rfl) (fun _ q => nomatch q) ⟨rfl, rfl⟩
set_option maxRecDepth 65536 in
set_option maxHeartbeats 4000000 in
theorem k_asblenU {Z : State} {a0 : Array Value} (hw : ∀ d ∈ tables_1, d.before a0 Z = true) (hs : Stt Z) {n0 : Nat} {h0 : Heap} {a b : Addr} {cs : List Int32} {cap : Nat} (S : Su Z h0 a b cs cap) (O : Old Z n0 h0) :
    Con WD Z EL0 n0 (⟨"java/lang/AbstractStringBuilder", "length", "()I"⟩ : MethodName) jdk_68_method_6_code 1 (some .int) (Rm 0 0 0 0) [(.ref a)] h0 [] (fun v h gs => v = some (.int (natI cs.length)) ∧ gs = []) := by
  refine Con.of (a0 := a0) (by first | (exact plainFor_of_name (by first | (simp [plainName, overriddenIn]; done) | decide +kernel)) | decide +kernel) (hEL hw) hWE O (L0 := #[.val (.ref a)]) (fun m => by first | rfl | (simp [entryFrame, mkF, argsToLocals, Value.category]; done)) ?_
  intro K C hh
  refine Own.aloadN C d35_0 rfl rfl ?_
  refine getF_ C (hw _ (List.mem_of_getElem? (i := 121) rfl)) S.2.2.1 d35_1 ?_
  exact retI_ C (gs := []) d35_4 (dle rfl) (dle rfl) (fun _ q => nomatch q) ⟨rfl, rfl⟩
set_option maxRecDepth 65536 in
set_option maxHeartbeats 4000000 in
theorem k_sblenU {Z : State} {a0 : Array Value} (hw : ∀ d ∈ tables_1, d.before a0 Z = true) (hs : Stt Z) {n0 : Nat} {h0 : Heap} {a b : Addr} {cs : List Int32} {cap : Nat} (S : Su Z h0 a b cs cap) (O : Old Z n0 h0) :
    Con WD Z EL0 n0 (⟨"java/lang/StringBuilder", "length", "()I"⟩ : MethodName) jdk_67_method_93_code 1 (some .int) (Rm 1 0 0 12) [(.ref a)] h0 [] (fun v h gs => v = some (.int (natI cs.length)) ∧ gs = []) := by
  refine Con.of (a0 := a0) (by first | (exact plainFor_of_name (by first | (simp [plainName, overriddenIn]; done) | decide +kernel)) | decide +kernel) (hEL hw) hWE O (L0 := #[.val (.ref a)]) (fun m => by first | rfl | (simp [entryFrame, mkF, argsToLocals, Value.category]; done)) ?_
  intro K C hh
  refine Own.aloadN C d34_0 rfl rfl ?_
  refine callU_ C (as' := []) (st := []) (hw _ (List.mem_of_getElem? (i := 188) rfl)) (same_of (x := ⟨"java/lang/AbstractStringBuilder", "ensureCapacityInternal", "(I)V"⟩) rfl (hw _ (List.mem_of_getElem? (i := 183) rfl)) (hw _ (List.mem_of_getElem? (i := 126) rfl)) ⟨by decide, by decide⟩) (hw _ (List.mem_of_getElem? (i := 184) rfl)) (hw _ (List.mem_of_getElem? (i := 117) rfl)) (by decide) (hw _ (List.mem_of_getElem? (i := 78) rfl)) (hw _ (List.mem_of_getElem? (i := 189) rfl)) S.1 pd__28_29I rfl (fun O => k_asblenU hw hs S O) (fun _ q => nomatch q) rfl (dle rfl) (dle rfl) (dle rfl) (dle rfl) d34_1 rfl (fun v1 hp1 gs1 K1 Q1 => ?_)
  obtain ⟨rfl, rfl⟩ := Q1
  show Go _ K Z _ n0 _ _ 4 #[.val (.ref a)] [(.int (natI cs.length))] hp1 _ _ _
  exact retI_ C (gs := []) d34_4 (dle rfl) (dle rfl) (fun _ q => nomatch q) ⟨rfl, rfl⟩
set_option maxRecDepth 65536 in
set_option maxHeartbeats 4000000 in
theorem k_initAsbU {Z : State} {a0 : Array Value} (hw : ∀ d ∈ tables_1, d.before a0 Z = true) (hs : Stt Z) {n0 : Nat} {h0 : Heap} {s a b : Addr} {cs : List Int32} {cap N : Nat} (S : Su Z h0 a b cs cap) (hbig : ∃ c ∈ cs, 256 ≤ c.toInt) (hN : cs.length ≤ N ∧ N ≤ 2000) (hlt : cs.length < cap) {u1 u2 : Value} (E : Exa Z h0 s "java/lang/String") (Fv : Fld Z h0 s "java/lang/String" "value" "[B" u1) (Fc : Fld Z h0 s "java/lang/String" "coder" "B" u2) (O : Old Z n0 h0) :
    Con WD Z EL0 n0 (⟨"java/lang/String", "<init>", "(Ljava/lang/AbstractStringBuilder;Ljava/lang/Void;)V"⟩ : MethodName) jdk_42_method_150_code 5 none (Rm 3 1 (0 + 2 * N) 49) [(.ref s), (.ref a), .null] h0 [s] (fun v h gs => v = none ∧ gs = [] ∧ Str Z h s cs) := by
  refine Con.of (a0 := a0) (by first | (exact plainFor_of_name (by first | (simp [plainName, overriddenIn]; done) | decide +kernel)) | decide +kernel) (hEL hw) hWE O (L0 := #[.val (.ref s), .val (.ref a), .val .null, .unset, .unset]) (fun m => by first | rfl | (simp [entryFrame, mkF, argsToLocals, Value.category]; done)) ?_
  intro K C hh
  have hne := slot_ne (Or.inr (hw _ (List.mem_of_getElem? (i := 34) rfl)) : Laid Z a0 "java/lang/String" "java/lang/String" "value" "[B") (Or.inr (hw _ (List.mem_of_getElem? (i := 32) rfl)) : Laid Z a0 "java/lang/String" "java/lang/String" "coder" "B") (by decide) (t := .array .byte) (t' := .byte) (by decide) (by decide)
  have hle := S.le
  obtain ⟨cv, hcv, Sc⟩ := st_c hs
  have eC := natI_toInt (i := cs.length) (by omega)
  have hul := utf_len cs
  refine Own.aloadN C d32_0 rfl rfl ?_
  refine initO_ C (hw _ (List.mem_of_getElem? (i := 16) rfl)) (hw _ (List.mem_of_getElem? (i := 17) rfl)) (hw _ (List.mem_of_getElem? (i := 18) rfl)) rfl (dle rfl) (dle rfl) d32_1 ?_
  refine Own.aloadN C d32_4 rfl rfl ?_
  refine callV_ C (as' := []) (st := []) (hw _ (List.mem_of_getElem? (i := 177) rfl)) (hw _ (List.mem_of_getElem? (i := 178) rfl)) (fun _ hZ => notFace_of_selects (args := #[]) (mvT hZ (hw _ (List.mem_of_getElem? (i := 180) rfl)))) (hw _ (List.mem_of_getElem? (i := 180) rfl)) (hw _ (List.mem_of_getElem? (i := 179) rfl)) (hw _ (List.mem_of_getElem? (i := 78) rfl)) (hw _ (List.mem_of_getElem? (i := 181) rfl)) ⟨by decide, by decide⟩ S.1 pd__28_29_5bB rfl (fun O => k_getValueU hw hs S O) (fun _ q => nomatch q) rfl (dle rfl) (dle rfl) (dle rfl) (by omega) d32_5 rfl (fun v1 hp1 gs1 K1 Q1 => ?_)
  obtain ⟨rfl, rfl⟩ := Q1
  show Go _ K Z _ n0 _ _ 8 #[.val (.ref s), .val (.ref a), .val .null, .unset, .unset] [(.ref b)] hp1 _ _ _
  have Sx1 := S.keep K1 nin0 nin0
  refine Own.astoreN (L' := #[.val (.ref s), .val (.ref a), .val .null, .val (.ref b), .unset]) C d32_8 rfl rfl ?_
  refine Own.aloadN C d32_9 rfl rfl ?_
  refine callV_ C (as' := []) (st := []) (hw _ (List.mem_of_getElem? (i := 182) rfl)) (hw _ (List.mem_of_getElem? (i := 183) rfl)) (fun _ hZ => nf_sel (x := ⟨"java/lang/AbstractStringBuilder", "getValue", "()[B"⟩) rfl (args := #[]) (mvT hZ (hw _ (List.mem_of_getElem? (i := 180) rfl)))) (hw _ (List.mem_of_getElem? (i := 185) rfl)) (hw _ (List.mem_of_getElem? (i := 186) rfl)) (hw _ (List.mem_of_getElem? (i := 70) rfl)) (hw _ (List.mem_of_getElem? (i := 187) rfl)) ⟨by decide, by decide⟩ Sx1.1 pd__28_29I rfl (fun O => k_sblenU hw hs Sx1 O) (fun _ q => nomatch q) rfl (dle rfl) (dle rfl) (dle rfl) (by omega) d32_10 rfl (fun v2 hp2 gs2 K2 Q2 => ?_)
  obtain ⟨rfl, rfl⟩ := Q2
  show Go _ K Z _ n0 _ _ 13 #[.val (.ref s), .val (.ref a), .val .null, .val (.ref b), .unset] [(.int (natI cs.length))] hp2 _ _ _
  have Sx2 := Sx1.keep K2 nin0 nin0
  refine Own.istore (L' := #[.val (.ref s), .val (.ref a), .val .null, .val (.ref b), .val (.int (natI cs.length))]) C d32_13 rfl ?_
  refine Own.aloadN C d32_15 rfl rfl ?_
  refine callV_ C (as' := []) (st := []) (hw _ (List.mem_of_getElem? (i := 190) rfl)) (hw _ (List.mem_of_getElem? (i := 158) rfl)) (fun _ hZ => notFace_of_selects (args := #[]) (mvT hZ (hw _ (List.mem_of_getElem? (i := 160) rfl)))) (hw _ (List.mem_of_getElem? (i := 160) rfl)) (hw _ (List.mem_of_getElem? (i := 159) rfl)) (hw _ (List.mem_of_getElem? (i := 78) rfl)) (hw _ (List.mem_of_getElem? (i := 161) rfl)) ⟨by decide, by decide⟩ Sx2.1 pd__28_29Z rfl (fun O => k_asblatz hw hs Sx2.2.2.2.1 O) (fun _ q => nomatch q) rfl (dle rfl) (dle rfl) (dle rfl) (by omega) d32_16 rfl (fun v3 hp3 gs3 K3 Q3 => ?_)
  obtain ⟨rfl, rfl⟩ := Q3
  show Go _ K Z _ n0 _ _ 19 #[.val (.ref s), .val (.ref a), .val .null, .val (.ref b), .val (.int (natI cs.length))] [(.int (0 : Int32))] hp3 _ _ _
  have Sx3 := Sx2.keep K3 nin0 nin0
  have KK := (K1.trans K2 (fun _ q => nomatch q)).trans K3 (fun _ q => nomatch q)
  have Ex1 := E.keep KK
  have Vx1 := Fv.keep KK nin0
  have Cx1 := Fc.keep KK nin0
  obtain ⟨-, -, -, -, Mq, ⟨rest, Bq, hfr, hl⟩, hcs, hcap⟩ := Sx3
  have hvl : (utf cs ++ rest).length = 2 * cap := by rw [List.length_append, hul]; exact hl
  refine if_eq C d32_19 (fun q4 => ?_) (fun q4 => ?_)
  · refine getS_ C (hw _ (List.mem_of_getElem? (i := 19) rfl)) Sc d32_41 ?_
    refine if_eq C d32_44 (fun q5 => ?_) (fun q5 => ?_)
    · exact absurd q5 hcv
    · refine Own.aloadN C d32_47 rfl rfl ?_
      refine getF_ C (hw _ (List.mem_of_getElem? (i := 313) rfl)) Mq d32_48 ?_
      refine if_eq C d32_51 (fun q6 => ?_) (fun q6 => ?_)
      · refine Own.aloadN C d32_79 rfl rfl ?_
        refine Own.iconst (v := 1) C d32_80 rfl ?_
        refine putF_ C (v' := .int (1 : Int32)) (ty := .byte) (hw _ (List.mem_of_getElem? (i := 31) rfl)) Cx1 Ex1 (Or.inr ⟨(hw _ (List.mem_of_getElem? (i := 32) rfl)), rfl, rfl⟩) (hw _ (List.mem_of_getElem? (i := 6) rfl)) (by decide) rfl rfl (by simp) d32_81 (fun hp7 W8 => ?_)
        have Ex2 := Ex1.wr W8
        have Cx2 := Cx1.same W8
        have Vx2 := Vx1.other W8 (Or.inr hne)
        have Bx2 := Bq.other W8 (Bq.neX Ex1 (hw _ (List.mem_of_getElem? (i := 6) rfl)))
        refine Own.aloadN C d32_84 rfl rfl ?_
        refine Own.aloadN C d32_85 rfl rfl ?_
        refine Own.iconst (v := 0) C d32_86 rfl ?_
        refine Own.iload C d32_87 rfl ?_
        refine Own.iconst (v := 1) C d32_89 rfl ?_
        refine Own.ishl C d32_90 ?_
        rw [show natI cs.length <<< ((1 : Int32) &&& 31) = natI (2 * cs.length) from i32e (by rw [shl1 eC (by omega), natI_toInt (by omega)])]
        show Go _ K Z _ n0 _ _ 91 #[.val (.ref s), .val (.ref a), .val .null, .val (.ref b), .val (.int (natI cs.length))] [(.int (natI (2 * cs.length))), (.int (0 : Int32)), (.ref b), (.ref s)] hp7 _ _ _
        refine callS_ C (as := [(.ref b), (.int (0 : Int32)), (.int (natI (2 * cs.length)))]) (st := [(.ref s)]) (hw _ (List.mem_of_getElem? (i := 191) rfl)) (hw _ (List.mem_of_getElem? (i := 192) rfl)) (hw _ (List.mem_of_getElem? (i := 193) rfl)) (hw _ (List.mem_of_getElem? (i := 194) rfl)) ⟨by decide, by decide⟩ pd__28_5bBII_29_5bB rfl (fun O => k_corN (N := 2 * N) hw hs (f := 0) (t := 2 * cs.length) ⟨by omega, by omega, by omega, by omega, by omega⟩ Bx2 (fun v hv => by rcases List.mem_append.mp hv with z | z; exact fits_utf v z; exact hfr v z) (Or.inl (by omega)) O) (fun _ q => nomatch q) rfl (dle rfl) (dle rfl) (dle rfl) (by omega) d32_91 rfl (fun v9 hp9 gs9 K9 Q9 => ?_)
        obtain ⟨c, rfl, rfl, hge, Bx4⟩ := Q9
        show Go _ K Z _ n0 _ _ 94 #[.val (.ref s), .val (.ref a), .val .null, .val (.ref b), .val (.int (natI cs.length))] [(.ref c), (.ref s)] hp9 _ _ _
        have Ex3 := Ex2.keep K9
        have Cx3 := Cx2.keep K9 nin0
        have Vx3 := Vx2.keep K9 nin0
        rw [List.drop_zero, Nat.sub_zero, List.take_left' hul] at Bx4
        have hcs2 : c ≠ s := fun e => ne_exa Bx4.2.1 Ex3 (by decide) e
        refine putF_ C (v' := .ref c) (ty := (.array .byte)) (hw _ (List.mem_of_getElem? (i := 33) rfl)) Vx3 Ex3 (Or.inr ⟨(hw _ (List.mem_of_getElem? (i := 34) rfl)), rfl, rfl⟩) (hw _ (List.mem_of_getElem? (i := 6) rfl)) (by decide) rfl rfl (by simp) d32_94 (fun hp10 W11 => ?_)
        exact retV C (gs := []) d32_97 (dle rfl) (by omega) (fun _ q => nomatch q) ⟨rfl, rfl, Ex3.wr W11, hcs, by omega, c, 1, utf cs, Vx3.same W11, Cx3.other W11 (Or.inr hne.symm), Bx4.1.other W11 hcs2, Or.inr ⟨hbig, rfl, rfl⟩⟩
      · exact absurd rfl q6
  · exact absurd rfl q4
set_option maxRecDepth 65536 in
set_option maxHeartbeats 4000000 in
theorem k_initSbU {Z : State} {a0 : Array Value} (hw : ∀ d ∈ tables_1, d.before a0 Z = true) (hs : Stt Z) {n0 : Nat} {h0 : Heap} {s a b : Addr} {cs : List Int32} {cap N : Nat} (S : Su Z h0 a b cs cap) (hbig : ∃ c ∈ cs, 256 ≤ c.toInt) (hN : cs.length ≤ N ∧ N ≤ 2000) (hlt : cs.length < cap) {u1 u2 : Value} (E : Exa Z h0 s "java/lang/String") (Fv : Fld Z h0 s "java/lang/String" "value" "[B" u1) (Fc : Fld Z h0 s "java/lang/String" "coder" "B" u2) (O : Old Z n0 h0) :
    Con WD Z EL0 n0 (⟨"java/lang/String", "<init>", "(Ljava/lang/StringBuilder;)V"⟩ : MethodName) jdk_42_method_53_code 2 none (Rm 4 1 (0 + 2 * N) 65) [(.ref s), (.ref a)] h0 [s] (fun v h gs => v = none ∧ gs = [] ∧ Str Z h s cs) := by
  refine Con.of (a0 := a0) (by first | (exact plainFor_of_name (by first | (simp [plainName, overriddenIn]; done) | decide +kernel)) | decide +kernel) (hEL hw) hWE O (L0 := #[.val (.ref s), .val (.ref a)]) (fun m => by first | rfl | (simp [entryFrame, mkF, argsToLocals, Value.category]; done)) ?_
  intro K C hh
  refine Own.aloadN C d31_0 rfl rfl ?_
  refine Own.aloadN C d31_1 rfl rfl ?_
  refine Own.aconstNull C d31_2 ?_
  refine callI_ C (as' := [(.ref a), .null]) (st := []) rfl (hw _ (List.mem_of_getElem? (i := 174) rfl)) (hw _ (List.mem_of_getElem? (i := 175) rfl)) (hw _ (List.mem_of_getElem? (i := 7) rfl)) (hw _ (List.mem_of_getElem? (i := 176) rfl)) ⟨by decide, by decide⟩ pd__28Ljava_2flang_2fAbstractStringBuilder_3bLjava_2flang_2fVoid_3b_29V rfl (fun O => k_initAsbU (N := N) hw hs S hbig hN hlt E Fv Fc O) (by simp) rfl (dle rfl) (dle rfl) (dle rfl) (by omega) d31_3 rfl (fun v1 hp1 gs1 K1 Q1 => ?_)
  obtain ⟨rfl, rfl, F⟩ := Q1
  show Go _ K Z _ n0 _ _ 6 #[.val (.ref s), .val (.ref a)] [] hp1 _ _ _
  exact retV C (gs := []) d31_6 (dle rfl) (by omega) (fun _ q => nomatch q) ⟨rfl, rfl, F⟩
set_option maxRecDepth 65536 in
set_option maxHeartbeats 4000000 in
theorem k_toStringU {Z : State} {a0 : Array Value} (hw : ∀ d ∈ tables_1, d.before a0 Z = true) (hs : Stt Z) {n0 : Nat} {h0 : Heap} {a b : Addr} {cs : List Int32} {cap N : Nat} (S : Su Z h0 a b cs cap) (hbig : ∃ c ∈ cs, 256 ≤ c.toInt) (hN : cs.length ≤ N ∧ N ≤ 2000) (hlt : cs.length < cap) (O : Old Z n0 h0) :
    Con WD Z EL0 n0 (⟨"java/lang/StringBuilder", "toString", "()Ljava/lang/String;"⟩ : MethodName) jdk_67_method_42_code 1 (some (.object "java/lang/String")) (Rm 5 2 (4 + 2 * N) 79) [(.ref a)] h0 [] (fun v h gs => gs = [] ∧ ∃ s : Addr, v = some (.ref s) ∧ Str Z h s cs) := by
  refine Con.of (a0 := a0) (by first | (exact plainFor_of_name (by first | (simp [plainName, overriddenIn]; done) | decide +kernel)) | decide +kernel) (hEL hw) hWE O (L0 := #[.val (.ref a)]) (fun m => by first | rfl | (simp [entryFrame, mkF, argsToLocals, Value.category]; done)) ?_
  intro K C hh
  refine new_ C (hw _ (List.mem_of_getElem? (i := 170) rfl)) (hw _ (List.mem_of_getElem? (i := 6) rfl)) (hw _ (List.mem_of_getElem? (i := 7) rfl)) (dle rfl) (by omega) d30_0 (fun hp1 K1 lt1 le1 ⟨E1, F1⟩ => ?_)
  obtain ⟨s, g1⟩ : ∃ z, z = h0.size := ⟨_, rfl⟩
  rw [← g1] at E1 F1 lt1 le1 ⊢
  have Fv := F1 (Or.inr (hw _ (List.mem_of_getElem? (i := 34) rfl)) : Laid Z a0 "java/lang/String" "java/lang/String" "value" "[B") (ty := .array .byte) (by decide)
  have Fc := F1 (Or.inr (hw _ (List.mem_of_getElem? (i := 32) rfl)) : Laid Z a0 "java/lang/String" "java/lang/String" "coder" "B") (ty := .byte) (by decide)
  refine Own.dup C d30_3 rfl ?_
  refine Own.aloadN C d30_4 rfl rfl ?_
  refine callI_ C (as' := [(.ref a)]) (st := [(.ref s)]) rfl (hw _ (List.mem_of_getElem? (i := 171) rfl)) (hw _ (List.mem_of_getElem? (i := 172) rfl)) (hw _ (List.mem_of_getElem? (i := 7) rfl)) (hw _ (List.mem_of_getElem? (i := 173) rfl)) ⟨by decide, by decide⟩ pd__28Ljava_2flang_2fStringBuilder_3b_29V rfl (fun O => k_initSbU (N := N) hw hs (S.keep K1 nin0 nin0) hbig hN hlt E1 Fv Fc O) (by simp) rfl (dle rfl) (dle rfl) (dle rfl) (by omega) d30_5 rfl (fun v2 hp2 gs2 K2 Q2 => ?_)
  obtain ⟨rfl, rfl, F⟩ := Q2
  show Go _ K Z _ n0 _ _ 8 #[.val (.ref a)] [(.ref s)] hp2 _ _ _
  exact retA C (gs := []) rfl rfl d30_8 (dle rfl) (by omega) (fun _ q => nomatch q) ⟨rfl, s, rfl, F⟩
set_option maxRecDepth 65536 in
set_option maxHeartbeats 4000000 in
theorem k_record {Z : State} {a0 : Array Value} (hw : ∀ d ∈ tables_1, d.before a0 Z = true) (hs : Stt Z) {n0 : Nat} {h0 : Heap} {r : Addr} (O : Old Z n0 h0) :
    Con WD Z EL0 n0 (⟨"java/lang/Record", "<init>", "()V"⟩ : MethodName) jdk_30_method_1_code 1 none (Rm 1 0 0 12) [(.ref r)] h0 [] (fun v h gs => v = none ∧ gs = []) := by
  refine Con.of (a0 := a0) (by first | (exact plainFor_of_name (by first | (simp [plainName, overriddenIn]; done) | decide +kernel)) | decide +kernel) (hEL hw) hWE O (L0 := #[.val (.ref r)]) (fun m => by first | rfl | (simp [entryFrame, mkF, argsToLocals, Value.category]; done)) ?_
  intro K C hh
  refine Own.aloadN C d41_0 rfl rfl ?_
  refine initO_ C (hw _ (List.mem_of_getElem? (i := 214) rfl)) (hw _ (List.mem_of_getElem? (i := 17) rfl)) (hw _ (List.mem_of_getElem? (i := 18) rfl)) rfl (dle rfl) (dle rfl) d41_1 ?_
  exact retV C (gs := []) d41_4 (dle rfl) (dle rfl) (fun _ q => nomatch q) ⟨rfl, rfl⟩
set_option maxRecDepth 65536 in
set_option maxHeartbeats 4000000 in
theorem k_krinit {Z : State} {a0 : Array Value} (hw : ∀ d ∈ tables_1, d.before a0 Z = true) (hs : Stt Z) {n0 : Nat} {h0 : Heap} {r s t : Addr} {u1 u2 : Value} (E : Exa Z h0 r "com/example/kolejka/kolejka/Dialect$KeyRange") (Ff : (Fld Z h0 r "com/example/kolejka/kolejka/Dialect$KeyRange" "from" "Ljava/lang/String;" u1)) (Ft : (Fld Z h0 r "com/example/kolejka/kolejka/Dialect$KeyRange" "to" "Ljava/lang/String;" u2)) (O : Old Z n0 h0) :
    Con WD Z EL0 n0 (⟨"com/example/kolejka/kolejka/Dialect$KeyRange", "<init>", "(Ljava/lang/String;Ljava/lang/String;)V"⟩ : MethodName) prog_8_method_1_code 3 none (Rm 2 0 0 24) [(.ref r), (.ref s), (.ref t)] h0 [r] (fun v h gs => v = none ∧ gs = [] ∧ Exa Z h r "com/example/kolejka/kolejka/Dialect$KeyRange" ∧ (Fld Z h r "com/example/kolejka/kolejka/Dialect$KeyRange" "from" "Ljava/lang/String;" (.ref s)) ∧ (Fld Z h r "com/example/kolejka/kolejka/Dialect$KeyRange" "to" "Ljava/lang/String;" (.ref t))) := by
  refine Con.of (a0 := a0) (by first | (exact plainFor_of_name (by first | (simp [plainName, overriddenIn]; done) | decide +kernel)) | decide +kernel) (hEL hw) hWE O (L0 := #[.val (.ref r), .val (.ref s), .val (.ref t)]) (fun m => by first | rfl | (simp [entryFrame, mkF, argsToLocals, Value.category]; done)) ?_
  intro K C hh
  have hft := slot_ne (Or.inr (hw _ (List.mem_of_getElem? (i := 216) rfl)) : Laid Z a0 "com/example/kolejka/kolejka/Dialect$KeyRange" "com/example/kolejka/kolejka/Dialect$KeyRange" "from" "Ljava/lang/String;") (Or.inr (hw _ (List.mem_of_getElem? (i := 218) rfl)) : Laid Z a0 "com/example/kolejka/kolejka/Dialect$KeyRange" "com/example/kolejka/kolejka/Dialect$KeyRange" "to" "Ljava/lang/String;") (by decide) (t := .object "java/lang/String") (t' := .object "java/lang/String") (by decide) (by decide)
  refine Own.aloadN C d40_0 rfl rfl ?_
  refine callI_ C (as' := []) (st := []) rfl (hw _ (List.mem_of_getElem? (i := 209) rfl)) (hw _ (List.mem_of_getElem? (i := 210) rfl)) (hw _ (List.mem_of_getElem? (i := 212) rfl)) (hw _ (List.mem_of_getElem? (i := 213) rfl)) ⟨by decide, by decide⟩ pd__28_29V rfl (fun O => k_record hw hs O) (fun _ q => nomatch q) rfl (dle rfl) (dle rfl) (dle rfl) (dle rfl) d40_1 rfl (fun v1 hp1 gs1 K1 Q1 => ?_)
  obtain ⟨rfl, rfl⟩ := Q1
  show Go _ K Z _ n0 _ _ 4 #[.val (.ref r), .val (.ref s), .val (.ref t)] [] hp1 _ _ _
  have Ex1 := E.keep K1
  have Fx1 := Ff.keep K1 nin0
  have Tx1 := Ft.keep K1 nin0
  refine Own.aloadN C d40_4 rfl rfl ?_
  refine Own.aloadN C d40_5 rfl rfl ?_
  refine putF_ C (v' := .ref s) (ty := (.object "java/lang/String")) (hw _ (List.mem_of_getElem? (i := 215) rfl)) Fx1 Ex1 (Or.inr ⟨(hw _ (List.mem_of_getElem? (i := 216) rfl)), rfl, rfl⟩) (hw _ (List.mem_of_getElem? (i := 67) rfl)) (by decide) rfl rfl (by simp) d40_6 (fun hp2 W3 => ?_)
  have Ex2 := Ex1.wr W3
  have Fx2 := Fx1.same W3
  have Tx2 := Tx1.other W3 (Or.inr hft.symm)
  refine Own.aloadN C d40_9 rfl rfl ?_
  refine Own.aloadN C d40_10 rfl rfl ?_
  refine putF_ C (v' := .ref t) (ty := (.object "java/lang/String")) (hw _ (List.mem_of_getElem? (i := 217) rfl)) Tx2 Ex2 (Or.inr ⟨(hw _ (List.mem_of_getElem? (i := 218) rfl)), rfl, rfl⟩) (hw _ (List.mem_of_getElem? (i := 67) rfl)) (by decide) rfl rfl (by simp) d40_11 (fun hp4 W5 => ?_)
  exact retV C (gs := []) d40_14 (dle rfl) (dle rfl) (fun _ q => nomatch q) ⟨rfl, rfl, Ex2.wr W5, Fx2.other W5 (Or.inr hft), Tx2.same W5⟩
set_option maxRecDepth 65536 in
set_option maxHeartbeats 4000000 in
theorem k_from {Z : State} {a0 : Array Value} (hw : ∀ d ∈ tables_1, d.before a0 Z = true) (hs : Stt Z) {n0 : Nat} {h0 : Heap} {r s : Addr} (Ff : (Fld Z h0 r "com/example/kolejka/kolejka/Dialect$KeyRange" "from" "Ljava/lang/String;" (.ref s))) (O : Old Z n0 h0) :
    Con WD Z EL0 n0 (⟨"com/example/kolejka/kolejka/Dialect$KeyRange", "from", "()Ljava/lang/String;"⟩ : MethodName) prog_8_method_6_code 1 (some (.object "java/lang/String")) (Rm 0 0 0 0) [(.ref r)] h0 [] (fun v h gs => v = some (.ref s) ∧ gs = []) := by
  refine Con.of (a0 := a0) (by first | (exact plainFor_of_name (by first | (simp [plainName, overriddenIn]; done) | decide +kernel)) | decide +kernel) (hEL hw) hWE O (L0 := #[.val (.ref r)]) (fun m => by first | rfl | (simp [entryFrame, mkF, argsToLocals, Value.category]; done)) ?_
  intro K C hh
  refine Own.aloadN C d42_0 rfl rfl ?_
  refine getF_ C (hw _ (List.mem_of_getElem? (i := 215) rfl)) Ff d42_1 ?_
  exact retA C (gs := []) rfl rfl d42_4 (dle rfl) (dle rfl) (fun _ q => nomatch q) ⟨rfl, rfl⟩
set_option maxRecDepth 65536 in
set_option maxHeartbeats 4000000 in
theorem k_to {Z : State} {a0 : Array Value} (hw : ∀ d ∈ tables_1, d.before a0 Z = true) (hs : Stt Z) {n0 : Nat} {h0 : Heap} {r s : Addr} (Ff : (Fld Z h0 r "com/example/kolejka/kolejka/Dialect$KeyRange" "to" "Ljava/lang/String;" (.ref s))) (O : Old Z n0 h0) :
    Con WD Z EL0 n0 (⟨"com/example/kolejka/kolejka/Dialect$KeyRange", "to", "()Ljava/lang/String;"⟩ : MethodName) prog_8_method_7_code 1 (some (.object "java/lang/String")) (Rm 0 0 0 0) [(.ref r)] h0 [] (fun v h gs => v = some (.ref s) ∧ gs = []) := by
  refine Con.of (a0 := a0) (by first | (exact plainFor_of_name (by first | (simp [plainName, overriddenIn]; done) | decide +kernel)) | decide +kernel) (hEL hw) hWE O (L0 := #[.val (.ref r)]) (fun m => by first | rfl | (simp [entryFrame, mkF, argsToLocals, Value.category]; done)) ?_
  intro K C hh
  refine Own.aloadN C d44_0 rfl rfl ?_
  refine getF_ C (hw _ (List.mem_of_getElem? (i := 217) rfl)) Ff d44_1 ?_
  exact retA C (gs := []) rfl rfl d44_4 (dle rfl) (dle rfl) (fun _ q => nomatch q) ⟨rfl, rfl⟩
set_option maxRecDepth 65536 in
set_option maxHeartbeats 4000000 in
theorem k_starting {Z : State} {a0 : Array Value} (hw : ∀ d ∈ tables_1, d.before a0 Z = true) (hs : Stt Z) {n0 : Nat} {h0 : Heap} {a : Addr} {ds : List Int32} (F : Str Z h0 a (ds ++ [47])) (hsm : ds.length < 5) (O : Old Z n0 h0) :
    Con WD Z EL0 n0 (⟨"com/example/kolejka/kolejka/Dialect$KeyRange", "startingWith", "(Ljava/lang/String;)Lcom/example/kolejka/kolejka/Dialect$KeyRange;"⟩ : MethodName) prog_8_method_2_code 1 (some (.object "com/example/kolejka/kolejka/Dialect$KeyRange")) (Rm 10 11 98 146) [(.ref a)] h0 [] (fun v h gs => gs = [] ∧ ∃ r t : Addr, v = some (.ref r) ∧ Exa Z h r "com/example/kolejka/kolejka/Dialect$KeyRange" ∧ (Fld Z h r "com/example/kolejka/kolejka/Dialect$KeyRange" "from" "Ljava/lang/String;" (.ref a)) ∧ (Fld Z h r "com/example/kolejka/kolejka/Dialect$KeyRange" "to" "Ljava/lang/String;" (.ref t)) ∧ Str Z h t (ds ++ [48])) := by
  rcases Classical.em (∀ c ∈ ds, c.toInt < 256) with hL | hL
  · refine Con.of (a0 := a0) (by first | (exact plainFor_of_name (by first | (simp [plainName, overriddenIn]; done) | decide +kernel)) | decide +kernel) (hEL hw) hWE O (L0 := #[.val (.ref a)]) (fun m => by first | rfl | (simp [entryFrame, mkF, argsToLocals, Value.category]; done)) ?_
    intro K C hh
    have hl := F.2.2.1
    have hln : (ds ++ [(47 : Int32)]).length = ds.length + 1 := by simp
    have hcd : ∀ c ∈ ds, isCh c := fun c hc => F.2.1 c (List.mem_append_left _ hc)
    refine Own.aloadN C d7_0 rfl rfl ?_
    refine ldcS_ rfl C (text := "/") (vs := [.int 47]) (z := 1) (nn := 4) (hw _ (List.mem_of_getElem? (i := 39) rfl)) (wS hw) (by simp) ⟨by decide +kernel, by decide +kernel⟩ (by decide) (by decide) (by decide +kernel) (by decide) (dle rfl) (dle rfl) d7_1 (fun hp1 s1 b1 K1 E1 C1 V1 A1 ne1 => ?_)
    have G : Str Z hp1 s1 [47] := ⟨E1, by simp only [List.mem_singleton]; rintro _ rfl; exact ⟨by decide, by decide⟩, by simp, b1, 0, lat [47], V1, C1, by rw [el47]; exact A1, Or.inl ⟨by simp only [List.mem_singleton]; rintro _ rfl; decide, rfl, rfl⟩⟩
    have Fx1 := F.keep K1
    refine callV_ C (as' := [(.ref s1)]) (st := []) (hw _ (List.mem_of_getElem? (i := 42) rfl)) (hw _ (List.mem_of_getElem? (i := 43) rfl)) (fun _ hZ => notFace_of_selects (args := #[]) (mvT hZ (hw _ (List.mem_of_getElem? (i := 45) rfl)))) (hw _ (List.mem_of_getElem? (i := 45) rfl)) (hw _ (List.mem_of_getElem? (i := 44) rfl)) (hw _ (List.mem_of_getElem? (i := 7) rfl)) (hw _ (List.mem_of_getElem? (i := 46) rfl)) ⟨by decide, by decide⟩ Fx1.1 pd__28Ljava_2flang_2fString_3b_29Z rfl (fun O => k_endsWith hw hs Fx1 G O) (fun _ q => nomatch q) rfl (dle rfl) (dle rfl) (dle rfl) (dle rfl) d7_3 rfl (fun v2 hp2 gs2 K2 Q2 => ?_)
    obtain ⟨rfl, rfl⟩ := Q2
    show Go _ K Z _ n0 _ _ 6 #[.val (.ref a)] [(.int (1 : Int32))] hp2 _ _ _
    have Fx2 := Fx1.keep K2
    refine if_ne C d7_6 (fun q3 => ?_) (fun q3 => ?_)
    · refine new_ C (hw _ (List.mem_of_getElem? (i := 66) rfl)) (hw _ (List.mem_of_getElem? (i := 67) rfl)) (hw _ (List.mem_of_getElem? (i := 37) rfl)) (dle rfl) (dle rfl) d7_41 (fun hp4 K4 lt4 le4 ⟨E4, F4⟩ => ?_)
      obtain ⟨r, g4⟩ : ∃ z, z = hp2.size := ⟨_, rfl⟩
      rw [← g4] at E4 F4 lt4 le4 ⊢
      have Ff := F4 (Or.inr (hw _ (List.mem_of_getElem? (i := 216) rfl)) : Laid Z a0 "com/example/kolejka/kolejka/Dialect$KeyRange" "com/example/kolejka/kolejka/Dialect$KeyRange" "from" "Ljava/lang/String;") (ty := .object "java/lang/String") (by decide)
      have Ft := F4 (Or.inr (hw _ (List.mem_of_getElem? (i := 218) rfl)) : Laid Z a0 "com/example/kolejka/kolejka/Dialect$KeyRange" "com/example/kolejka/kolejka/Dialect$KeyRange" "to" "Ljava/lang/String;") (ty := .object "java/lang/String") (by decide)
      have Fx3 := Fx2.keep K4
      refine Own.dup C d7_44 rfl ?_
      refine Own.aloadN C d7_45 rfl rfl ?_
      refine new_ C (hw _ (List.mem_of_getElem? (i := 68) rfl)) (hw _ (List.mem_of_getElem? (i := 69) rfl)) (hw _ (List.mem_of_getElem? (i := 70) rfl)) (dle rfl) (dle rfl) d7_46 (fun hp5 K5 lt5 le5 ⟨E5, F5⟩ => ?_)
      obtain ⟨sb, g5⟩ : ∃ z, z = hp4.size := ⟨_, rfl⟩
      rw [← g5] at E5 F5 lt5 le5 ⊢
      have Fv := F5 (Or.inl (hw _ (List.mem_of_getElem? (i := 83) rfl)) : Laid Z a0 "java/lang/StringBuilder" "java/lang/AbstractStringBuilder" "value" "[B") (ty := .array .byte) (by decide)
      have Fc := F5 (Or.inl (hw _ (List.mem_of_getElem? (i := 85) rfl)) : Laid Z a0 "java/lang/StringBuilder" "java/lang/AbstractStringBuilder" "coder" "B") (ty := .byte) (by decide)
      have Fn := F5 (Or.inl (hw _ (List.mem_of_getElem? (i := 122) rfl)) : Laid Z a0 "java/lang/StringBuilder" "java/lang/AbstractStringBuilder" "count" "I") (ty := .int) (by decide)
      have Fm := F5 (Or.inl (hw _ (List.mem_of_getElem? (i := 314) rfl)) : Laid Z a0 "java/lang/StringBuilder" "java/lang/AbstractStringBuilder" "maybeLatin1" "Z") (ty := .boolean) (by decide)
      have Fx4 := Fx3.keep K5
      have Er2 := E4.keep K5
      have Ff2 := Ff.keep K5 nin0
      have Ft2 := Ft.keep K5 nin0
      refine Own.dup C d7_49 rfl ?_
      have nrs : r ∉ [sb] := ninS (ne_exa Er2 E5 (by decide)) nin0
      refine callI_ C (as' := []) (st := [(.ref sb), (.ref a), (.ref r), (.ref r)]) rfl (hw _ (List.mem_of_getElem? (i := 71) rfl)) (hw _ (List.mem_of_getElem? (i := 72) rfl)) (hw _ (List.mem_of_getElem? (i := 70) rfl)) (hw _ (List.mem_of_getElem? (i := 73) rfl)) ⟨by decide, by decide⟩ pd__28_29V rfl (fun O => k_sb hw hs E5 Fv Fc Fn Fm O) (by simp) rfl (dle rfl) (dle rfl) (dle rfl) (dle rfl) d7_50 rfl (fun v6 hp6 gs6 K6 Q6 => ?_)
      obtain ⟨rfl, b, rfl, S, Mb⟩ := Q6
      show Go _ K Z _ n0 _ _ 53 #[.val (.ref a)] [(.ref sb), (.ref a), (.ref r), (.ref r)] hp6 _ _ _
      have Fx5 := Fx4.keepX K6 E5 (by decide) (hw _ (List.mem_of_getElem? (i := 69) rfl))
      have Er3 := Er2.keep K6
      have Ff3 := Ff2.keep K6 nrs
      have Ft3 := Ft2.keep K6 nrs
      refine Own.aloadN C d7_53 rfl rfl ?_
      refine Own.iconst (v := 0) C d7_54 rfl ?_
      refine Own.aloadN C d7_55 rfl rfl ?_
      refine callV_ C (as' := []) (st := [(.int (0 : Int32)), (.ref a), (.ref sb), (.ref a), (.ref r), (.ref r)]) (hw _ (List.mem_of_getElem? (i := 86) rfl)) (hw _ (List.mem_of_getElem? (i := 48) rfl)) (fun _ hZ => notFace_of_selects (args := #[]) (mvT hZ (hw _ (List.mem_of_getElem? (i := 50) rfl)))) (hw _ (List.mem_of_getElem? (i := 50) rfl)) (hw _ (List.mem_of_getElem? (i := 49) rfl)) (hw _ (List.mem_of_getElem? (i := 7) rfl)) (hw _ (List.mem_of_getElem? (i := 51) rfl)) ⟨by decide, by decide⟩ Fx5.1 pd__28_29I rfl (fun O => k_length hw hs Fx5 O) (fun _ q => nomatch q) rfl (dle rfl) (dle rfl) (dle rfl) (dle rfl) d7_56 rfl (fun v7 hp7 gs7 K7 Q7 => ?_)
      obtain ⟨rfl, rfl⟩ := Q7
      show Go _ K Z _ n0 _ _ 59 #[.val (.ref a)] [(.int (natI (ds ++ [47]).length)), (.int (0 : Int32)), (.ref a), (.ref sb), (.ref a), (.ref r), (.ref r)] hp7 _ _ _
      have Fx6 := Fx5.keep K7
      refine Own.iconst (v := 1) C d7_59 rfl ?_
      refine Own.isub C d7_60 ?_
      rw [show natI (ds ++ [(47 : Int32)]).length - 1 = natI ds.length from by rw [hln, show (1 : Int32) = natI 1 from rfl, natI_sub (by omega) (by omega), Nat.add_sub_cancel]]
      show Go _ K Z _ n0 _ _ 61 #[.val (.ref a)] [(.int (natI ds.length)), (.int (0 : Int32)), (.ref a), (.ref sb), (.ref a), (.ref r), (.ref r)] hp7 _ _ _
      refine callV_ C (as' := [(.int (0 : Int32)), (.int (natI ds.length))]) (st := [(.ref sb), (.ref a), (.ref r), (.ref r)]) (hw _ (List.mem_of_getElem? (i := 87) rfl)) (hw _ (List.mem_of_getElem? (i := 88) rfl)) (fun _ hZ => notFace_of_selects (args := #[]) (mvT hZ (hw _ (List.mem_of_getElem? (i := 90) rfl)))) (hw _ (List.mem_of_getElem? (i := 90) rfl)) (hw _ (List.mem_of_getElem? (i := 89) rfl)) (hw _ (List.mem_of_getElem? (i := 7) rfl)) (hw _ (List.mem_of_getElem? (i := 91) rfl)) ⟨by decide, by decide⟩ Fx6.1 pd__28II_29Ljava_2flang_2fString_3b rfl (fun O => k_sub0 hw hs Fx6 hsm O) (fun _ q => nomatch q) rfl (dle rfl) (dle rfl) (dle rfl) (dle rfl) d7_61 rfl (fun v8 hp8 gs8 K8 Q8 => ?_)
      obtain ⟨rfl, s2, rfl, D⟩ := Q8
      show Go _ K Z _ n0 _ _ 64 #[.val (.ref a)] [(.ref s2), (.ref sb), (.ref a), (.ref r), (.ref r)] hp8 _ _ _
      have K0 := K7.trans K8 (fun _ q => nomatch q)
      have Sx1 := S.keep K0 nin0 nin0
      have Mx1 := Mb.keep K0 nin0
      have Er4 := Er3.keep K0
      have Ff4 := Ff3.keep K0 nin0
      have Ft4 := Ft3.keep K0 nin0
      have nr4 : r ∉ [sb, b] := ninS (ne_exa Er4 Sx1.1 (by decide)) (ninS (by obtain ⟨q, Bq, -⟩ := Sx1.2.2.2.2.1; exact (Bq.1.neX Er4 (hw _ (List.mem_of_getElem? (i := 67) rfl))).symm) nin0)
      have nrs4 : r ∉ [sb] := ninS (ne_exa Er4 Sx1.1 (by decide)) nin0
      obtain ⟨E2, hc2, hl2, c2, z2, vs2, V2, C2, A2, B2⟩ := id D
      obtain ⟨rest, Bq, hlq⟩ := id Sx1.2.2.2.2.1
      have hv2 : vs2.length ≤ 2 * ds.length := by rcases B2.length with ⟨-, t⟩ | ⟨-, t⟩ <;> omega
      have hsa : NotIn Z hp8 s2 sb := NotIn.of (ne_exa E2 Sx1.1 (by decide)) V2 (A2.neX Sx1.1 (hw _ (List.mem_of_getElem? (i := 69) rfl)))
      have hsb : NotIn Z hp8 s2 b := NotIn.of (fun e => ne_exa E2 Bq.2.1 (by decide) e) V2 (fun e => by subst e; have t := congrArg List.length (A2.fn Bq.1); rw [List.length_append, lat_len, hlq] at t; omega)
      refine callV_ C (as' := [(.ref s2)]) (st := [(.ref a), (.ref r), (.ref r)]) (hw _ (List.mem_of_getElem? (i := 110) rfl)) (hw _ (List.mem_of_getElem? (i := 111) rfl)) (fun _ hZ => notFace_of_selects (args := #[]) (mvT hZ (hw _ (List.mem_of_getElem? (i := 113) rfl)))) (hw _ (List.mem_of_getElem? (i := 113) rfl)) (hw _ (List.mem_of_getElem? (i := 112) rfl)) (hw _ (List.mem_of_getElem? (i := 70) rfl)) (hw _ (List.mem_of_getElem? (i := 114) rfl)) ⟨by decide, by decide⟩ Sx1.1 pd__28Ljava_2flang_2fString_3b_29Ljava_2flang_2fStringBuilder_3b rfl (fun O => k_append (N := 16) hw hs Sx1 D hL hsa hsb ⟨by simp; omega, by decide⟩ O) (by simp) rfl (dle rfl) (dle rfl) (dle rfl) (dle rfl) d7_64 rfl (fun v9 hp9 gs9 K9 Q9 => ?_)
      obtain ⟨rfl, b', cap', rfl, Sx2, hcap2⟩ := Q9
      rw [List.nil_append] at Sx2
      have hcap3 : 16 ≤ cap' := by omega
      show Go _ K Z _ n0 _ _ 67 #[.val (.ref a)] [(.ref sb), (.ref a), (.ref r), (.ref r)] hp9 _ _ _
      have Er5 := Er4.keep K9
      have Ff5 := Ff4.keep K9 nr4
      have Ft5 := Ft4.keep K9 nr4
      have nr5 : r ∉ [sb, b'] := ninS (ne_exa Er5 Sx2.1 (by decide)) (ninS (by obtain ⟨q, Bq, -⟩ := Sx2.2.2.2.2.1; exact (Bq.1.neX Er5 (hw _ (List.mem_of_getElem? (i := 67) rfl))).symm) nin0)
      refine Own.bipush (v := 48) C d7_67 rfl ?_
      refine callV_ C (as' := [(.int (48 : Int32))]) (st := [(.ref a), (.ref r), (.ref r)]) (hw _ (List.mem_of_getElem? (i := 148) rfl)) (hw _ (List.mem_of_getElem? (i := 149) rfl)) (fun _ hZ => notFace_of_selects (args := #[]) (mvT hZ (hw _ (List.mem_of_getElem? (i := 151) rfl)))) (hw _ (List.mem_of_getElem? (i := 151) rfl)) (hw _ (List.mem_of_getElem? (i := 150) rfl)) (hw _ (List.mem_of_getElem? (i := 70) rfl)) (hw _ (List.mem_of_getElem? (i := 152) rfl)) ⟨by decide, by decide⟩ Sx2.1 pd__28C_29Ljava_2flang_2fStringBuilder_3b rfl (fun O => k_appendC hw hs Sx2 (by omega) O) (by simp) rfl (dle rfl) (dle rfl) (dle rfl) (dle rfl) d7_69 rfl (fun v10 hp10 gs10 K10 Q10 => ?_)
      obtain ⟨rfl, rfl, Sx3⟩ := Q10
      show Go _ K Z _ n0 _ _ 72 #[.val (.ref a)] [(.ref sb), (.ref a), (.ref r), (.ref r)] hp10 _ _ _
      have Er6 := Er5.keep K10
      have Ff6 := Ff5.keep K10 nr5
      have Ft6 := Ft5.keep K10 nr5
      have hl48 : (ds ++ [(48 : Int32)]).length = ds.length + 1 := by simp
      refine callV_ C (as' := []) (st := [(.ref a), (.ref r), (.ref r)]) (hw _ (List.mem_of_getElem? (i := 165) rfl)) (hw _ (List.mem_of_getElem? (i := 166) rfl)) (fun _ hZ => notFace_of_selects (args := #[]) (mvT hZ (hw _ (List.mem_of_getElem? (i := 168) rfl)))) (hw _ (List.mem_of_getElem? (i := 168) rfl)) (hw _ (List.mem_of_getElem? (i := 167) rfl)) (hw _ (List.mem_of_getElem? (i := 70) rfl)) (hw _ (List.mem_of_getElem? (i := 169) rfl)) ⟨by decide, by decide⟩ Sx3.1 pd__28_29Ljava_2flang_2fString_3b rfl (fun O => k_toString (N := 8) hw hs Sx3 ⟨by omega, by decide⟩ (by omega) O) (fun _ q => nomatch q) rfl (dle rfl) (dle rfl) (dle rfl) (dle rfl) d7_72 rfl (fun v11 hp11 gs11 K11 Q11 => ?_)
      obtain ⟨rfl, t, rfl, -, T⟩ := Q11
      show Go _ K Z _ n0 _ _ 75 #[.val (.ref a)] [(.ref t), (.ref a), (.ref r), (.ref r)] hp11 _ _ _
      have Er7 := Er6.keep K11
      have Ff7 := Ff6.keep K11 nin0
      have Ft7 := Ft6.keep K11 nin0
      refine callI_ C (as' := [(.ref a), (.ref t)]) (st := [(.ref r)]) rfl (hw _ (List.mem_of_getElem? (i := 206) rfl)) (hw _ (List.mem_of_getElem? (i := 207) rfl)) (hw _ (List.mem_of_getElem? (i := 37) rfl)) (hw _ (List.mem_of_getElem? (i := 208) rfl)) ⟨by decide, by decide⟩ pd__28Ljava_2flang_2fString_3bLjava_2flang_2fString_3b_29V rfl (fun O => k_krinit hw hs Er7 Ff7 Ft7 O) (by simp) rfl (dle rfl) (dle rfl) (dle rfl) (dle rfl) d7_75 rfl (fun v12 hp12 gs12 K12 Q12 => ?_)
      obtain ⟨rfl, rfl, Er8, Ff8, Ft8⟩ := Q12
      show Go _ K Z _ n0 _ _ 78 #[.val (.ref a)] [(.ref r)] hp12 _ _ _
      exact retA C (gs := []) rfl rfl d7_78 (dle rfl) (dle rfl) (fun _ q => nomatch q) ⟨rfl, r, t, rfl, Er8, Ff8, Ft8, T.keepX K12 Er7 (by decide) (hw _ (List.mem_of_getElem? (i := 67) rfl))⟩
    · exact absurd q3 (by decide)
  · have hbig : ∃ c ∈ ds, 256 ≤ c.toInt := Classical.byContradiction fun hn => hL fun c hc => Classical.byContradiction fun q => hn ⟨c, hc, by omega⟩
    refine Con.of (a0 := a0) (by first | (exact plainFor_of_name (by first | (simp [plainName, overriddenIn]; done) | decide +kernel)) | decide +kernel) (hEL hw) hWE O (L0 := #[.val (.ref a)]) (fun m => by first | rfl | (simp [entryFrame, mkF, argsToLocals, Value.category]; done)) ?_
    intro K C hh
    have hl := F.2.2.1
    have hln : (ds ++ [(47 : Int32)]).length = ds.length + 1 := by simp
    have hcd : ∀ c ∈ ds, isCh c := fun c hc => F.2.1 c (List.mem_append_left _ hc)
    refine Own.aloadN C d7_0 rfl rfl ?_
    refine ldcS_ rfl C (text := "/") (vs := [.int 47]) (z := 1) (nn := 4) (hw _ (List.mem_of_getElem? (i := 39) rfl)) (wS hw) (by simp) ⟨by decide +kernel, by decide +kernel⟩ (by decide) (by decide) (by decide +kernel) (by decide) (dle rfl) (dle rfl) d7_1 (fun hp1 s1 b1 K1 E1 C1 V1 A1 ne1 => ?_)
    have G : Str Z hp1 s1 [47] := ⟨E1, by simp only [List.mem_singleton]; rintro _ rfl; exact ⟨by decide, by decide⟩, by simp, b1, 0, lat [47], V1, C1, by rw [el47]; exact A1, Or.inl ⟨by simp only [List.mem_singleton]; rintro _ rfl; decide, rfl, rfl⟩⟩
    have Fx1 := F.keep K1
    refine callV_ C (as' := [(.ref s1)]) (st := []) (hw _ (List.mem_of_getElem? (i := 42) rfl)) (hw _ (List.mem_of_getElem? (i := 43) rfl)) (fun _ hZ => notFace_of_selects (args := #[]) (mvT hZ (hw _ (List.mem_of_getElem? (i := 45) rfl)))) (hw _ (List.mem_of_getElem? (i := 45) rfl)) (hw _ (List.mem_of_getElem? (i := 44) rfl)) (hw _ (List.mem_of_getElem? (i := 7) rfl)) (hw _ (List.mem_of_getElem? (i := 46) rfl)) ⟨by decide, by decide⟩ Fx1.1 pd__28Ljava_2flang_2fString_3b_29Z rfl (fun O => k_endsWith hw hs Fx1 G O) (fun _ q => nomatch q) rfl (dle rfl) (dle rfl) (dle rfl) (dle rfl) d7_3 rfl (fun v2 hp2 gs2 K2 Q2 => ?_)
    obtain ⟨rfl, rfl⟩ := Q2
    show Go _ K Z _ n0 _ _ 6 #[.val (.ref a)] [(.int (1 : Int32))] hp2 _ _ _
    have Fx2 := Fx1.keep K2
    refine if_ne C d7_6 (fun q3 => ?_) (fun q3 => ?_)
    · refine new_ C (hw _ (List.mem_of_getElem? (i := 66) rfl)) (hw _ (List.mem_of_getElem? (i := 67) rfl)) (hw _ (List.mem_of_getElem? (i := 37) rfl)) (dle rfl) (dle rfl) d7_41 (fun hp4 K4 lt4 le4 ⟨E4, F4⟩ => ?_)
      obtain ⟨r, g4⟩ : ∃ z, z = hp2.size := ⟨_, rfl⟩
      rw [← g4] at E4 F4 lt4 le4 ⊢
      have Ff := F4 (Or.inr (hw _ (List.mem_of_getElem? (i := 216) rfl)) : Laid Z a0 "com/example/kolejka/kolejka/Dialect$KeyRange" "com/example/kolejka/kolejka/Dialect$KeyRange" "from" "Ljava/lang/String;") (ty := .object "java/lang/String") (by decide)
      have Ft := F4 (Or.inr (hw _ (List.mem_of_getElem? (i := 218) rfl)) : Laid Z a0 "com/example/kolejka/kolejka/Dialect$KeyRange" "com/example/kolejka/kolejka/Dialect$KeyRange" "to" "Ljava/lang/String;") (ty := .object "java/lang/String") (by decide)
      have Fx3 := Fx2.keep K4
      refine Own.dup C d7_44 rfl ?_
      refine Own.aloadN C d7_45 rfl rfl ?_
      refine new_ C (hw _ (List.mem_of_getElem? (i := 68) rfl)) (hw _ (List.mem_of_getElem? (i := 69) rfl)) (hw _ (List.mem_of_getElem? (i := 70) rfl)) (dle rfl) (dle rfl) d7_46 (fun hp5 K5 lt5 le5 ⟨E5, F5⟩ => ?_)
      obtain ⟨sb, g5⟩ : ∃ z, z = hp4.size := ⟨_, rfl⟩
      rw [← g5] at E5 F5 lt5 le5 ⊢
      have Fv := F5 (Or.inl (hw _ (List.mem_of_getElem? (i := 83) rfl)) : Laid Z a0 "java/lang/StringBuilder" "java/lang/AbstractStringBuilder" "value" "[B") (ty := .array .byte) (by decide)
      have Fc := F5 (Or.inl (hw _ (List.mem_of_getElem? (i := 85) rfl)) : Laid Z a0 "java/lang/StringBuilder" "java/lang/AbstractStringBuilder" "coder" "B") (ty := .byte) (by decide)
      have Fn := F5 (Or.inl (hw _ (List.mem_of_getElem? (i := 122) rfl)) : Laid Z a0 "java/lang/StringBuilder" "java/lang/AbstractStringBuilder" "count" "I") (ty := .int) (by decide)
      have Fm := F5 (Or.inl (hw _ (List.mem_of_getElem? (i := 314) rfl)) : Laid Z a0 "java/lang/StringBuilder" "java/lang/AbstractStringBuilder" "maybeLatin1" "Z") (ty := .boolean) (by decide)
      have Fx4 := Fx3.keep K5
      have Er2 := E4.keep K5
      have Ff2 := Ff.keep K5 nin0
      have Ft2 := Ft.keep K5 nin0
      refine Own.dup C d7_49 rfl ?_
      have nrs : r ∉ [sb] := ninS (ne_exa Er2 E5 (by decide)) nin0
      refine callI_ C (as' := []) (st := [(.ref sb), (.ref a), (.ref r), (.ref r)]) rfl (hw _ (List.mem_of_getElem? (i := 71) rfl)) (hw _ (List.mem_of_getElem? (i := 72) rfl)) (hw _ (List.mem_of_getElem? (i := 70) rfl)) (hw _ (List.mem_of_getElem? (i := 73) rfl)) ⟨by decide, by decide⟩ pd__28_29V rfl (fun O => k_sb hw hs E5 Fv Fc Fn Fm O) (by simp) rfl (dle rfl) (dle rfl) (dle rfl) (dle rfl) d7_50 rfl (fun v6 hp6 gs6 K6 Q6 => ?_)
      obtain ⟨rfl, b, rfl, S, Mb⟩ := Q6
      show Go _ K Z _ n0 _ _ 53 #[.val (.ref a)] [(.ref sb), (.ref a), (.ref r), (.ref r)] hp6 _ _ _
      have Fx5 := Fx4.keepX K6 E5 (by decide) (hw _ (List.mem_of_getElem? (i := 69) rfl))
      have Er3 := Er2.keep K6
      have Ff3 := Ff2.keep K6 nrs
      have Ft3 := Ft2.keep K6 nrs
      refine Own.aloadN C d7_53 rfl rfl ?_
      refine Own.iconst (v := 0) C d7_54 rfl ?_
      refine Own.aloadN C d7_55 rfl rfl ?_
      refine callV_ C (as' := []) (st := [(.int (0 : Int32)), (.ref a), (.ref sb), (.ref a), (.ref r), (.ref r)]) (hw _ (List.mem_of_getElem? (i := 86) rfl)) (hw _ (List.mem_of_getElem? (i := 48) rfl)) (fun _ hZ => notFace_of_selects (args := #[]) (mvT hZ (hw _ (List.mem_of_getElem? (i := 50) rfl)))) (hw _ (List.mem_of_getElem? (i := 50) rfl)) (hw _ (List.mem_of_getElem? (i := 49) rfl)) (hw _ (List.mem_of_getElem? (i := 7) rfl)) (hw _ (List.mem_of_getElem? (i := 51) rfl)) ⟨by decide, by decide⟩ Fx5.1 pd__28_29I rfl (fun O => k_length hw hs Fx5 O) (fun _ q => nomatch q) rfl (dle rfl) (dle rfl) (dle rfl) (dle rfl) d7_56 rfl (fun v7 hp7 gs7 K7 Q7 => ?_)
      obtain ⟨rfl, rfl⟩ := Q7
      show Go _ K Z _ n0 _ _ 59 #[.val (.ref a)] [(.int (natI (ds ++ [47]).length)), (.int (0 : Int32)), (.ref a), (.ref sb), (.ref a), (.ref r), (.ref r)] hp7 _ _ _
      have Fx6 := Fx5.keep K7
      refine Own.iconst (v := 1) C d7_59 rfl ?_
      refine Own.isub C d7_60 ?_
      rw [show natI (ds ++ [(47 : Int32)]).length - 1 = natI ds.length from by rw [hln, show (1 : Int32) = natI 1 from rfl, natI_sub (by omega) (by omega), Nat.add_sub_cancel]]
      show Go _ K Z _ n0 _ _ 61 #[.val (.ref a)] [(.int (natI ds.length)), (.int (0 : Int32)), (.ref a), (.ref sb), (.ref a), (.ref r), (.ref r)] hp7 _ _ _
      refine callV_ C (as' := [(.int (0 : Int32)), (.int (natI ds.length))]) (st := [(.ref sb), (.ref a), (.ref r), (.ref r)]) (hw _ (List.mem_of_getElem? (i := 87) rfl)) (hw _ (List.mem_of_getElem? (i := 88) rfl)) (fun _ hZ => notFace_of_selects (args := #[]) (mvT hZ (hw _ (List.mem_of_getElem? (i := 90) rfl)))) (hw _ (List.mem_of_getElem? (i := 90) rfl)) (hw _ (List.mem_of_getElem? (i := 89) rfl)) (hw _ (List.mem_of_getElem? (i := 7) rfl)) (hw _ (List.mem_of_getElem? (i := 91) rfl)) ⟨by decide, by decide⟩ Fx6.1 pd__28II_29Ljava_2flang_2fString_3b rfl (fun O => k_sub0 hw hs Fx6 hsm O) (fun _ q => nomatch q) rfl (dle rfl) (dle rfl) (dle rfl) (dle rfl) d7_61 rfl (fun v8 hp8 gs8 K8 Q8 => ?_)
      obtain ⟨rfl, s2, rfl, D⟩ := Q8
      show Go _ K Z _ n0 _ _ 64 #[.val (.ref a)] [(.ref s2), (.ref sb), (.ref a), (.ref r), (.ref r)] hp8 _ _ _
      have K0 := K7.trans K8 (fun _ q => nomatch q)
      have Sx1 := S.keep K0 nin0 nin0
      have Mx1 := Mb.keep K0 nin0
      have Er4 := Er3.keep K0
      have Ff4 := Ff3.keep K0 nin0
      have Ft4 := Ft3.keep K0 nin0
      have nr4 : r ∉ [sb, b] := ninS (ne_exa Er4 Sx1.1 (by decide)) (ninS (by obtain ⟨q, Bq, -⟩ := Sx1.2.2.2.2.1; exact (Bq.1.neX Er4 (hw _ (List.mem_of_getElem? (i := 67) rfl))).symm) nin0)
      have nrs4 : r ∉ [sb] := ninS (ne_exa Er4 Sx1.1 (by decide)) nin0
      refine callV_ C (as' := [(.ref s2)]) (st := [(.ref a), (.ref r), (.ref r)]) (hw _ (List.mem_of_getElem? (i := 110) rfl)) (hw _ (List.mem_of_getElem? (i := 111) rfl)) (fun _ hZ => notFace_of_selects (args := #[]) (mvT hZ (hw _ (List.mem_of_getElem? (i := 113) rfl)))) (hw _ (List.mem_of_getElem? (i := 113) rfl)) (hw _ (List.mem_of_getElem? (i := 112) rfl)) (hw _ (List.mem_of_getElem? (i := 70) rfl)) (hw _ (List.mem_of_getElem? (i := 114) rfl)) ⟨by decide, by decide⟩ Sx1.1 pd__28Ljava_2flang_2fString_3b_29Ljava_2flang_2fStringBuilder_3b rfl (fun O => k_appendU hw hs Sx1 Mx1 D hbig hsm O) (by simp) rfl (dle rfl) (dle rfl) (dle rfl) (dle rfl) d7_64 rfl (fun v9 hp9 gs9 K9 Q9 => ?_)
      obtain ⟨rfl, b', rfl, Sx2⟩ := Q9
      show Go _ K Z _ n0 _ _ 67 #[.val (.ref a)] [(.ref sb), (.ref a), (.ref r), (.ref r)] hp9 _ _ _
      have Er5 := Er4.keep K9
      have Ff5 := Ff4.keep K9 nrs4
      have Ft5 := Ft4.keep K9 nrs4
      have nr5 : r ∉ [sb, b'] := ninS (ne_exa Er5 Sx2.1 (by decide)) (ninS (by obtain ⟨q, Bq, -⟩ := Sx2.2.2.2.2.2.1; exact (Bq.neX Er5 (hw _ (List.mem_of_getElem? (i := 67) rfl))).symm) nin0)
      refine Own.bipush (v := 48) C d7_67 rfl ?_
      refine callV_ C (as' := [(.int (48 : Int32))]) (st := [(.ref a), (.ref r), (.ref r)]) (hw _ (List.mem_of_getElem? (i := 148) rfl)) (hw _ (List.mem_of_getElem? (i := 149) rfl)) (fun _ hZ => notFace_of_selects (args := #[]) (mvT hZ (hw _ (List.mem_of_getElem? (i := 151) rfl)))) (hw _ (List.mem_of_getElem? (i := 151) rfl)) (hw _ (List.mem_of_getElem? (i := 150) rfl)) (hw _ (List.mem_of_getElem? (i := 70) rfl)) (hw _ (List.mem_of_getElem? (i := 152) rfl)) ⟨by decide, by decide⟩ Sx2.1 pd__28C_29Ljava_2flang_2fStringBuilder_3b rfl (fun O => k_appendCU hw hs Sx2 (by omega) O) (by simp) rfl (dle rfl) (dle rfl) (dle rfl) (dle rfl) d7_69 rfl (fun v10 hp10 gs10 K10 Q10 => ?_)
      obtain ⟨rfl, rfl, Sx3⟩ := Q10
      show Go _ K Z _ n0 _ _ 72 #[.val (.ref a)] [(.ref sb), (.ref a), (.ref r), (.ref r)] hp10 _ _ _
      have Er6 := Er5.keep K10
      have Ff6 := Ff5.keep K10 nr5
      have Ft6 := Ft5.keep K10 nr5
      have hl48 : (ds ++ [(48 : Int32)]).length = ds.length + 1 := by simp
      refine callV_ C (as' := []) (st := [(.ref a), (.ref r), (.ref r)]) (hw _ (List.mem_of_getElem? (i := 165) rfl)) (hw _ (List.mem_of_getElem? (i := 166) rfl)) (fun _ hZ => notFace_of_selects (args := #[]) (mvT hZ (hw _ (List.mem_of_getElem? (i := 168) rfl)))) (hw _ (List.mem_of_getElem? (i := 168) rfl)) (hw _ (List.mem_of_getElem? (i := 167) rfl)) (hw _ (List.mem_of_getElem? (i := 70) rfl)) (hw _ (List.mem_of_getElem? (i := 169) rfl)) ⟨by decide, by decide⟩ Sx3.1 pd__28_29Ljava_2flang_2fString_3b rfl (fun O => k_toStringU (N := 8) hw hs Sx3 (by obtain ⟨c, hc, hg⟩ := hbig; exact ⟨c, List.mem_append_left _ hc, hg⟩) ⟨by omega, by decide⟩ (by omega) O) (fun _ q => nomatch q) rfl (dle rfl) (dle rfl) (dle rfl) (dle rfl) d7_72 rfl (fun v11 hp11 gs11 K11 Q11 => ?_)
      obtain ⟨rfl, t, rfl, T⟩ := Q11
      show Go _ K Z _ n0 _ _ 75 #[.val (.ref a)] [(.ref t), (.ref a), (.ref r), (.ref r)] hp11 _ _ _
      have Er7 := Er6.keep K11
      have Ff7 := Ff6.keep K11 nin0
      have Ft7 := Ft6.keep K11 nin0
      refine callI_ C (as' := [(.ref a), (.ref t)]) (st := [(.ref r)]) rfl (hw _ (List.mem_of_getElem? (i := 206) rfl)) (hw _ (List.mem_of_getElem? (i := 207) rfl)) (hw _ (List.mem_of_getElem? (i := 37) rfl)) (hw _ (List.mem_of_getElem? (i := 208) rfl)) ⟨by decide, by decide⟩ pd__28Ljava_2flang_2fString_3bLjava_2flang_2fString_3b_29V rfl (fun O => k_krinit hw hs Er7 Ff7 Ft7 O) (by simp) rfl (dle rfl) (dle rfl) (dle rfl) (dle rfl) d7_75 rfl (fun v12 hp12 gs12 K12 Q12 => ?_)
      obtain ⟨rfl, rfl, Er8, Ff8, Ft8⟩ := Q12
      show Go _ K Z _ n0 _ _ 78 #[.val (.ref a)] [(.ref r)] hp12 _ _ _
      exact retA C (gs := []) rfl rfl d7_78 (dle rfl) (dle rfl) (fun _ q => nomatch q) ⟨rfl, r, t, rfl, Er8, Ff8, Ft8, T.keepX K12 Er7 (by decide) (hw _ (List.mem_of_getElem? (i := 67) rfl))⟩
    · exact absurd q3 (by decide)
def dsr (n c0 c1 c2 : Int32) : List Int32 := if n = 0 then [] else if n = 1 then [c0] else if n = 2 then [c0, c1] else [c0, c1, c2]
theorem dsr_len (n c0 c1 c2 : Int32) : (dsr n c0 c1 c2).length < 5 := by
  unfold dsr; split; decide; split; exact (by decide : 1 < 5); split; exact (by decide : 2 < 5); exact (by decide : 3 < 5)
set_option maxRecDepth 65536 in
set_option maxHeartbeats 4000000 in
theorem k_make {Z : State} {a0 : Array Value} (hw : ∀ d ∈ tables_1, d.before a0 Z = true) (hs : Stt Z) {n0 : Nat} {h0 : Heap} {n c0 c1 c2 e : Int32} (hch0 : isCh c0) (hch1 : isCh c1) (hch2 : isCh c2) (he : isCh e) (O : Old Z n0 h0) :
    Con WD Z EL0 n0 (⟨"com/example/kolejka/kolejka/KeyRangeStartingWithPinLaw", "make", "(ICCCC)Ljava/lang/String;"⟩ : MethodName) method_3_code 5 (some (.object "java/lang/String")) (Rm 6 4 20 88) [(.int n), (.int c0), (.int c1), (.int c2), (.int e)] h0 [] (fun v h gs => gs = [] ∧ ∃ a : Addr, v = some (.ref a) ∧ Str Z h a (dsr n c0 c1 c2 ++ [e])) := by
  refine Con.of (a0 := a0) (by first | (exact plainFor_of_name (by first | (simp [plainName, overriddenIn]; done) | decide +kernel)) | decide +kernel) (hEL hw) hWE O (L0 := #[.val (.int n), .val (.int c0), .val (.int c1), .val (.int c2), .val (.int e)]) (fun m => by first | rfl | (simp [entryFrame, mkF, argsToLocals, Value.category]; done)) ?_
  intro K C hh
  refine Own.iloadN C d0_0 rfl ?_
  refine if_ne C d0_1 (fun q1 => ?_) (fun q1 => ?_)
  · refine Own.iloadN C d0_20 rfl ?_
    refine Own.iconst (v := 1) C d0_21 rfl ?_
    refine icmp_ne C d0_22 (fun q2 => ?_) (fun q2 => ?_)
    · refine Own.iloadN C d0_45 rfl ?_
      refine Own.iconst (v := 2) C d0_46 rfl ?_
      refine icmp_ne C d0_47 (fun q3 => ?_) (fun q3 => ?_)
      · refine new_ C (hw _ (List.mem_of_getElem? (i := 5) rfl)) (hw _ (List.mem_of_getElem? (i := 6) rfl)) (hw _ (List.mem_of_getElem? (i := 7) rfl)) (dle rfl) (dle rfl) d0_74 (fun hp4 K4 lt4 le4 ⟨E4, F4⟩ => ?_)
        obtain ⟨a, g4⟩ : ∃ z, z = h0.size := ⟨_, rfl⟩
        rw [← g4] at E4 F4 lt4 le4 ⊢
        have Fv := F4 (Or.inr (hw _ (List.mem_of_getElem? (i := 34) rfl)) : Laid Z a0 "java/lang/String" "java/lang/String" "value" "[B") (ty := .array .byte) (by decide)
        have Fc := F4 (Or.inr (hw _ (List.mem_of_getElem? (i := 32) rfl)) : Laid Z a0 "java/lang/String" "java/lang/String" "coder" "B") (ty := .byte) (by decide)
        refine Own.dup C d0_77 rfl ?_
        refine Own.iconst (v := 4) C d0_78 rfl ?_
        refine newarr C (hw _ (List.mem_of_getElem? (i := 8) rfl)) (by decide) 4 (by decide) (by decide) (dle rfl) (dle rfl) d0_79 (fun hp5 K5 lt5 le5 A5 => ?_)
        obtain ⟨b0, g5⟩ : ∃ z, z = hp4.size := ⟨_, rfl⟩
        rw [← g5] at A5 lt5 le5 ⊢
        refine Own.dup C d0_81 rfl ?_
        refine Own.iconst (v := 0) C d0_82 rfl ?_
        refine Own.iloadN C d0_83 rfl ?_
        refine castore_ C A5 0 (by decide) (dlt rfl) (by simp) d0_84 (fun hp6 W6 A6 => ?_)
        refine Own.dup C d0_85 rfl ?_
        refine Own.iconst (v := 1) C d0_86 rfl ?_
        refine Own.iloadN C d0_87 rfl ?_
        refine castore_ C A6 1 (by decide) (dlt rfl) (by simp) d0_88 (fun hp7 W7 A7 => ?_)
        refine Own.dup C d0_89 rfl ?_
        refine Own.iconst (v := 2) C d0_90 rfl ?_
        refine Own.iloadN C d0_91 rfl ?_
        refine castore_ C A7 2 (by decide) (dlt rfl) (by simp) d0_92 (fun hp8 W8 A8 => ?_)
        refine Own.dup C d0_93 rfl ?_
        refine Own.iconst (v := 3) C d0_94 rfl ?_
        refine Own.iload C d0_95 rfl ?_
        refine castore_ C A8 3 (by decide) (dlt rfl) (by simp) d0_97 (fun hp9 W9 A9 => ?_)
        have hne : a ≠ b0 := by rw [g5]; exact Nat.ne_of_lt lt4
        have KA : Keep hp4 hp9 [b0] := ((((((Keep.refl _ [b0]).trans K5 (fun _ q => nomatch q)).trans (Keep.of_wr W6) (fun x hx => Or.inl hx)).trans (Keep.of_wr W7) (fun x hx => Or.inl hx)).trans (Keep.of_wr W8) (fun x hx => Or.inl hx)).trans (Keep.of_wr W9) (fun x hx => Or.inl hx))
        have A : Ary Z hp9 b0 .char (chs [c0, c1, c2, e]) := by have q := A9; simp only [narc_id (hch0), narc_id (hch1), narc_id (hch2), narc_id (he)] at q; exact q
        refine callI_ C (as' := [(.ref b0)]) (st := [(.ref a)]) rfl (hw _ (List.mem_of_getElem? (i := 9) rfl)) (hw _ (List.mem_of_getElem? (i := 10) rfl)) (hw _ (List.mem_of_getElem? (i := 7) rfl)) (hw _ (List.mem_of_getElem? (i := 11) rfl)) ⟨by decide, by decide⟩ pd__28_5bC_29V rfl (fun O => k_init (N := 4) hw hs (by simp; exact ⟨hch0, hch1, hch2, he⟩) (dle rfl) ⟨dle rfl, by decide⟩ (by simp) A (E4.keep KA) (Fv.keep KA (ninS hne nin0)) (Fc.keep KA (ninS hne nin0)) O) (by simp) rfl (dle rfl) (dle rfl) (dle rfl) (dle rfl) d0_98 rfl (fun v10 hp10 gs10 K10 Q10 => ?_)
        obtain ⟨rfl, rfl, S10⟩ := Q10
        show Go _ K Z _ n0 _ _ 101 #[.val (.int n), .val (.int c0), .val (.int c1), .val (.int c2), .val (.int e)] [(.ref a)] hp10 _ _ _
        exact retA C (gs := []) rfl rfl d0_101 (dle rfl) (dle rfl) (fun _ q => nomatch q) ⟨rfl, a, rfl, by simp only [dsr, if_neg q1, if_neg q2, if_neg q3]; exact S10⟩
      · refine new_ C (hw _ (List.mem_of_getElem? (i := 5) rfl)) (hw _ (List.mem_of_getElem? (i := 6) rfl)) (hw _ (List.mem_of_getElem? (i := 7) rfl)) (dle rfl) (dle rfl) d0_50 (fun hp11 K11 lt11 le11 ⟨E11, F11⟩ => ?_)
        obtain ⟨a, g11⟩ : ∃ z, z = h0.size := ⟨_, rfl⟩
        rw [← g11] at E11 F11 lt11 le11 ⊢
        have Fv := F11 (Or.inr (hw _ (List.mem_of_getElem? (i := 34) rfl)) : Laid Z a0 "java/lang/String" "java/lang/String" "value" "[B") (ty := .array .byte) (by decide)
        have Fc := F11 (Or.inr (hw _ (List.mem_of_getElem? (i := 32) rfl)) : Laid Z a0 "java/lang/String" "java/lang/String" "coder" "B") (ty := .byte) (by decide)
        refine Own.dup C d0_53 rfl ?_
        refine Own.iconst (v := 3) C d0_54 rfl ?_
        refine newarr C (hw _ (List.mem_of_getElem? (i := 8) rfl)) (by decide) 3 (by decide) (by decide) (dle rfl) (dle rfl) d0_55 (fun hp12 K12 lt12 le12 A12 => ?_)
        obtain ⟨b0, g12⟩ : ∃ z, z = hp11.size := ⟨_, rfl⟩
        rw [← g12] at A12 lt12 le12 ⊢
        refine Own.dup C d0_57 rfl ?_
        refine Own.iconst (v := 0) C d0_58 rfl ?_
        refine Own.iloadN C d0_59 rfl ?_
        refine castore_ C A12 0 (by decide) (dlt rfl) (by simp) d0_60 (fun hp13 W13 A13 => ?_)
        refine Own.dup C d0_61 rfl ?_
        refine Own.iconst (v := 1) C d0_62 rfl ?_
        refine Own.iloadN C d0_63 rfl ?_
        refine castore_ C A13 1 (by decide) (dlt rfl) (by simp) d0_64 (fun hp14 W14 A14 => ?_)
        refine Own.dup C d0_65 rfl ?_
        refine Own.iconst (v := 2) C d0_66 rfl ?_
        refine Own.iload C d0_67 rfl ?_
        refine castore_ C A14 2 (by decide) (dlt rfl) (by simp) d0_69 (fun hp15 W15 A15 => ?_)
        have hne : a ≠ b0 := by rw [g12]; exact Nat.ne_of_lt lt11
        have KA : Keep hp11 hp15 [b0] := (((((Keep.refl _ [b0]).trans K12 (fun _ q => nomatch q)).trans (Keep.of_wr W13) (fun x hx => Or.inl hx)).trans (Keep.of_wr W14) (fun x hx => Or.inl hx)).trans (Keep.of_wr W15) (fun x hx => Or.inl hx))
        have A : Ary Z hp15 b0 .char (chs [c0, c1, e]) := by have q := A15; simp only [narc_id (hch0), narc_id (hch1), narc_id (he)] at q; exact q
        refine callI_ C (as' := [(.ref b0)]) (st := [(.ref a)]) rfl (hw _ (List.mem_of_getElem? (i := 9) rfl)) (hw _ (List.mem_of_getElem? (i := 10) rfl)) (hw _ (List.mem_of_getElem? (i := 7) rfl)) (hw _ (List.mem_of_getElem? (i := 11) rfl)) ⟨by decide, by decide⟩ pd__28_5bC_29V rfl (fun O => k_init (N := 4) hw hs (by simp; exact ⟨hch0, hch1, he⟩) (dle rfl) ⟨dle rfl, by decide⟩ (by simp) A (E11.keep KA) (Fv.keep KA (ninS hne nin0)) (Fc.keep KA (ninS hne nin0)) O) (by simp) rfl (dle rfl) (dle rfl) (dle rfl) (dle rfl) d0_70 rfl (fun v16 hp16 gs16 K16 Q16 => ?_)
        obtain ⟨rfl, rfl, S16⟩ := Q16
        show Go _ K Z _ n0 _ _ 73 #[.val (.int n), .val (.int c0), .val (.int c1), .val (.int c2), .val (.int e)] [(.ref a)] hp16 _ _ _
        exact retA C (gs := []) rfl rfl d0_73 (dle rfl) (dle rfl) (fun _ q => nomatch q) ⟨rfl, a, rfl, by simp only [dsr, if_neg q1, if_neg q2, if_pos q3]; exact S16⟩
    · refine new_ C (hw _ (List.mem_of_getElem? (i := 5) rfl)) (hw _ (List.mem_of_getElem? (i := 6) rfl)) (hw _ (List.mem_of_getElem? (i := 7) rfl)) (dle rfl) (dle rfl) d0_25 (fun hp17 K17 lt17 le17 ⟨E17, F17⟩ => ?_)
      obtain ⟨a, g17⟩ : ∃ z, z = h0.size := ⟨_, rfl⟩
      rw [← g17] at E17 F17 lt17 le17 ⊢
      have Fv := F17 (Or.inr (hw _ (List.mem_of_getElem? (i := 34) rfl)) : Laid Z a0 "java/lang/String" "java/lang/String" "value" "[B") (ty := .array .byte) (by decide)
      have Fc := F17 (Or.inr (hw _ (List.mem_of_getElem? (i := 32) rfl)) : Laid Z a0 "java/lang/String" "java/lang/String" "coder" "B") (ty := .byte) (by decide)
      refine Own.dup C d0_28 rfl ?_
      refine Own.iconst (v := 2) C d0_29 rfl ?_
      refine newarr C (hw _ (List.mem_of_getElem? (i := 8) rfl)) (by decide) 2 (by decide) (by decide) (dle rfl) (dle rfl) d0_30 (fun hp18 K18 lt18 le18 A18 => ?_)
      obtain ⟨b0, g18⟩ : ∃ z, z = hp17.size := ⟨_, rfl⟩
      rw [← g18] at A18 lt18 le18 ⊢
      refine Own.dup C d0_32 rfl ?_
      refine Own.iconst (v := 0) C d0_33 rfl ?_
      refine Own.iloadN C d0_34 rfl ?_
      refine castore_ C A18 0 (by decide) (dlt rfl) (by simp) d0_35 (fun hp19 W19 A19 => ?_)
      refine Own.dup C d0_36 rfl ?_
      refine Own.iconst (v := 1) C d0_37 rfl ?_
      refine Own.iload C d0_38 rfl ?_
      refine castore_ C A19 1 (by decide) (dlt rfl) (by simp) d0_40 (fun hp20 W20 A20 => ?_)
      have hne : a ≠ b0 := by rw [g18]; exact Nat.ne_of_lt lt17
      have KA : Keep hp17 hp20 [b0] := ((((Keep.refl _ [b0]).trans K18 (fun _ q => nomatch q)).trans (Keep.of_wr W19) (fun x hx => Or.inl hx)).trans (Keep.of_wr W20) (fun x hx => Or.inl hx))
      have A : Ary Z hp20 b0 .char (chs [c0, e]) := by have q := A20; simp only [narc_id (hch0), narc_id (he)] at q; exact q
      refine callI_ C (as' := [(.ref b0)]) (st := [(.ref a)]) rfl (hw _ (List.mem_of_getElem? (i := 9) rfl)) (hw _ (List.mem_of_getElem? (i := 10) rfl)) (hw _ (List.mem_of_getElem? (i := 7) rfl)) (hw _ (List.mem_of_getElem? (i := 11) rfl)) ⟨by decide, by decide⟩ pd__28_5bC_29V rfl (fun O => k_init (N := 4) hw hs (by simp; exact ⟨hch0, he⟩) (dle rfl) ⟨dle rfl, by decide⟩ (by simp) A (E17.keep KA) (Fv.keep KA (ninS hne nin0)) (Fc.keep KA (ninS hne nin0)) O) (by simp) rfl (dle rfl) (dle rfl) (dle rfl) (dle rfl) d0_41 rfl (fun v21 hp21 gs21 K21 Q21 => ?_)
      obtain ⟨rfl, rfl, S21⟩ := Q21
      show Go _ K Z _ n0 _ _ 44 #[.val (.int n), .val (.int c0), .val (.int c1), .val (.int c2), .val (.int e)] [(.ref a)] hp21 _ _ _
      exact retA C (gs := []) rfl rfl d0_44 (dle rfl) (dle rfl) (fun _ q => nomatch q) ⟨rfl, a, rfl, by simp only [dsr, if_neg q1, if_pos q2]; exact S21⟩
  · refine new_ C (hw _ (List.mem_of_getElem? (i := 5) rfl)) (hw _ (List.mem_of_getElem? (i := 6) rfl)) (hw _ (List.mem_of_getElem? (i := 7) rfl)) (dle rfl) (dle rfl) d0_4 (fun hp22 K22 lt22 le22 ⟨E22, F22⟩ => ?_)
    obtain ⟨a, g22⟩ : ∃ z, z = h0.size := ⟨_, rfl⟩
    rw [← g22] at E22 F22 lt22 le22 ⊢
    have Fv := F22 (Or.inr (hw _ (List.mem_of_getElem? (i := 34) rfl)) : Laid Z a0 "java/lang/String" "java/lang/String" "value" "[B") (ty := .array .byte) (by decide)
    have Fc := F22 (Or.inr (hw _ (List.mem_of_getElem? (i := 32) rfl)) : Laid Z a0 "java/lang/String" "java/lang/String" "coder" "B") (ty := .byte) (by decide)
    refine Own.dup C d0_7 rfl ?_
    refine Own.iconst (v := 1) C d0_8 rfl ?_
    refine newarr C (hw _ (List.mem_of_getElem? (i := 8) rfl)) (by decide) 1 (by decide) (by decide) (dle rfl) (dle rfl) d0_9 (fun hp23 K23 lt23 le23 A23 => ?_)
    obtain ⟨b0, g23⟩ : ∃ z, z = hp22.size := ⟨_, rfl⟩
    rw [← g23] at A23 lt23 le23 ⊢
    refine Own.dup C d0_11 rfl ?_
    refine Own.iconst (v := 0) C d0_12 rfl ?_
    refine Own.iload C d0_13 rfl ?_
    refine castore_ C A23 0 (by decide) (dlt rfl) (by simp) d0_15 (fun hp24 W24 A24 => ?_)
    have hne : a ≠ b0 := by rw [g23]; exact Nat.ne_of_lt lt22
    have KA : Keep hp22 hp24 [b0] := (((Keep.refl _ [b0]).trans K23 (fun _ q => nomatch q)).trans (Keep.of_wr W24) (fun x hx => Or.inl hx))
    have A : Ary Z hp24 b0 .char (chs [e]) := by have q := A24; simp only [narc_id (he)] at q; exact q
    refine callI_ C (as' := [(.ref b0)]) (st := [(.ref a)]) rfl (hw _ (List.mem_of_getElem? (i := 9) rfl)) (hw _ (List.mem_of_getElem? (i := 10) rfl)) (hw _ (List.mem_of_getElem? (i := 7) rfl)) (hw _ (List.mem_of_getElem? (i := 11) rfl)) ⟨by decide, by decide⟩ pd__28_5bC_29V rfl (fun O => k_init (N := 4) hw hs (by simp; exact he) (dle rfl) ⟨dle rfl, by decide⟩ (by simp) A (E22.keep KA) (Fv.keep KA (ninS hne nin0)) (Fc.keep KA (ninS hne nin0)) O) (by simp) rfl (dle rfl) (dle rfl) (dle rfl) (dle rfl) d0_16 rfl (fun v25 hp25 gs25 K25 Q25 => ?_)
    obtain ⟨rfl, rfl, S25⟩ := Q25
    show Go _ K Z _ n0 _ _ 19 #[.val (.int n), .val (.int c0), .val (.int c1), .val (.int c2), .val (.int e)] [(.ref a)] hp25 _ _ _
    exact retA C (gs := []) rfl rfl d0_19 (dle rfl) (dle rfl) (fun _ q => nomatch q) ⟨rfl, a, rfl, by simp only [dsr, if_pos q1]; exact S25⟩
set_option maxRecDepth 65536 in
set_option maxHeartbeats 4000000 in
theorem k_law {Z : State} {a0 : Array Value} (hw : ∀ d ∈ tables_1, d.before a0 Z = true) (hs : Stt Z) {n0 : Nat} {h0 : Heap} {m b c d : Int32} (O : Old Z n0 h0) :
    Con WD Z EL0 n0 (⟨"com/example/kolejka/kolejka/KeyRangeStartingWithPinLaw", "law", "(IIII)Z"⟩ : MethodName) code 11 (some .boolean) (Rm 14 48 2368 288) [(.int m), (.int b), (.int c), (.int d)] h0 [] (fun v h gs => v = some (.int 1)) := by
  refine Con.of (a0 := a0) (by first | (exact plainFor_of_name (by first | (simp [plainName, overriddenIn]; done) | decide +kernel)) | decide +kernel) (hEL hw) hWE O (L0 := #[.val (.int m), .val (.int b), .val (.int c), .val (.int d), .unset, .unset, .unset, .unset, .unset, .unset, .unset]) (fun m => by first | rfl | (simp [entryFrame, mkF, argsToLocals, Value.category]; done)) ?_
  intro K C hh
  have hz0 := narc_ch (b &&& 65535)
  have hz1 := narc_ch (c &&& 65535)
  have hz2 := narc_ch (d &&& 65535)
  refine Own.iloadN C d66_0 rfl ?_
  refine Own.iconst (v := 3) C d66_1 rfl ?_
  refine Own.iand C d66_2 ?_
  refine Own.istore (L' := #[.val (.int m), .val (.int b), .val (.int c), .val (.int d), .val (.int (m &&& (3 : Int32))), .unset, .unset, .unset, .unset, .unset, .unset]) C d66_3 rfl ?_
  refine Own.iloadN C d66_5 rfl ?_
  refine Own.ldcI C (hw _ (List.mem_of_getElem? (i := 0) rfl)) d66_6 ?_
  refine Own.iand C d66_8 ?_
  refine Own.i2c C d66_9 ?_
  refine Own.istore (L' := #[.val (.int m), .val (.int b), .val (.int c), .val (.int d), .val (.int (m &&& (3 : Int32))), .val (.int (nar .char (b &&& (65535 : Int32)))), .unset, .unset, .unset, .unset, .unset]) C d66_10 rfl ?_
  refine Own.iloadN C d66_12 rfl ?_
  refine Own.ldcI C (hw _ (List.mem_of_getElem? (i := 0) rfl)) d66_13 ?_
  refine Own.iand C d66_15 ?_
  refine Own.i2c C d66_16 ?_
  refine Own.istore (L' := #[.val (.int m), .val (.int b), .val (.int c), .val (.int d), .val (.int (m &&& (3 : Int32))), .val (.int (nar .char (b &&& (65535 : Int32)))), .val (.int (nar .char (c &&& (65535 : Int32)))), .unset, .unset, .unset, .unset]) C d66_17 rfl ?_
  refine Own.iloadN C d66_19 rfl ?_
  refine Own.ldcI C (hw _ (List.mem_of_getElem? (i := 0) rfl)) d66_20 ?_
  refine Own.iand C d66_22 ?_
  refine Own.i2c C d66_23 ?_
  refine Own.istore (L' := #[.val (.int m), .val (.int b), .val (.int c), .val (.int d), .val (.int (m &&& (3 : Int32))), .val (.int (nar .char (b &&& (65535 : Int32)))), .val (.int (nar .char (c &&& (65535 : Int32)))), .val (.int (nar .char (d &&& (65535 : Int32)))), .unset, .unset, .unset]) C d66_24 rfl ?_
  generalize (m &&& 3) = n
  generalize nar .char (b &&& 65535) = c0 at hz0 ⊢
  generalize nar .char (c &&& 65535) = c1 at hz1 ⊢
  generalize nar .char (d &&& 65535) = c2 at hz2 ⊢
  show Go _ K Z _ n0 _ _ 26 #[.val (.int m), .val (.int b), .val (.int c), .val (.int d), .val (.int n), .val (.int c0), .val (.int c1), .val (.int c2), .unset, .unset, .unset] [] h0 _ _ _
  have hsm := dsr_len n c0 c1 c2
  refine Own.iload C d66_26 rfl ?_
  refine Own.iload C d66_28 rfl ?_
  refine Own.iload C d66_30 rfl ?_
  refine Own.iload C d66_32 rfl ?_
  refine Own.bipush (v := 47) C d66_34 rfl ?_
  refine callS_ C (as := [(.int n), (.int c0), (.int c1), (.int c2), (.int (47 : Int32))]) (st := []) (hw _ (List.mem_of_getElem? (i := 1) rfl)) (hw _ (List.mem_of_getElem? (i := 2) rfl)) (hw _ (List.mem_of_getElem? (i := 3) rfl)) (hw _ (List.mem_of_getElem? (i := 4) rfl)) ⟨by decide, by decide⟩ pd__28ICCCC_29Ljava_2flang_2fString_3b rfl (fun O => k_make hw hs hz0 hz1 hz2 ⟨by decide, by decide⟩ O) (fun _ q => nomatch q) rfl (dle rfl) (dle rfl) (dle rfl) (dle rfl) d66_36 rfl (fun v1 hp1 gs1 K1 Q1 => ?_)
  obtain ⟨rfl, s1, rfl, F⟩ := Q1
  show Go _ K Z _ n0 _ _ 39 #[.val (.int m), .val (.int b), .val (.int c), .val (.int d), .val (.int n), .val (.int c0), .val (.int c1), .val (.int c2), .unset, .unset, .unset] [(.ref s1)] hp1 _ _ _
  refine Own.astore (L' := #[.val (.int m), .val (.int b), .val (.int c), .val (.int d), .val (.int n), .val (.int c0), .val (.int c1), .val (.int c2), .val (.ref s1), .unset, .unset]) C d66_39 rfl rfl ?_
  refine Own.iload C d66_41 rfl ?_
  refine Own.iload C d66_43 rfl ?_
  refine Own.iload C d66_45 rfl ?_
  refine Own.iload C d66_47 rfl ?_
  refine Own.bipush (v := 48) C d66_49 rfl ?_
  refine callS_ C (as := [(.int n), (.int c0), (.int c1), (.int c2), (.int (48 : Int32))]) (st := []) (hw _ (List.mem_of_getElem? (i := 1) rfl)) (hw _ (List.mem_of_getElem? (i := 2) rfl)) (hw _ (List.mem_of_getElem? (i := 3) rfl)) (hw _ (List.mem_of_getElem? (i := 4) rfl)) ⟨by decide, by decide⟩ pd__28ICCCC_29Ljava_2flang_2fString_3b rfl (fun O => k_make hw hs hz0 hz1 hz2 ⟨by decide, by decide⟩ O) (fun _ q => nomatch q) rfl (dle rfl) (dle rfl) (dle rfl) (dle rfl) d66_51 rfl (fun v2 hp2 gs2 K2 Q2 => ?_)
  obtain ⟨rfl, s2, rfl, G⟩ := Q2
  show Go _ K Z _ n0 _ _ 54 #[.val (.int m), .val (.int b), .val (.int c), .val (.int d), .val (.int n), .val (.int c0), .val (.int c1), .val (.int c2), .val (.ref s1), .unset, .unset] [(.ref s2)] hp2 _ _ _
  have F1 := F.keep K2
  refine Own.astore (L' := #[.val (.int m), .val (.int b), .val (.int c), .val (.int d), .val (.int n), .val (.int c0), .val (.int c1), .val (.int c2), .val (.ref s1), .val (.ref s2), .unset]) C d66_54 rfl rfl ?_
  refine Own.aload C d66_56 rfl rfl ?_
  refine callS_ C (as := [(.ref s1)]) (st := []) (hw _ (List.mem_of_getElem? (i := 35) rfl)) (hw _ (List.mem_of_getElem? (i := 36) rfl)) (hw _ (List.mem_of_getElem? (i := 37) rfl)) (hw _ (List.mem_of_getElem? (i := 38) rfl)) ⟨by decide, by decide⟩ pd__28Ljava_2flang_2fString_3b_29Lcom_2fexample_2fkolejka_2fkolejka_2fDialect_24KeyRange_3b rfl (fun O => k_starting hw hs F1 hsm O) (fun _ q => nomatch q) rfl (dle rfl) (dle rfl) (dle rfl) (dle rfl) d66_58 rfl (fun v3 hp3 gs3 K3 Q3 => ?_)
  obtain ⟨rfl, r, t, rfl, Er, Ff, Ft, T⟩ := Q3
  show Go _ K Z _ n0 _ _ 61 #[.val (.int m), .val (.int b), .val (.int c), .val (.int d), .val (.int n), .val (.int c0), .val (.int c1), .val (.int c2), .val (.ref s1), .val (.ref s2), .unset] [(.ref r)] hp3 _ _ _
  have F2 := F1.keep K3
  have G2 := G.keep K3
  refine Own.astore (L' := #[.val (.int m), .val (.int b), .val (.int c), .val (.int d), .val (.int n), .val (.int c0), .val (.int c1), .val (.int c2), .val (.ref s1), .val (.ref s2), .val (.ref r)]) C d66_61 rfl rfl ?_
  refine Own.aload C d66_63 rfl rfl ?_
  refine callV_ C (as' := []) (st := []) (hw _ (List.mem_of_getElem? (i := 219) rfl)) (hw _ (List.mem_of_getElem? (i := 220) rfl)) (fun _ hZ => notFace_of_selects (args := #[]) (mvT hZ (hw _ (List.mem_of_getElem? (i := 222) rfl)))) (hw _ (List.mem_of_getElem? (i := 222) rfl)) (hw _ (List.mem_of_getElem? (i := 221) rfl)) (hw _ (List.mem_of_getElem? (i := 37) rfl)) (hw _ (List.mem_of_getElem? (i := 223) rfl)) ⟨by decide, by decide⟩ Er pd__28_29Ljava_2flang_2fString_3b rfl (fun O => k_from hw hs Ff O) (fun _ q => nomatch q) rfl (dle rfl) (dle rfl) (dle rfl) (dle rfl) d66_65 rfl (fun v4 hp4 gs4 K4 Q4 => ?_)
  obtain ⟨rfl, rfl⟩ := Q4
  show Go _ K Z _ n0 _ _ 68 #[.val (.int m), .val (.int b), .val (.int c), .val (.int d), .val (.int n), .val (.int c0), .val (.int c1), .val (.int c2), .val (.ref s1), .val (.ref s2), .val (.ref r)] [(.ref s1)] hp4 _ _ _
  have F3 := F2.keep K4
  refine Own.aload C d66_68 rfl rfl ?_
  refine callV_ C (as' := [(.ref s1)]) (st := []) (hw _ (List.mem_of_getElem? (i := 224) rfl)) (hw _ (List.mem_of_getElem? (i := 225) rfl)) (fun _ hZ => notFace_of_selects (args := #[]) (mvT hZ (hw _ (List.mem_of_getElem? (i := 227) rfl)))) (hw _ (List.mem_of_getElem? (i := 227) rfl)) (hw _ (List.mem_of_getElem? (i := 226) rfl)) (hw _ (List.mem_of_getElem? (i := 7) rfl)) (hw _ (List.mem_of_getElem? (i := 228) rfl)) ⟨by decide, by decide⟩ F3.1 pd__28Ljava_2flang_2fObject_3b_29Z rfl (fun O => k_equals hw hs F3 F3 O) (fun _ q => nomatch q) rfl (dle rfl) (dle rfl) (dle rfl) (dle rfl) d66_70 rfl (fun v5 hp5 gs5 K5 Q5 => ?_)
  obtain ⟨rfl, rfl⟩ := Q5
  rw [if_pos rfl]
  show Go _ K Z _ n0 _ _ 73 #[.val (.int m), .val (.int b), .val (.int c), .val (.int d), .val (.int n), .val (.int c0), .val (.int c1), .val (.int c2), .val (.ref s1), .val (.ref s2), .val (.ref r)] [(.int (1 : Int32))] hp5 _ _ _
  have K0 := K4.trans K5 (fun _ q => nomatch q)
  refine if_eq C d66_73 (fun q6 => ?_) (fun q6 => ?_)
  · exact absurd q6 (by decide)
  · refine Own.aload C d66_76 rfl rfl ?_
    refine callV_ C (as' := []) (st := []) (hw _ (List.mem_of_getElem? (i := 229) rfl)) (hw _ (List.mem_of_getElem? (i := 230) rfl)) (fun _ hZ => notFace_of_selects (args := #[]) (mvT hZ (hw _ (List.mem_of_getElem? (i := 232) rfl)))) (hw _ (List.mem_of_getElem? (i := 232) rfl)) (hw _ (List.mem_of_getElem? (i := 231) rfl)) (hw _ (List.mem_of_getElem? (i := 37) rfl)) (hw _ (List.mem_of_getElem? (i := 233) rfl)) ⟨by decide, by decide⟩ (Er.keep K0) pd__28_29Ljava_2flang_2fString_3b rfl (fun O => k_to hw hs (Ft.keep K0 nin0) O) (fun _ q => nomatch q) rfl (dle rfl) (dle rfl) (dle rfl) (dle rfl) d66_78 rfl (fun v7 hp7 gs7 K7 Q7 => ?_)
    obtain ⟨rfl, rfl⟩ := Q7
    show Go _ K Z _ n0 _ _ 81 #[.val (.int m), .val (.int b), .val (.int c), .val (.int d), .val (.int n), .val (.int c0), .val (.int c1), .val (.int c2), .val (.ref s1), .val (.ref s2), .val (.ref r)] [(.ref t)] hp7 _ _ _
    have K1_ := K0.trans K7 (fun _ q => nomatch q)
    have T2 := T.keep K1_
    have G3 := G2.keep K1_
    refine Own.aload C d66_81 rfl rfl ?_
    refine callV_ C (as' := [(.ref s2)]) (st := []) (hw _ (List.mem_of_getElem? (i := 224) rfl)) (hw _ (List.mem_of_getElem? (i := 225) rfl)) (fun _ hZ => notFace_of_selects (args := #[]) (mvT hZ (hw _ (List.mem_of_getElem? (i := 227) rfl)))) (hw _ (List.mem_of_getElem? (i := 227) rfl)) (hw _ (List.mem_of_getElem? (i := 226) rfl)) (hw _ (List.mem_of_getElem? (i := 7) rfl)) (hw _ (List.mem_of_getElem? (i := 228) rfl)) ⟨by decide, by decide⟩ T2.1 pd__28Ljava_2flang_2fObject_3b_29Z rfl (fun O => k_equals hw hs T2 G3 O) (fun _ q => nomatch q) rfl (dle rfl) (dle rfl) (dle rfl) (dle rfl) d66_83 rfl (fun v8 hp8 gs8 K8 Q8 => ?_)
    obtain ⟨rfl, rfl⟩ := Q8
    rw [if_pos rfl]
    show Go _ K Z _ n0 _ _ 86 #[.val (.int m), .val (.int b), .val (.int c), .val (.int d), .val (.int n), .val (.int c0), .val (.int c1), .val (.int c2), .val (.ref s1), .val (.ref s2), .val (.ref r)] [(.int (1 : Int32))] hp8 _ _ _
    refine if_eq C d66_86 (fun q9 => ?_) (fun q9 => ?_)
    · exact absurd q9 (by decide)
    · refine Own.iconst (v := 1) C d66_89 rfl ?_
      refine Own.goto_ C d66_90 ?_
      exact retZ C (gs := []) d66_94 (dle rfl) (dle rfl) (fun _ q => nomatch q) rfl
set_option maxRecDepth 65536 in
set_option maxHeartbeats 4000000 in
theorem comes_1 {Post : Tables → Env → Array Value → State → Outcome → State → Prop} (hpost : ∀ tb e args s v u, (limb_1_1.after args s (.returned v) u = true ∧ limb_1_2.after args s (.returned v) u = true ∧ True) → ReturnedEndW s (.returned v) u (Jvm.fieldLocs frame_1_writes args s ++ Jvm.arrayLocs frame_1_arrays args s ++ Jvm.staticLocs frame_1_statics s) 48 2368 → Post tb e args s (.returned v) u) :
    ArmFor flags0 classFile x code maxLocals ret World_1 tables_1 room_1 Calls_1 rest_1 Pre_1 Post := by
  intro l hfl _ _ p e ha hc hk s m args below hf hA hF happ hP
  obtain ⟨hcalls, hrest, hpre⟩ := hP
  obtain ⟨-, -, -, hnamed, -, -, -, hat⟩ := (Spec.applies_iff hf).mp happ
  obtain ⟨hg, hn⟩ := and_e (Cond.before_iff.mp (show (Jvm.Cond.and given_1 narrow_1).before args s = true from hpre))
  obtain ⟨h1, h2⟩ := and_e hg
  obtain ⟨j0, h2⟩ := and_e h2
  obtain ⟨j1, h2⟩ := and_e h2
  obtain ⟨j2, h2⟩ := and_e h2
  have j3 := h2
  obtain ⟨w0, w1, w2, w3, rfl⟩ : ∃ w0 w1 w2 w3 : Value, args = #[w0, w1, w2, w3] := by
    have hs : args.size = 4 := by simpa [Cond.value, given_1] using h1
    obtain ⟨L⟩ := args
    match L, hs with
    | [w0, w1, w2, w3], _ => exact ⟨w0, w1, w2, w3, rfl⟩
  have hw := fun d (hd : d ∈ tables_1) => atoms_spec (ws := Jvm.Cond.code x code maxLocals ret :: tables_1) hat d (List.mem_cons_of_mem _ hd)
  obtain ⟨hsets, hown0⟩ := atoms_of _ (rest_1_c_eq ▸ (show rest_1_c.before _ s = true from hrest))
  obtain ⟨x0, f0⟩ := is_v j0
  obtain rfl : w0 = (.int x0) := Option.some.inj f0
  obtain ⟨x1, f1⟩ := is_v j1
  obtain rfl : w1 = (.int x1) := Option.some.inj f1
  obtain ⟨x2, f2⟩ := is_v j2
  obtain rfl : w2 = (.int x2) := Option.some.inj f2
  obtain ⟨x3, f3⟩ := is_v j3
  obtain rfl : w3 = (.int x3) := Option.some.inj f3
  have n0 := not_v (Cond.before_iff.mp (hsets _ (List.mem_of_getElem? (i := 2) rfl)))
  obtain ⟨i0, e0⟩ := is_v (Cond.before_iff.mp (hsets _ (List.mem_of_getElem? (i := 1) rfl)))
  have S0 : Sta s s.heap "java/lang/String" "COMPACT_STRINGS" "Z" (.int i0) := Sta.start e0 (Or.inl (hsets _ (List.mem_of_getElem? (i := 0) rfl)))
  have c0 : ¬ (i0 = (0 : Int32)) := gotF (Cond.eq_ints e0 (Term.int_eval (0))) n0
  obtain ⟨v1, e1, r1⟩ := isR_v (Cond.before_iff.mp (hsets _ (List.mem_of_getElem? (i := 8) rfl)))
  have S1 : Sta s s.heap "jdk/internal/util/Preconditions" "SIOOBE_FORMATTER" "Ljava/util/function/BiFunction;" v1 := Sta.start e1 (Or.inl (hsets _ (List.mem_of_getElem? (i := 7) rfl)))
  have S2 : Sta s s.heap "java/lang/StringUTF16" "$assertionsDisabled" "Z" (.int 1) := Sta.start (eq_val (Cond.before_iff.mp (hsets _ (List.mem_of_getElem? (i := 12) rfl)))) (Or.inl (hsets _ (List.mem_of_getElem? (i := 11) rfl)))
  have S3 : Sta s s.heap "java/lang/StringUTF16" "HI_BYTE_SHIFT" "I" (.int 0) := Sta.start (eq_val (Cond.before_iff.mp (hsets _ (List.mem_of_getElem? (i := 15) rfl)))) (Or.inl (hsets _ (List.mem_of_getElem? (i := 14) rfl)))
  have S4 : Sta s s.heap "java/lang/StringUTF16" "LO_BYTE_SHIFT" "I" (.int 8) := Sta.start (eq_val (Cond.before_iff.mp (hsets _ (List.mem_of_getElem? (i := 18) rfl)))) (Or.inl (hsets _ (List.mem_of_getElem? (i := 17) rfl)))
  have hCH : CHv s EL0 s.vm s.heap := CHv.start (hEL hw) (fun p hp => (show Jvm.Lit.constHeld s p.1 p.2 from hcalls.1 p hp)) (show Jvm.Lit.compactW.before _ s = true from (hsets _ (List.mem_of_getElem? (i := 2) rfl))) (hw _ (List.mem_of_getElem? (i := 24) rfl)) (hw _ (List.mem_of_getElem? (i := 6) rfl))
  obtain ⟨n, o, h1, h2, h3, v, L, gs, rfl, rfl, N, -, -, -, -, hq⟩ := k_law hw ⟨⟨i0, c0, S0⟩, ⟨v1, r1, S1⟩, S2, S3, S4, trivial⟩ (m := x0) (b := x1) (c := x2) (d := x3) (Old.start s) l tables_1 p e ha hc hk s m _ below hf ((Spec.applies_iff_loose hf).mp happ).1 ⟨rfl, State.Warmed39.refl s, rfl, hCH, fun _ hx => absurd hx List.not_mem_nil⟩ trivial
  refine ⟨n, _, h1, h2, h3, hpost _ _ _ _ _ _ ⟨Cond.after_iff.mpr rfl, Cond.after_iff.mpr (eq_i res_at (Term.int_eval (1)) rfl), trivial⟩ ⟨hq.1, hq.2.1, hq.2.2.1, (hq.2.2.2.sift fun y hy => Or.inr (N y hy)).mono (by decide) (by decide)⟩⟩
theorem main_1_1 : Claimed_1_1 := comes_1 fun _ _ _ _ _ _ h hF => ⟨h.1, hF⟩
theorem main_1_2 : Claimed_1_2 := comes_1 fun _ _ _ _ _ _ h hF => ⟨h.2.1, hF⟩
end Jvm.Pilot.@@N@@
namespace Jvm.Pilot.@@N@@
open Jvm Jvm.ClassFile Sem Op Lib Jvm.Free Jvm.Stand Jvm.Pilot.@@N@@.Jvm.D
/-! MADE BY PROGRAM (witnessworld.py) out of the Statement's table words and the real class files: 27 classes; the members and pool entries that the words name. The judged class is class 1, her method 1. -/
namespace start1
open Jvm.ClassFile
def u (s : String) : CpInfo := .utf8 (stringToUtf16 s)
/-- a pool by its gaps: so many unusable entries, then the entry; so many at the end -/
def gap : Nat → List CpInfo → List CpInfo
  | 0, r => r
  | n + 1, r => .unusable :: gap n r
def poolList (es : List (Nat × CpInfo)) (last : Nat) : List CpInfo := es.foldr (fun e r => gap e.1 (e.2 :: r)) (gap last [])
def pool (es : List (Nat × CpInfo)) (last : Nat) : Array CpInfo := ⟨poolList es last⟩
def fileOf (pool : Array CpInfo) (this : Nat) (attrs : Array Attribute := #[]) (ms : Array MethodInfo := #[]) (fl : Nat := 33) (sup : Nat := 0) (ifs : Array Nat := #[]) (fds : Array FieldInfo := #[]) : ClassFile where
  minorVersion := 0
  majorVersion := 65
  constantPool := pool
  accessFlags := fl
  thisClass := this
  superClass := sup
  interfaces := ifs
  fields := fds
  methods := ms
  attributes := attrs
def plain (name : String) (sup : Option ClassId) : Class where
  name := name
  kind := .ordinary
  loader := none
  accessFlags := 33
  super := sup
  interfaces := #[]
  cf := none
  fields := #[]
  methods := #[]
  instanceTypes := #[]
  staticTypes := #[]
  resolved := #[]
  callSites := []
  init := .initialized
  statics := none
  mirror := none

def pool0 : Array CpInfo := pool [(5, u "<init>"), (0, u "()V"), (1, .class_ 10), (1, u "java/lang/Object")] 113

def k0c0 : Code := { maxStack := 0, maxLocals := 1, code := object_method_1_code, exceptionTable := #[], attributes := #[] }
def k0m0 : Method := { name := "<init>", desc := "()V", sig := { parameters := [], returnType := none }, accessFlags := 1, code := some k0c0 }
/-- java/lang/Object -/
def k0 : Class := { plain "java/lang/Object" none with
  accessFlags := 33
  interfaces := #[]
  cf := some (fileOf pool0 8 #[] #[{ accessFlags := 1, nameIndex := 5, descriptorIndex := 6, attributes := #[] }] 33 0 #[] #[])
  fields := #[]
  methods := #[k0m0]
  instanceTypes := #[]
  staticTypes := #[]
  resolved := Array.replicate 124 none
  statics := none }

def pool1 : Array CpInfo := pool [(2, .class_ 4), (1, u "java/lang/Object"), (0, u "<init>"), (0, u "()V"), (0, .integer 65535), (0, .methodref 9 10), (0, .class_ 11), (0, .nameAndType 12 13), (0, u "com/example/kolejka/kolejka/KeyRangeStartingWithPinLaw"), (0, u "make"), (0, u "(ICCCC)Ljava/lang/String;"), (0, .methodref 15 16), (0, .class_ 17), (0, .nameAndType 18 19), (0, u "com/example/kolejka/kolejka/Dialect$KeyRange"), (0, u "startingWith"), (0, u "(Ljava/lang/String;)Lcom/example/kolejka/kolejka/Dialect$KeyRange;"), (0, .methodref 15 21), (0, .nameAndType 22 23), (0, u "from"), (0, u "()Ljava/lang/String;"), (0, .methodref 25 26), (0, .class_ 27), (0, .nameAndType 28 29), (0, u "java/lang/String"), (0, u "equals"), (0, u "(Ljava/lang/Object;)Z"), (0, .methodref 15 31), (0, .nameAndType 32 23), (0, u "to"), (0, .methodref 25 34), (0, .nameAndType 5 35), (0, u "([C)V"), (2, u "law"), (0, u "(IIII)Z")] 7

def k1m0 : Method := { name := "<init>", desc := "()V", sig := { parameters := [], returnType := none }, accessFlags := 1, code := none }
def k1c1 : Code := { maxStack := 5, maxLocals := 11, code := code, exceptionTable := #[], attributes := #[] }
def k1m1 : Method := { name := "law", desc := "(IIII)Z", sig := { parameters := [.int, .int, .int, .int], returnType := some .boolean }, accessFlags := 9, code := some k1c1 }
def k1c2 : Code := { maxStack := 6, maxLocals := 5, code := method_3_code, exceptionTable := #[], attributes := #[] }
def k1m2 : Method := { name := "make", desc := "(ICCCC)Ljava/lang/String;", sig := { parameters := [.int, .char, .char, .char, .char], returnType := some (.object "java/lang/String") }, accessFlags := 10, code := some k1c2 }
/-- com/example/kolejka/kolejka/KeyRangeStartingWithPinLaw -/
def k1 : Class := { plain "com/example/kolejka/kolejka/KeyRangeStartingWithPinLaw" (some 0) with
  accessFlags := 49
  interfaces := #[]
  cf := some (fileOf pool1 9 #[] #[{ accessFlags := 1, nameIndex := 5, descriptorIndex := 6, attributes := #[] }, { accessFlags := 9, nameIndex := 38, descriptorIndex := 39, attributes := #[] }, { accessFlags := 10, nameIndex := 12, descriptorIndex := 13, attributes := #[] }] 49 2 #[] #[])
  fields := #[]
  methods := #[k1m0, k1m1, k1m2]
  instanceTypes := #[]
  staticTypes := #[]
  resolved := Array.replicate 47 none
  statics := none }

def pool2 : Array CpInfo := pool [(1, .class_ 2), (0, u "java/io/Serializable"), (0, .class_ 4), (0, u "java/lang/Object")] 2

/-- java/io/Serializable -/
def k2 : Class := { plain "java/io/Serializable" (some 0) with
  accessFlags := 1537
  interfaces := #[]
  cf := some (fileOf pool2 1 #[] #[] 1537 3 #[] #[])
  fields := #[]
  methods := #[]
  instanceTypes := #[]
  staticTypes := #[]
  resolved := Array.replicate 7 none
  statics := none }

def pool3 : Array CpInfo := pool [(1, .class_ 2), (0, u "java/lang/Comparable"), (0, .class_ 4), (0, u "java/lang/Object")] 7

/-- java/lang/Comparable -/
def k3 : Class := { plain "java/lang/Comparable" (some 0) with
  accessFlags := 1537
  interfaces := #[]
  cf := some (fileOf pool3 1 #[] #[] 1537 3 #[] #[])
  fields := #[]
  methods := #[]
  instanceTypes := #[]
  staticTypes := #[]
  resolved := Array.replicate 12 none
  statics := none }

def pool4 : Array CpInfo := pool [(2, .class_ 4), (1, u "java/lang/CharSequence"), (42, .class_ 48), (0, u "java/lang/CharSequence$1CodePointIterator"), (10, .class_ 60), (0, u "java/lang/CharSequence$1CharIterator"), (5, .class_ 67), (0, u "java/lang/Object")] 63

/-- java/lang/CharSequence -/
def k4 : Class := { plain "java/lang/CharSequence" (some 0) with
  accessFlags := 1537
  interfaces := #[]
  cf := some (fileOf pool4 2 #[.nestMembers #[47, 59]] #[] 1537 66 #[] #[])
  fields := #[]
  methods := #[]
  instanceTypes := #[]
  staticTypes := #[]
  resolved := Array.replicate 131 none
  statics := none }

def pool5 : Array CpInfo := pool [(1, .class_ 2), (0, u "java/lang/constant/Constable"), (0, .class_ 4), (0, u "java/lang/Object")] 6

/-- java/lang/constant/Constable -/
def k5 : Class := { plain "java/lang/constant/Constable" (some 0) with
  accessFlags := 1537
  interfaces := #[]
  cf := some (fileOf pool5 1 #[] #[] 1537 3 #[] #[])
  fields := #[]
  methods := #[]
  instanceTypes := #[]
  staticTypes := #[]
  resolved := Array.replicate 11 none
  statics := none }

def pool6 : Array CpInfo := pool [(1, .class_ 2), (0, u "java/lang/constant/ConstantDesc"), (0, .class_ 4), (0, u "java/lang/Object")] 32

/-- java/lang/constant/ConstantDesc -/
def k6 : Class := { plain "java/lang/constant/ConstantDesc" (some 0) with
  accessFlags := 1537
  interfaces := #[]
  cf := some (fileOf pool6 1 #[] #[] 1537 3 #[] #[])
  fields := #[]
  methods := #[]
  instanceTypes := #[]
  staticTypes := #[]
  resolved := Array.replicate 37 none
  statics := none }

def pool7 : Array CpInfo := pool [(1, .methodref 2 3), (0, .class_ 4), (0, .nameAndType 5 6), (0, u "java/lang/Object"), (0, u "<init>"), (0, u "()V"), (2, .fieldref 10 11), (0, .class_ 12), (0, .nameAndType 13 14), (0, u "java/lang/String"), (0, u "value"), (0, u "[B"), (0, .fieldref 10 16), (0, .nameAndType 17 18), (0, u "coder"), (0, u "B"), (2, u "hash"), (0, u "I"), (2, u "hashIsZero"), (0, u "Z"), (0, .methodref 10 28), (0, .nameAndType 5 29), (0, u "([CIILjava/lang/Void;)V"), (6, u "checkBoundsOffCount"), (0, u "(III)I"), (0, .fieldref 10 39), (0, .nameAndType 40 26), (0, u "COMPACT_STRINGS"), (1, .class_ 44), (1, u "java/lang/StringUTF16"), (0, u "compress"), (1, .methodref 42 48), (0, .nameAndType 49 50), (0, u "coderFromArrayLen"), (0, u "([BI)B"), (3, .methodref 55 56), (0, .class_ 57), (0, .nameAndType 58 59), (0, u "java/util/Arrays"), (0, u "copyOfRange"), (0, u "([BII)[B"), (47, .class_ 109), (1, u "java/lang/StringLatin1"), (32, u "()Z"), (34, .methodref 42 178), (0, .nameAndType 45 179), (0, u "([CII)[B"), (13, .class_ 195), (1, u "java/lang/System"), (15, u "([BB)V"), (0, .methodref 193 213), (0, .nameAndType 214 215), (0, u "arraycopy"), (0, u "(Ljava/lang/Object;ILjava/lang/Object;II)V"), (118, u "()I"), (0, .methodref 10 336), (0, .nameAndType 17 337), (0, u "()B"), (2, u "()[B"), (19, .methodref 42 361), (0, .nameAndType 362 363), (0, u "getChar"), (0, u "([BI)C"), (12, u "([BI[BII)I"), (14, u "(II)V"), (97, .methodref 10 490), (0, .nameAndType 5 491), (0, u "(Ljava/lang/AbstractStringBuilder;Ljava/lang/Void;)V"), (0, .methodref 10 493), (0, .nameAndType 494 142), (0, u "isLatin1"), (6, u "checkIndex"), (3, .methodref 10 506), (0, .nameAndType 507 334), (0, u "length"), (5, u "checkFromToIndex"), (7, .methodref 10 522), (0, .nameAndType 523 524), (0, u "checkBoundsBeginEnd"), (0, u "(III)V"), (7, u "getBytes"), (8, .methodref 107 542), (0, .nameAndType 543 544), (0, u "equals"), (0, u "([B[B)Z"), (4, .methodref 550 506), (0, .class_ 551), (0, u "java/lang/AbstractStringBuilder"), (0, .methodref 550 553), (0, .nameAndType 554 340), (0, u "getValue"), (4, .class_ 561), (1, u "jdk/internal/util/ArraysSupport"), (0, u "mismatch"), (10, u "(Ljava/lang/Object;)Z"), (1, .class_ 576), (0, u "java/lang/CharSequence"), (22, u "CASE_INSENSITIVE_ORDER"), (0, u "Ljava/util/Comparator;"), (6, .methodref 559 608), (0, .nameAndType 562 376), (15, .methodref 10 625), (0, .nameAndType 626 627), (0, u "startsWith"), (0, u "(Ljava/lang/String;I)Z"), (55, u "substring"), (0, u "(II)Ljava/lang/String;"), (0, .methodref 107 686), (0, .nameAndType 687 688), (0, u "newString"), (0, u "([BII)Ljava/lang/String;"), (0, .methodref 42 686), (131, u "([BIB)V"), (188, u "([C)V"), (36, .methodref 550 493), (0, .fieldref 550 1049), (0, .nameAndType 1050 26), (0, u "maybeLatin1"), (2, .fieldref 1054 1055), (0, .class_ 1056), (0, .nameAndType 1057 1058), (0, u "jdk/internal/util/Preconditions"), (0, u "SIOOBE_FORMATTER"), (0, u "Ljava/util/function/BiFunction;"), (0, .methodref 1054 1060), (0, .nameAndType 501 1061), (0, u "(IILjava/util/function/BiFunction;)I"), (0, .methodref 1054 1063), (0, .nameAndType 513 1064), (0, u "(IIILjava/util/function/BiFunction;)I"), (0, .methodref 1054 1066), (0, .nameAndType 1067 1064), (0, u "checkFromIndexSize"), (33, u "serialPersistentFields"), (0, u "[Ljava/io/ObjectStreamField;"), (0, .class_ 1104), (0, u "java/lang/String$CaseInsensitiveComparator"), (1, .class_ 1107), (0, u "java/io/Serializable"), (0, .class_ 1109), (0, u "java/lang/Comparable"), (0, .class_ 1111), (0, u "java/lang/constant/Constable"), (0, .class_ 1113), (0, u "java/lang/constant/ConstantDesc"), (2, u "serialVersionUID"), (0, u "J"), (3, u "REPL"), (0, u "C"), (2, u "LATIN1"), (1, u "UTF16"), (105, u "(Ljava/lang/StringBuilder;)V"), (23, u "(Ljava/lang/String;)Z"), (14, u "endsWith")] 178

def k7m0 : Method := { name := "<init>", desc := "()V", sig := { parameters := [], returnType := none }, accessFlags := 1, code := none }
def k7c1 : Code := { maxStack := 5, maxLocals := 2, code := jdk_42_method_3_code, exceptionTable := #[], attributes := #[] }
def k7m1 : Method := { name := "<init>", desc := "([C)V", sig := { parameters := [(.array .char)], returnType := none }, accessFlags := 1, code := some k7c1 }
def k7c2 : Code := { maxStack := 3, maxLocals := 2, code := jdk_42_method_53_code, exceptionTable := #[], attributes := #[] }
def k7m2 : Method := { name := "<init>", desc := "(Ljava/lang/StringBuilder;)V", sig := { parameters := [(.object "java/lang/StringBuilder")], returnType := none }, accessFlags := 1, code := some k7c2 }
def k7c3 : Code := { maxStack := 2, maxLocals := 1, code := jdk_42_method_54_code, exceptionTable := #[], attributes := #[] }
def k7m3 : Method := { name := "length", desc := "()I", sig := { parameters := [], returnType := some .int }, accessFlags := 1, code := some k7c3 }
def k7c4 : Code := { maxStack := 2, maxLocals := 3, code := jdk_42_method_66_code, exceptionTable := #[], attributes := #[] }
def k7m4 : Method := { name := "equals", desc := "(Ljava/lang/Object;)Z", sig := { parameters := [(.object "java/lang/Object")], returnType := some .boolean }, accessFlags := 1, code := some k7c4 }
def k7c5 : Code := { maxStack := 5, maxLocals := 8, code := jdk_42_method_75_code, exceptionTable := #[], attributes := #[] }
def k7m5 : Method := { name := "startsWith", desc := "(Ljava/lang/String;I)Z", sig := { parameters := [(.object "java/lang/String"), .int], returnType := some .boolean }, accessFlags := 1, code := some k7c5 }
def k7c6 : Code := { maxStack := 4, maxLocals := 2, code := jdk_42_method_77_code, exceptionTable := #[], attributes := #[] }
def k7m6 : Method := { name := "endsWith", desc := "(Ljava/lang/String;)Z", sig := { parameters := [(.object "java/lang/String")], returnType := some .boolean }, accessFlags := 1, code := some k7c6 }
def k7c7 : Code := { maxStack := 3, maxLocals := 5, code := jdk_42_method_92_code, exceptionTable := #[], attributes := #[] }
def k7m7 : Method := { name := "substring", desc := "(II)Ljava/lang/String;", sig := { parameters := [.int, .int], returnType := some (.object "java/lang/String") }, accessFlags := 1, code := some k7c7 }
def k7c8 : Code := { maxStack := 5, maxLocals := 4, code := jdk_42_method_147_code, exceptionTable := #[], attributes := #[] }
def k7m8 : Method := { name := "getBytes", desc := "([BIB)V", sig := { parameters := [(.array .byte), .int, .byte], returnType := none }, accessFlags := 0, code := some k7c8 }
def k7c9 : Code := { maxStack := 4, maxLocals := 6, code := jdk_42_method_149_code, exceptionTable := #[], attributes := #[] }
def k7m9 : Method := { name := "<init>", desc := "([CIILjava/lang/Void;)V", sig := { parameters := [(.array .char), .int, .int, (.object "java/lang/Void")], returnType := none }, accessFlags := 2, code := some k7c9 }
def k7c10 : Code := { maxStack := 5, maxLocals := 5, code := jdk_42_method_150_code, exceptionTable := #[], attributes := #[] }
def k7m10 : Method := { name := "<init>", desc := "(Ljava/lang/AbstractStringBuilder;Ljava/lang/Void;)V", sig := { parameters := [(.object "java/lang/AbstractStringBuilder"), (.object "java/lang/Void")], returnType := none }, accessFlags := 0, code := some k7c10 }
def k7c11 : Code := { maxStack := 2, maxLocals := 3, code := jdk_42_method_151_code, exceptionTable := #[], attributes := #[] }
def k7m11 : Method := { name := "<init>", desc := "([BB)V", sig := { parameters := [(.array .byte), .byte], returnType := none }, accessFlags := 0, code := some k7c11 }
def k7c12 : Code := { maxStack := 1, maxLocals := 1, code := jdk_42_method_152_code, exceptionTable := #[], attributes := #[] }
def k7m12 : Method := { name := "coder", desc := "()B", sig := { parameters := [], returnType := some .byte }, accessFlags := 0, code := some k7c12 }
def k7c13 : Code := { maxStack := 1, maxLocals := 1, code := jdk_42_method_154_code, exceptionTable := #[], attributes := #[] }
def k7m13 : Method := { name := "isLatin1", desc := "()Z", sig := { parameters := [], returnType := some .boolean }, accessFlags := 0, code := some k7c13 }
def k7c14 : Code := { maxStack := 3, maxLocals := 2, code := jdk_42_method_155_code, exceptionTable := #[], attributes := #[] }
def k7m14 : Method := { name := "checkIndex", desc := "(II)V", sig := { parameters := [.int, .int], returnType := none }, accessFlags := 8, code := some k7c14 }
def k7c15 : Code := { maxStack := 4, maxLocals := 3, code := jdk_42_method_157_code, exceptionTable := #[], attributes := #[] }
def k7m15 : Method := { name := "checkBoundsOffCount", desc := "(III)I", sig := { parameters := [.int, .int, .int], returnType := some .int }, accessFlags := 8, code := some k7c15 }
def k7c16 : Code := { maxStack := 4, maxLocals := 3, code := jdk_42_method_158_code, exceptionTable := #[], attributes := #[] }
def k7m16 : Method := { name := "checkBoundsBeginEnd", desc := "(III)V", sig := { parameters := [.int, .int, .int], returnType := none }, accessFlags := 8, code := some k7c16 }
/-- java/lang/String -/
def k7 : Class := { plain "java/lang/String" (some 0) with
  accessFlags := 49
  interfaces := #[2, 3, 4, 5, 6]
  cf := some (fileOf pool7 10 #[.nestMembers #[1103]] #[{ accessFlags := 1, nameIndex := 5, descriptorIndex := 6, attributes := #[] }, { accessFlags := 1, nameIndex := 5, descriptorIndex := 1010, attributes := #[] }, { accessFlags := 1, nameIndex := 5, descriptorIndex := 1233, attributes := #[] }, { accessFlags := 1, nameIndex := 507, descriptorIndex := 334, attributes := #[] }, { accessFlags := 1, nameIndex := 543, descriptorIndex := 573, attributes := #[] }, { accessFlags := 1, nameIndex := 626, descriptorIndex := 627, attributes := #[] }, { accessFlags := 1, nameIndex := 1272, descriptorIndex := 1257, attributes := #[] }, { accessFlags := 1, nameIndex := 683, descriptorIndex := 684, attributes := #[] }, { accessFlags := 0, nameIndex := 532, descriptorIndex := 821, attributes := #[] }, { accessFlags := 2, nameIndex := 5, descriptorIndex := 29, attributes := #[] }, { accessFlags := 0, nameIndex := 5, descriptorIndex := 491, attributes := #[] }, { accessFlags := 0, nameIndex := 5, descriptorIndex := 211, attributes := #[] }, { accessFlags := 0, nameIndex := 17, descriptorIndex := 337, attributes := #[] }, { accessFlags := 0, nameIndex := 494, descriptorIndex := 142, attributes := #[] }, { accessFlags := 8, nameIndex := 501, descriptorIndex := 391, attributes := #[] }, { accessFlags := 8, nameIndex := 36, descriptorIndex := 37, attributes := #[] }, { accessFlags := 8, nameIndex := 523, descriptorIndex := 524, attributes := #[] }] 49 2 #[1106, 1108, 575, 1110, 1112] #[{ accessFlags := 18, nameIndex := 13, descriptorIndex := 14, attributes := #[] }, { accessFlags := 18, nameIndex := 17, descriptorIndex := 18, attributes := #[] }, { accessFlags := 2, nameIndex := 21, descriptorIndex := 22, attributes := #[] }, { accessFlags := 2, nameIndex := 25, descriptorIndex := 26, attributes := #[] }, { accessFlags := 26, nameIndex := 1116, descriptorIndex := 1117, attributes := #[] }, { accessFlags := 24, nameIndex := 40, descriptorIndex := 26, attributes := #[] }, { accessFlags := 26, nameIndex := 1101, descriptorIndex := 1102, attributes := #[] }, { accessFlags := 26, nameIndex := 1121, descriptorIndex := 1122, attributes := #[] }, { accessFlags := 25, nameIndex := 599, descriptorIndex := 600, attributes := #[] }, { accessFlags := 24, nameIndex := 1125, descriptorIndex := 18, attributes := #[] }, { accessFlags := 24, nameIndex := 1127, descriptorIndex := 18, attributes := #[] }])
  fields := #[{ name := "value", type := (.array .byte), accessFlags := 18, slot := 0, constantValue := 0 }, { name := "coder", type := .byte, accessFlags := 18, slot := 1, constantValue := 0 }, { name := "hash", type := .int, accessFlags := 2, slot := 2, constantValue := 0 }, { name := "hashIsZero", type := .boolean, accessFlags := 2, slot := 3, constantValue := 0 }, { name := "serialVersionUID", type := .long, accessFlags := 26, slot := 0, constantValue := 0 }, { name := "COMPACT_STRINGS", type := .boolean, accessFlags := 24, slot := 1, constantValue := 0 }, { name := "serialPersistentFields", type := (.array (.object "java/io/ObjectStreamField")), accessFlags := 26, slot := 2, constantValue := 0 }, { name := "REPL", type := .char, accessFlags := 26, slot := 3, constantValue := 0 }, { name := "CASE_INSENSITIVE_ORDER", type := (.object "java/util/Comparator"), accessFlags := 25, slot := 4, constantValue := 0 }, { name := "LATIN1", type := .byte, accessFlags := 24, slot := 5, constantValue := 0 }, { name := "UTF16", type := .byte, accessFlags := 24, slot := 6, constantValue := 0 }]
  methods := #[k7m0, k7m1, k7m2, k7m3, k7m4, k7m5, k7m6, k7m7, k7m8, k7m9, k7m10, k7m11, k7m12, k7m13, k7m14, k7m15, k7m16]
  instanceTypes := #[(.array .byte), .byte, .int, .boolean]
  staticTypes := #[.long, .boolean, (.array (.object "java/io/ObjectStreamField")), .char, (.object "java/util/Comparator"), .byte, .byte]
  resolved := Array.replicate 1451 none
  statics := some 0 }

def pool8 : Array CpInfo := pool [(3, .class_ 4), (0, u "java/lang/String"), (1, .class_ 8), (1, u "java/lang/Object"), (0, u "<init>"), (0, u "()V"), (0, .methodref 12 13), (0, .class_ 14), (0, .nameAndType 15 16), (0, u "java/lang/StringUTF16"), (0, u "newBytesLength"), (0, u "(I)I"), (3, .integer 1073741823), (23, .fieldref 12 45), (0, .nameAndType 46 47), (0, u "$assertionsDisabled"), (0, u "Z"), (0, .methodref 12 49), (0, .nameAndType 50 51), (0, u "length"), (0, u "([B)I"), (7, .fieldref 12 60), (0, .nameAndType 61 62), (0, u "HI_BYTE_SHIFT"), (0, u "I"), (0, .fieldref 12 64), (0, .nameAndType 65 62), (0, u "LO_BYTE_SHIFT"), (1, .methodref 12 68), (0, .nameAndType 69 70), (0, u "checkIndex"), (0, u "(I[B)V"), (0, .methodref 12 72), (0, .nameAndType 73 74), (0, u "getChar"), (0, u "([BI)C"), (24, u "(II[B)V"), (7, .methodref 12 108), (0, .nameAndType 109 110), (0, u "newBytesFor"), (0, u "(I)[B"), (0, .methodref 12 112), (0, .nameAndType 113 114), (0, u "putChar"), (0, u "([BII)V"), (0, .methodref 12 116), (0, .nameAndType 117 118), (0, u "compress"), (0, u "([CI[BII)I"), (0, .methodref 12 120), (0, .nameAndType 121 122), (0, u "toBytes"), (0, u "([CII)[B"), (0, .methodref 12 124), (0, .nameAndType 117 125), (0, u "([BI[BII)I"), (0, .methodref 127 128), (0, .class_ 129), (0, .nameAndType 130 131), (0, u "java/util/Arrays"), (0, u "copyOfRange"), (0, u "([BII)[B"), (8, u "inflate"), (0, u "([BI[BII)V"), (31, .methodref 12 174), (0, .nameAndType 175 99), (0, u "checkBoundsOffCount"), (75, .fieldref 3 252), (0, .nameAndType 253 47), (0, u "COMPACT_STRINGS"), (3, .methodref 12 258), (0, .nameAndType 117 131), (0, .methodref 12 260), (0, .nameAndType 261 262), (0, u "coderFromArrayLen"), (0, u "([BI)B"), (0, .methodref 3 264), (0, .nameAndType 9 265), (0, u "([BB)V"), (15, u "(III)I"), (45, u "newString"), (0, u "([BII)Ljava/lang/String;"), (40, .class_ 371), (1, u "java/lang/StringUTF16$LinesSpliterator"), (42, .methodref 3 415), (0, .nameAndType 69 416), (0, u "(II)V"), (2, .methodref 3 420), (0, .nameAndType 175 281), (9, u "MAX_LENGTH"), (155, u "putCharSB"), (40, .class_ 628), (0, u "java/lang/StringUTF16$CodePointsSpliterator"), (0, .class_ 630), (0, u "java/lang/StringUTF16$CharsSpliterator")] 4

def k8m0 : Method := { name := "<init>", desc := "()V", sig := { parameters := [], returnType := none }, accessFlags := 0, code := none }
def k8c1 : Code := { maxStack := 1, maxLocals := 1, code := jdk_52_method_2_code, exceptionTable := #[], attributes := #[] }
def k8m1 : Method := { name := "newBytesFor", desc := "(I)[B", sig := { parameters := [.int], returnType := some (.array .byte) }, accessFlags := 9, code := some k8c1 }
def k8c2 : Code := { maxStack := 4, maxLocals := 1, code := jdk_52_method_3_code, exceptionTable := #[], attributes := #[] }
def k8m2 : Method := { name := "newBytesLength", desc := "(I)I", sig := { parameters := [.int], returnType := some .int }, accessFlags := 9, code := some k8c2 }
def k8c3 : Code := { maxStack := 4, maxLocals := 3, code := jdk_52_method_4_code, exceptionTable := #[], attributes := #[] }
def k8m3 : Method := { name := "putChar", desc := "([BII)V", sig := { parameters := [(.array .byte), .int, .int], returnType := none }, accessFlags := 8, code := some k8c3 }
def k8c4 : Code := { maxStack := 3, maxLocals := 2, code := jdk_52_method_5_code, exceptionTable := #[], attributes := #[] }
def k8m4 : Method := { name := "getChar", desc := "([BI)C", sig := { parameters := [(.array .byte), .int], returnType := some .char }, accessFlags := 8, code := some k8c4 }
def k8c5 : Code := { maxStack := 2, maxLocals := 1, code := jdk_52_method_6_code, exceptionTable := #[], attributes := #[] }
def k8m5 : Method := { name := "length", desc := "([B)I", sig := { parameters := [(.array .byte)], returnType := some .int }, accessFlags := 9, code := some k8c5 }
def k8c6 : Code := { maxStack := 4, maxLocals := 5, code := jdk_52_method_14_code, exceptionTable := #[], attributes := #[] }
def k8m6 : Method := { name := "toBytes", desc := "([CII)[B", sig := { parameters := [(.array .char), .int, .int], returnType := some (.array .byte) }, accessFlags := 9, code := some k8c6 }
def k8c7 : Code := { maxStack := 2, maxLocals := 2, code := jdk_52_method_15_code, exceptionTable := #[], attributes := #[] }
def k8m7 : Method := { name := "coderFromArrayLen", desc := "([BI)B", sig := { parameters := [(.array .byte), .int], returnType := some .byte }, accessFlags := 8, code := some k8c7 }
def k8c8 : Code := { maxStack := 5, maxLocals := 6, code := jdk_52_method_16_code, exceptionTable := #[], attributes := #[] }
def k8m8 : Method := { name := "compress", desc := "([CII)[B", sig := { parameters := [(.array .char), .int, .int], returnType := some (.array .byte) }, accessFlags := 9, code := some k8c8 }
def k8c9 : Code := { maxStack := 5, maxLocals := 6, code := jdk_52_method_17_code, exceptionTable := #[], attributes := #[] }
def k8m9 : Method := { name := "compress", desc := "([BII)[B", sig := { parameters := [(.array .byte), .int, .int], returnType := some (.array .byte) }, accessFlags := 9, code := some k8c9 }
def k8c10 : Code := { maxStack := 3, maxLocals := 7, code := jdk_52_method_21_code, exceptionTable := #[], attributes := #[] }
def k8m10 : Method := { name := "compress", desc := "([CI[BII)I", sig := { parameters := [(.array .char), .int, (.array .byte), .int, .int], returnType := some .int }, accessFlags := 9, code := some k8c10 }
def k8c11 : Code := { maxStack := 3, maxLocals := 7, code := jdk_52_method_22_code, exceptionTable := #[], attributes := #[] }
def k8m11 : Method := { name := "compress", desc := "([BI[BII)I", sig := { parameters := [(.array .byte), .int, (.array .byte), .int, .int], returnType := some .int }, accessFlags := 9, code := some k8c11 }
def k8c12 : Code := { maxStack := 6, maxLocals := 5, code := jdk_52_method_69_code, exceptionTable := #[], attributes := #[] }
def k8m12 : Method := { name := "newString", desc := "([BII)Ljava/lang/String;", sig := { parameters := [(.array .byte), .int, .int], returnType := some (.object "java/lang/String") }, accessFlags := 9, code := some k8c12 }
def k8c13 : Code := { maxStack := 3, maxLocals := 3, code := jdk_52_method_71_code, exceptionTable := #[], attributes := #[] }
def k8m13 : Method := { name := "putCharSB", desc := "([BII)V", sig := { parameters := [(.array .byte), .int, .int], returnType := none }, accessFlags := 9, code := some k8c13 }
def k8c14 : Code := { maxStack := 4, maxLocals := 6, code := jdk_52_method_86_code, exceptionTable := #[], attributes := #[] }
def k8m14 : Method := { name := "inflate", desc := "([BI[BII)V", sig := { parameters := [(.array .byte), .int, (.array .byte), .int, .int], returnType := none }, accessFlags := 9, code := some k8c14 }
def k8c15 : Code := { maxStack := 2, maxLocals := 2, code := jdk_52_method_91_code, exceptionTable := #[], attributes := #[] }
def k8m15 : Method := { name := "checkIndex", desc := "(I[B)V", sig := { parameters := [.int, (.array .byte)], returnType := none }, accessFlags := 9, code := some k8c15 }
def k8c16 : Code := { maxStack := 3, maxLocals := 3, code := jdk_52_method_94_code, exceptionTable := #[], attributes := #[] }
def k8m16 : Method := { name := "checkBoundsOffCount", desc := "(II[B)V", sig := { parameters := [.int, .int, (.array .byte)], returnType := none }, accessFlags := 9, code := some k8c16 }
/-- java/lang/StringUTF16 -/
def k8 : Class := { plain "java/lang/StringUTF16" (some 0) with
  accessFlags := 48
  interfaces := #[]
  cf := some (fileOf pool8 12 #[.nestMembers #[627, 629, 369]] #[{ accessFlags := 0, nameIndex := 9, descriptorIndex := 10, attributes := #[] }, { accessFlags := 9, nameIndex := 109, descriptorIndex := 110, attributes := #[] }, { accessFlags := 9, nameIndex := 15, descriptorIndex := 16, attributes := #[] }, { accessFlags := 8, nameIndex := 113, descriptorIndex := 114, attributes := #[] }, { accessFlags := 8, nameIndex := 73, descriptorIndex := 74, attributes := #[] }, { accessFlags := 9, nameIndex := 50, descriptorIndex := 51, attributes := #[] }, { accessFlags := 9, nameIndex := 121, descriptorIndex := 122, attributes := #[] }, { accessFlags := 8, nameIndex := 261, descriptorIndex := 262, attributes := #[] }, { accessFlags := 9, nameIndex := 117, descriptorIndex := 122, attributes := #[] }, { accessFlags := 9, nameIndex := 117, descriptorIndex := 131, attributes := #[] }, { accessFlags := 9, nameIndex := 117, descriptorIndex := 118, attributes := #[] }, { accessFlags := 9, nameIndex := 117, descriptorIndex := 125, attributes := #[] }, { accessFlags := 9, nameIndex := 327, descriptorIndex := 328, attributes := #[] }, { accessFlags := 9, nameIndex := 586, descriptorIndex := 114, attributes := #[] }, { accessFlags := 9, nameIndex := 140, descriptorIndex := 141, attributes := #[] }, { accessFlags := 9, nameIndex := 69, descriptorIndex := 70, attributes := #[] }, { accessFlags := 9, nameIndex := 175, descriptorIndex := 99, attributes := #[] }] 48 6 #[] #[{ accessFlags := 26, nameIndex := 61, descriptorIndex := 62, attributes := #[] }, { accessFlags := 26, nameIndex := 65, descriptorIndex := 62, attributes := #[] }, { accessFlags := 24, nameIndex := 430, descriptorIndex := 62, attributes := #[] }, { accessFlags := 4120, nameIndex := 46, descriptorIndex := 47, attributes := #[] }])
  fields := #[{ name := "HI_BYTE_SHIFT", type := .int, accessFlags := 26, slot := 0, constantValue := 0 }, { name := "LO_BYTE_SHIFT", type := .int, accessFlags := 26, slot := 1, constantValue := 0 }, { name := "MAX_LENGTH", type := .int, accessFlags := 24, slot := 2, constantValue := 0 }, { name := "$assertionsDisabled", type := .boolean, accessFlags := 4120, slot := 3, constantValue := 0 }]
  methods := #[k8m0, k8m1, k8m2, k8m3, k8m4, k8m5, k8m6, k8m7, k8m8, k8m9, k8m10, k8m11, k8m12, k8m13, k8m14, k8m15, k8m16]
  instanceTypes := #[]
  staticTypes := #[.int, .int, .int, .boolean]
  resolved := Array.replicate 635 none
  statics := some 1 }

def pool9 : Array CpInfo := pool [(1, .methodref 2 3), (0, .class_ 4), (0, .nameAndType 5 6), (0, u "java/lang/Object"), (0, u "<init>"), (0, u "()V"), (0, .class_ 8), (0, u "java/lang/Record")] 13

def k9c0 : Code := { maxStack := 1, maxLocals := 1, code := jdk_30_method_1_code, exceptionTable := #[], attributes := #[] }
def k9m0 : Method := { name := "<init>", desc := "()V", sig := { parameters := [], returnType := none }, accessFlags := 4, code := some k9c0 }
/-- java/lang/Record -/
def k9 : Class := { plain "java/lang/Record" (some 0) with
  accessFlags := 1057
  interfaces := #[]
  cf := some (fileOf pool9 7 #[] #[{ accessFlags := 4, nameIndex := 5, descriptorIndex := 6, attributes := #[] }] 1057 2 #[] #[])
  fields := #[]
  methods := #[k9m0]
  instanceTypes := #[]
  staticTypes := #[]
  resolved := Array.replicate 22 none
  statics := none }

def pool10 : Array CpInfo := pool [(1, .methodref 2 3), (0, .class_ 4), (0, .nameAndType 5 6), (0, u "java/lang/Record"), (0, u "<init>"), (0, u "()V"), (0, .fieldref 8 9), (0, .class_ 10), (0, .nameAndType 11 12), (0, u "com/example/kolejka/kolejka/Dialect$KeyRange"), (0, u "from"), (0, u "Ljava/lang/String;"), (0, .fieldref 8 14), (0, .nameAndType 15 12), (0, u "to"), (0, .string 17), (0, u "/"), (0, .methodref 19 20), (0, .class_ 21), (0, .nameAndType 22 23), (0, u "java/lang/String"), (0, u "endsWith"), (0, u "(Ljava/lang/String;)Z"), (2, .class_ 27), (0, u "java/lang/StringBuilder"), (0, .methodref 26 3), (2, .methodref 26 32), (0, .nameAndType 33 34), (0, u "append"), (0, u "(Ljava/lang/String;)Ljava/lang/StringBuilder;"), (2, .methodref 26 38), (0, .nameAndType 39 40), (0, u "toString"), (0, u "()Ljava/lang/String;"), (3, .methodref 19 45), (0, .nameAndType 46 47), (0, u "length"), (0, u "()I"), (0, .methodref 19 49), (0, .nameAndType 50 51), (0, u "substring"), (0, u "(II)Ljava/lang/String;"), (0, .methodref 26 53), (0, .nameAndType 33 54), (0, u "(C)Ljava/lang/StringBuilder;"), (0, .methodref 8 56), (0, .nameAndType 5 57), (0, u "(Ljava/lang/String;Ljava/lang/String;)V"), (14, u "startingWith"), (0, u "(Ljava/lang/String;)Lcom/example/kolejka/kolejka/Dialect$KeyRange;"), (5, .class_ 80), (0, u "com/example/kolejka/kolejka/Dialect")] 20

def k10c0 : Code := { maxStack := 2, maxLocals := 3, code := prog_8_method_1_code, exceptionTable := #[], attributes := #[] }
def k10m0 : Method := { name := "<init>", desc := "(Ljava/lang/String;Ljava/lang/String;)V", sig := { parameters := [(.object "java/lang/String"), (.object "java/lang/String")], returnType := none }, accessFlags := 0, code := some k10c0 }
def k10c1 : Code := { maxStack := 8, maxLocals := 1, code := prog_8_method_2_code, exceptionTable := #[], attributes := #[] }
def k10m1 : Method := { name := "startingWith", desc := "(Ljava/lang/String;)Lcom/example/kolejka/kolejka/Dialect$KeyRange;", sig := { parameters := [(.object "java/lang/String")], returnType := some (.object "com/example/kolejka/kolejka/Dialect$KeyRange") }, accessFlags := 8, code := some k10c1 }
def k10c2 : Code := { maxStack := 1, maxLocals := 1, code := prog_8_method_6_code, exceptionTable := #[], attributes := #[] }
def k10m2 : Method := { name := "from", desc := "()Ljava/lang/String;", sig := { parameters := [], returnType := some (.object "java/lang/String") }, accessFlags := 1, code := some k10c2 }
def k10c3 : Code := { maxStack := 1, maxLocals := 1, code := prog_8_method_7_code, exceptionTable := #[], attributes := #[] }
def k10m3 : Method := { name := "to", desc := "()Ljava/lang/String;", sig := { parameters := [], returnType := some (.object "java/lang/String") }, accessFlags := 1, code := some k10c3 }
/-- com/example/kolejka/kolejka/Dialect$KeyRange -/
def k10 : Class := { plain "com/example/kolejka/kolejka/Dialect$KeyRange" (some 9) with
  accessFlags := 48
  interfaces := #[]
  cf := some (fileOf pool10 8 #[.nestHost 79] #[{ accessFlags := 0, nameIndex := 5, descriptorIndex := 57, attributes := #[] }, { accessFlags := 8, nameIndex := 72, descriptorIndex := 73, attributes := #[] }, { accessFlags := 1, nameIndex := 11, descriptorIndex := 40, attributes := #[] }, { accessFlags := 1, nameIndex := 15, descriptorIndex := 40, attributes := #[] }] 48 2 #[] #[{ accessFlags := 18, nameIndex := 11, descriptorIndex := 12, attributes := #[] }, { accessFlags := 18, nameIndex := 15, descriptorIndex := 12, attributes := #[] }])
  fields := #[{ name := "from", type := (.object "java/lang/String"), accessFlags := 18, slot := 0, constantValue := 0 }, { name := "to", type := (.object "java/lang/String"), accessFlags := 18, slot := 1, constantValue := 0 }]
  methods := #[k10m0, k10m1, k10m2, k10m3]
  instanceTypes := #[(.object "java/lang/String"), (.object "java/lang/String")]
  staticTypes := #[]
  resolved := Array.replicate 101 none
  statics := none }

def pool11 : Array CpInfo := pool [(9, u "<init>"), (6, .class_ 18), (1, u "java/lang/Object"), (0, u "()V"), (1, .class_ 23), (1, u "jdk/internal/util/ArraysSupport"), (0, u "LOG2_ARRAY_LONG_INDEX_SCALE"), (0, u "I"), (2, u "U"), (0, u "Ljdk/internal/misc/Unsafe;"), (8, u "BIG_ENDIAN"), (0, u "Z"), (8, u "LOG2_BYTE_BIT_SIZE"), (4, u "LOG2_ARRAY_INT_INDEX_SCALE"), (54, u "JLA"), (0, u "Ljdk/internal/access/JavaLangAccess;"), (11, u "LOG2_ARRAY_BOOLEAN_INDEX_SCALE"), (9, u "LOG2_ARRAY_BYTE_INDEX_SCALE"), (5, u "LOG2_ARRAY_CHAR_INDEX_SCALE"), (5, u "LOG2_ARRAY_SHORT_INDEX_SCALE"), (5, u "mismatch"), (12, u "LOG2_ARRAY_FLOAT_INDEX_SCALE"), (24, u "LOG2_ARRAY_DOUBLE_INDEX_SCALE"), (89, u "T_BOOLEAN"), (2, u "T_CHAR"), (1, u "T_FLOAT"), (1, u "T_DOUBLE"), (1, u "T_BYTE"), (1, u "T_SHORT"), (1, u "T_INT"), (1, u "T_LONG"), (1, u "SOFT_MAX_ARRAY_LENGTH"), (42, u "([BI[BII)I")] 40

def k11m0 : Method := { name := "<init>", desc := "()V", sig := { parameters := [], returnType := none }, accessFlags := 2, code := none }
def k11c1 : Code := { maxStack := 8, maxLocals := 8, code := jdk_48_method_14_code, exceptionTable := #[], attributes := #[] }
def k11m1 : Method := { name := "mismatch", desc := "([BI[BII)I", sig := { parameters := [(.array .byte), .int, (.array .byte), .int, .int], returnType := some .int }, accessFlags := 9, code := some k11c1 }
/-- jdk/internal/util/ArraysSupport -/
def k11 : Class := { plain "jdk/internal/util/ArraysSupport" (some 0) with
  accessFlags := 33
  interfaces := #[]
  cf := some (fileOf pool11 21 #[] #[{ accessFlags := 2, nameIndex := 9, descriptorIndex := 19, attributes := #[] }, { accessFlags := 9, nameIndex := 149, descriptorIndex := 337, attributes := #[] }] 33 16 #[] #[{ accessFlags := 24, nameIndex := 28, descriptorIndex := 29, attributes := #[] }, { accessFlags := 26, nameIndex := 38, descriptorIndex := 39, attributes := #[] }, { accessFlags := 25, nameIndex := 121, descriptorIndex := 25, attributes := #[] }, { accessFlags := 25, nameIndex := 131, descriptorIndex := 25, attributes := #[] }, { accessFlags := 25, nameIndex := 137, descriptorIndex := 25, attributes := #[] }, { accessFlags := 25, nameIndex := 143, descriptorIndex := 25, attributes := #[] }, { accessFlags := 25, nameIndex := 53, descriptorIndex := 25, attributes := #[] }, { accessFlags := 25, nameIndex := 24, descriptorIndex := 25, attributes := #[] }, { accessFlags := 25, nameIndex := 162, descriptorIndex := 25, attributes := #[] }, { accessFlags := 25, nameIndex := 187, descriptorIndex := 25, attributes := #[] }, { accessFlags := 26, nameIndex := 48, descriptorIndex := 25, attributes := #[] }, { accessFlags := 25, nameIndex := 277, descriptorIndex := 25, attributes := #[] }, { accessFlags := 25, nameIndex := 280, descriptorIndex := 25, attributes := #[] }, { accessFlags := 25, nameIndex := 282, descriptorIndex := 25, attributes := #[] }, { accessFlags := 25, nameIndex := 284, descriptorIndex := 25, attributes := #[] }, { accessFlags := 25, nameIndex := 286, descriptorIndex := 25, attributes := #[] }, { accessFlags := 25, nameIndex := 288, descriptorIndex := 25, attributes := #[] }, { accessFlags := 25, nameIndex := 290, descriptorIndex := 25, attributes := #[] }, { accessFlags := 25, nameIndex := 292, descriptorIndex := 25, attributes := #[] }, { accessFlags := 26, nameIndex := 108, descriptorIndex := 109, attributes := #[] }, { accessFlags := 25, nameIndex := 294, descriptorIndex := 25, attributes := #[] }])
  fields := #[{ name := "U", type := (.object "jdk/internal/misc/Unsafe"), accessFlags := 24, slot := 0, constantValue := 0 }, { name := "BIG_ENDIAN", type := .boolean, accessFlags := 26, slot := 1, constantValue := 0 }, { name := "LOG2_ARRAY_BOOLEAN_INDEX_SCALE", type := .int, accessFlags := 25, slot := 2, constantValue := 0 }, { name := "LOG2_ARRAY_BYTE_INDEX_SCALE", type := .int, accessFlags := 25, slot := 3, constantValue := 0 }, { name := "LOG2_ARRAY_CHAR_INDEX_SCALE", type := .int, accessFlags := 25, slot := 4, constantValue := 0 }, { name := "LOG2_ARRAY_SHORT_INDEX_SCALE", type := .int, accessFlags := 25, slot := 5, constantValue := 0 }, { name := "LOG2_ARRAY_INT_INDEX_SCALE", type := .int, accessFlags := 25, slot := 6, constantValue := 0 }, { name := "LOG2_ARRAY_LONG_INDEX_SCALE", type := .int, accessFlags := 25, slot := 7, constantValue := 0 }, { name := "LOG2_ARRAY_FLOAT_INDEX_SCALE", type := .int, accessFlags := 25, slot := 8, constantValue := 0 }, { name := "LOG2_ARRAY_DOUBLE_INDEX_SCALE", type := .int, accessFlags := 25, slot := 9, constantValue := 0 }, { name := "LOG2_BYTE_BIT_SIZE", type := .int, accessFlags := 26, slot := 10, constantValue := 0 }, { name := "T_BOOLEAN", type := .int, accessFlags := 25, slot := 11, constantValue := 0 }, { name := "T_CHAR", type := .int, accessFlags := 25, slot := 12, constantValue := 0 }, { name := "T_FLOAT", type := .int, accessFlags := 25, slot := 13, constantValue := 0 }, { name := "T_DOUBLE", type := .int, accessFlags := 25, slot := 14, constantValue := 0 }, { name := "T_BYTE", type := .int, accessFlags := 25, slot := 15, constantValue := 0 }, { name := "T_SHORT", type := .int, accessFlags := 25, slot := 16, constantValue := 0 }, { name := "T_INT", type := .int, accessFlags := 25, slot := 17, constantValue := 0 }, { name := "T_LONG", type := .int, accessFlags := 25, slot := 18, constantValue := 0 }, { name := "JLA", type := (.object "jdk/internal/access/JavaLangAccess"), accessFlags := 26, slot := 19, constantValue := 0 }, { name := "SOFT_MAX_ARRAY_LENGTH", type := .int, accessFlags := 25, slot := 20, constantValue := 0 }]
  methods := #[k11m0, k11m1]
  instanceTypes := #[]
  staticTypes := #[(.object "jdk/internal/misc/Unsafe"), .boolean, .int, .int, .int, .int, .int, .int, .int, .int, .int, .int, .int, .int, .int, .int, .int, .int, .int, (.object "jdk/internal/access/JavaLangAccess"), .int]
  resolved := Array.replicate 378 none
  statics := none }

def pool12 : Array CpInfo := pool [(1, .class_ 2), (0, u "java/lang/Appendable"), (0, .class_ 4), (0, u "java/lang/Object")] 9

/-- java/lang/Appendable -/
def k12 : Class := { plain "java/lang/Appendable" (some 0) with
  accessFlags := 1537
  interfaces := #[]
  cf := some (fileOf pool12 1 #[] #[] 1537 3 #[] #[])
  fields := #[]
  methods := #[]
  instanceTypes := #[]
  staticTypes := #[]
  resolved := Array.replicate 14 none
  statics := none }

def pool13 : Array CpInfo := pool [(1, .class_ 2), (0, u "java/lang/String"), (0, .methodref 4 5), (0, .class_ 6), (0, .nameAndType 7 8), (0, u "java/lang/Object"), (0, u "<init>"), (0, u "()V"), (1, .class_ 12), (1, u "java/lang/AbstractStringBuilder"), (0, u "EMPTYVALUE"), (0, u "[B"), (0, .fieldref 10 16), (0, .nameAndType 17 14), (0, u "value"), (0, .fieldref 1 19), (0, .nameAndType 20 21), (0, u "COMPACT_STRINGS"), (0, u "Z"), (0, .fieldref 10 23), (0, .nameAndType 24 25), (0, u "coder"), (0, u "B"), (0, .methodref 27 28), (0, .class_ 29), (0, .nameAndType 30 31), (0, u "java/lang/StringUTF16"), (0, u "newBytesFor"), (0, u "(I)[B"), (0, .methodref 1 33), (0, .nameAndType 34 35), (0, u "length"), (0, u "()I"), (4, .methodref 1 41), (0, .nameAndType 24 42), (0, u "()B"), (2, u "append"), (0, u "(Ljava/lang/String;)Ljava/lang/AbstractStringBuilder;"), (1, .class_ 49), (0, u "java/lang/CharSequence"), (19, u "(Ljava/lang/String;)V"), (5, u "maybeLatin1"), (3, .fieldref 10 80), (0, .nameAndType 81 82), (0, u "count"), (0, u "I"), (0, .methodref 10 84), (0, .nameAndType 85 86), (0, u "isLatin1"), (0, u "()Z"), (1, .class_ 90), (1, u "java/lang/StringLatin1"), (9, .methodref 10 101), (0, .nameAndType 102 103), (0, u "ensureCapacityInternal"), (0, u "(I)V"), (21, .methodref 88 126), (0, .nameAndType 127 128), (0, u "inflate"), (0, u "([BI[BII)V"), (7, u "([BII)V"), (54, .methodref 88 192), (0, .nameAndType 193 194), (0, u "canEncode"), (0, u "(C)Z"), (0, .methodref 10 196), (0, .nameAndType 127 8), (0, .methodref 27 198), (0, .nameAndType 199 136), (0, u "putCharSB"), (8, .methodref 10 209), (0, .nameAndType 210 211), (0, u "putStringAt"), (0, u "(ILjava/lang/String;)V"), (5, u "inflateIfNeededFor"), (2, .nameAndType 221 222), (0, u "getBytes"), (0, u "([BIB)V"), (69, u "(C)Ljava/lang/AbstractStringBuilder;"), (104, .methodref 10 398), (0, .nameAndType 217 69), (0, .methodref 1 220), (3, u "()[B"), (40, .class_ 445), (0, u "java/lang/Appendable"), (106, u "getValue")] 56

def k13m0 : Method := { name := "<init>", desc := "()V", sig := { parameters := [], returnType := none }, accessFlags := 0, code := none }
def k13c1 : Code := { maxStack := 2, maxLocals := 2, code := jdk_68_method_2_code, exceptionTable := #[], attributes := #[] }
def k13m1 : Method := { name := "<init>", desc := "(I)V", sig := { parameters := [.int], returnType := none }, accessFlags := 0, code := some k13c1 }
def k13c2 : Code := { maxStack := 1, maxLocals := 1, code := jdk_68_method_6_code, exceptionTable := #[], attributes := #[] }
def k13m2 : Method := { name := "length", desc := "()I", sig := { parameters := [], returnType := some .int }, accessFlags := 1, code := some k13c2 }
def k13c3 : Code := { maxStack := 4, maxLocals := 3, code := jdk_68_method_9_code, exceptionTable := #[], attributes := #[] }
def k13m3 : Method := { name := "ensureCapacityInternal", desc := "(I)V", sig := { parameters := [.int], returnType := none }, accessFlags := 2, code := some k13c3 }
def k13c4 : Code := { maxStack := 5, maxLocals := 2, code := jdk_68_method_11_code, exceptionTable := #[], attributes := #[] }
def k13m4 : Method := { name := "inflate", desc := "()V", sig := { parameters := [], returnType := none }, accessFlags := 2, code := some k13c4 }
def k13c5 : Code := { maxStack := 3, maxLocals := 3, code := jdk_68_method_22_code, exceptionTable := #[], attributes := #[] }
def k13m5 : Method := { name := "append", desc := "(Ljava/lang/String;)Ljava/lang/AbstractStringBuilder;", sig := { parameters := [(.object "java/lang/String")], returnType := some (.object "java/lang/AbstractStringBuilder") }, accessFlags := 1, code := some k13c5 }
def k13c6 : Code := { maxStack := 5, maxLocals := 2, code := jdk_68_method_31_code, exceptionTable := #[], attributes := #[] }
def k13m6 : Method := { name := "append", desc := "(C)Ljava/lang/AbstractStringBuilder;", sig := { parameters := [.char], returnType := some (.object "java/lang/AbstractStringBuilder") }, accessFlags := 1, code := some k13c6 }
def k13c7 : Code := { maxStack := 1, maxLocals := 1, code := jdk_68_method_64_code, exceptionTable := #[], attributes := #[] }
def k13m7 : Method := { name := "getValue", desc := "()[B", sig := { parameters := [], returnType := some (.array .byte) }, accessFlags := 16, code := some k13c7 }
def k13c8 : Code := { maxStack := 1, maxLocals := 1, code := jdk_68_method_68_code, exceptionTable := #[], attributes := #[] }
def k13m8 : Method := { name := "isLatin1", desc := "()Z", sig := { parameters := [], returnType := some .boolean }, accessFlags := 16, code := some k13c8 }
def k13c9 : Code := { maxStack := 2, maxLocals := 2, code := jdk_68_method_71_code, exceptionTable := #[], attributes := #[] }
def k13m9 : Method := { name := "inflateIfNeededFor", desc := "(Ljava/lang/String;)V", sig := { parameters := [(.object "java/lang/String")], returnType := none }, accessFlags := 2, code := some k13c9 }
def k13c10 : Code := { maxStack := 4, maxLocals := 3, code := jdk_68_method_73_code, exceptionTable := #[], attributes := #[] }
def k13m10 : Method := { name := "putStringAt", desc := "(ILjava/lang/String;)V", sig := { parameters := [.int, (.object "java/lang/String")], returnType := none }, accessFlags := 2, code := some k13c10 }
/-- java/lang/AbstractStringBuilder -/
def k13 : Class := { plain "java/lang/AbstractStringBuilder" (some 0) with
  accessFlags := 1056
  interfaces := #[12, 4]
  cf := some (fileOf pool13 10 #[] #[{ accessFlags := 0, nameIndex := 7, descriptorIndex := 8, attributes := #[] }, { accessFlags := 0, nameIndex := 7, descriptorIndex := 103, attributes := #[] }, { accessFlags := 1, nameIndex := 34, descriptorIndex := 35, attributes := #[] }, { accessFlags := 2, nameIndex := 102, descriptorIndex := 103, attributes := #[] }, { accessFlags := 2, nameIndex := 127, descriptorIndex := 8, attributes := #[] }, { accessFlags := 1, nameIndex := 45, descriptorIndex := 46, attributes := #[] }, { accessFlags := 1, nameIndex := 45, descriptorIndex := 292, attributes := #[] }, { accessFlags := 16, nameIndex := 552, descriptorIndex := 403, attributes := #[] }, { accessFlags := 16, nameIndex := 85, descriptorIndex := 86, attributes := #[] }, { accessFlags := 2, nameIndex := 217, descriptorIndex := 69, attributes := #[] }, { accessFlags := 2, nameIndex := 210, descriptorIndex := 211, attributes := #[] }] 1056 4 #[444, 48] #[{ accessFlags := 0, nameIndex := 17, descriptorIndex := 14, attributes := #[] }, { accessFlags := 0, nameIndex := 24, descriptorIndex := 25, attributes := #[] }, { accessFlags := 0, nameIndex := 75, descriptorIndex := 21, attributes := #[] }, { accessFlags := 0, nameIndex := 81, descriptorIndex := 82, attributes := #[] }, { accessFlags := 26, nameIndex := 13, descriptorIndex := 14, attributes := #[] }])
  fields := #[{ name := "value", type := (.array .byte), accessFlags := 0, slot := 0, constantValue := 0 }, { name := "coder", type := .byte, accessFlags := 0, slot := 1, constantValue := 0 }, { name := "maybeLatin1", type := .boolean, accessFlags := 0, slot := 2, constantValue := 0 }, { name := "count", type := .int, accessFlags := 0, slot := 3, constantValue := 0 }, { name := "EMPTYVALUE", type := (.array .byte), accessFlags := 26, slot := 0, constantValue := 0 }]
  methods := #[k13m0, k13m1, k13m2, k13m3, k13m4, k13m5, k13m6, k13m7, k13m8, k13m9, k13m10]
  instanceTypes := #[(.array .byte), .byte, .boolean, .int]
  staticTypes := #[(.array .byte)]
  resolved := Array.replicate 609 none
  statics := none }

def pool14 : Array CpInfo := pool [(1, .methodref 2 3), (0, .class_ 4), (0, .nameAndType 5 6), (0, u "java/lang/AbstractStringBuilder"), (0, u "<init>"), (0, u "(I)V"), (11, .class_ 20), (1, u "java/lang/String"), (3, .class_ 26), (1, u "java/lang/StringBuilder"), (0, u "append"), (0, u "(Ljava/lang/String;)Ljava/lang/StringBuilder;"), (0, .methodref 2 30), (0, .nameAndType 27 31), (0, u "(Ljava/lang/String;)Ljava/lang/AbstractStringBuilder;"), (18, .methodref 2 51), (0, .nameAndType 27 52), (0, u "(C)Ljava/lang/AbstractStringBuilder;"), (84, .methodref 18 138), (0, .nameAndType 5 139), (0, u "(Ljava/lang/StringBuilder;)V"), (5, u "()V"), (10, u "()I"), (129, u "(C)Ljava/lang/StringBuilder;"), (56, .methodref 2 344), (0, .nameAndType 345 156), (0, u "length"), (3, .class_ 350), (0, u "java/lang/Appendable"), (0, .class_ 352), (0, u "java/io/Serializable"), (0, .class_ 354), (0, u "java/lang/Comparable"), (0, .class_ 356), (0, u "java/lang/CharSequence"), (0, u "serialVersionUID"), (0, u "J"), (40, u "toString"), (0, u "()Ljava/lang/String;")] 21

def k14c0 : Code := { maxStack := 2, maxLocals := 1, code := jdk_67_method_1_code, exceptionTable := #[], attributes := #[] }
def k14m0 : Method := { name := "<init>", desc := "()V", sig := { parameters := [], returnType := none }, accessFlags := 1, code := some k14c0 }
def k14c1 : Code := { maxStack := 2, maxLocals := 2, code := jdk_67_method_7_code, exceptionTable := #[], attributes := #[] }
def k14m1 : Method := { name := "append", desc := "(Ljava/lang/String;)Ljava/lang/StringBuilder;", sig := { parameters := [(.object "java/lang/String")], returnType := some (.object "java/lang/StringBuilder") }, accessFlags := 1, code := some k14c1 }
def k14c2 : Code := { maxStack := 2, maxLocals := 2, code := jdk_67_method_14_code, exceptionTable := #[], attributes := #[] }
def k14m2 : Method := { name := "append", desc := "(C)Ljava/lang/StringBuilder;", sig := { parameters := [.char], returnType := some (.object "java/lang/StringBuilder") }, accessFlags := 1, code := some k14c2 }
def k14c3 : Code := { maxStack := 3, maxLocals := 1, code := jdk_67_method_42_code, exceptionTable := #[], attributes := #[] }
def k14m3 : Method := { name := "toString", desc := "()Ljava/lang/String;", sig := { parameters := [], returnType := some (.object "java/lang/String") }, accessFlags := 1, code := some k14c3 }
def k14c4 : Code := { maxStack := 1, maxLocals := 1, code := jdk_67_method_93_code, exceptionTable := #[], attributes := #[] }
def k14m4 : Method := { name := "length", desc := "()I", sig := { parameters := [], returnType := some .int }, accessFlags := 4161, code := some k14c4 }
/-- java/lang/StringBuilder -/
def k14 : Class := { plain "java/lang/StringBuilder" (some 13) with
  accessFlags := 49
  interfaces := #[12, 2, 3, 4]
  cf := some (fileOf pool14 24 #[] #[{ accessFlags := 1, nameIndex := 5, descriptorIndex := 145, attributes := #[] }, { accessFlags := 1, nameIndex := 27, descriptorIndex := 28, attributes := #[] }, { accessFlags := 1, nameIndex := 27, descriptorIndex := 286, attributes := #[] }, { accessFlags := 1, nameIndex := 399, descriptorIndex := 400, attributes := #[] }, { accessFlags := 4161, nameIndex := 345, descriptorIndex := 156, attributes := #[] }] 49 2 #[349, 351, 353, 355] #[{ accessFlags := 24, nameIndex := 357, descriptorIndex := 358, attributes := #[] }])
  fields := #[{ name := "serialVersionUID", type := .long, accessFlags := 24, slot := 0, constantValue := 0 }]
  methods := #[k14m0, k14m1, k14m2, k14m3, k14m4]
  instanceTypes := #[(.array .byte), .byte, .boolean, .int]
  staticTypes := #[.long]
  resolved := Array.replicate 422 none
  statics := none }

def pool15 : Array CpInfo := pool [(2, .class_ 4), (1, u "java/lang/Object"), (0, u "<init>"), (0, u "()V"), (17, .class_ 26), (1, u "jdk/internal/util/Preconditions"), (6, u "checkIndex"), (13, u "checkFromToIndex"), (1, u "checkFromIndexSize"), (5, .class_ 56), (0, u "jdk/internal/util/Preconditions$4"), (57, .class_ 115), (0, u "jdk/internal/util/Preconditions$1"), (7, u "SIOOBE_FORMATTER"), (0, u "Ljava/util/function/BiFunction;"), (0, .class_ 126), (0, u "jdk/internal/util/Preconditions$2"), (3, u "AIOOBE_FORMATTER"), (0, .class_ 132), (0, u "jdk/internal/util/Preconditions$3"), (3, u "IOOBE_FORMATTER"), (41, u "(IILjava/util/function/BiFunction;)I"), (4, u "(IIILjava/util/function/BiFunction;)I")] 10

def k15m0 : Method := { name := "<init>", desc := "()V", sig := { parameters := [], returnType := none }, accessFlags := 1, code := none }
def k15c1 : Code := { maxStack := 3, maxLocals := 3, code := jdk_41_method_11_code, exceptionTable := #[], attributes := #[] }
def k15m1 : Method := { name := "checkIndex", desc := "(IILjava/util/function/BiFunction;)I", sig := { parameters := [.int, .int, (.object "java/util/function/BiFunction")], returnType := some .int }, accessFlags := 9, code := some k15c1 }
def k15c2 : Code := { maxStack := 4, maxLocals := 4, code := jdk_41_method_12_code, exceptionTable := #[], attributes := #[] }
def k15m2 : Method := { name := "checkFromToIndex", desc := "(IIILjava/util/function/BiFunction;)I", sig := { parameters := [.int, .int, .int, (.object "java/util/function/BiFunction")], returnType := some .int }, accessFlags := 9, code := some k15c2 }
def k15c3 : Code := { maxStack := 4, maxLocals := 4, code := jdk_41_method_13_code, exceptionTable := #[], attributes := #[] }
def k15m3 : Method := { name := "checkFromIndexSize", desc := "(IIILjava/util/function/BiFunction;)I", sig := { parameters := [.int, .int, .int, (.object "java/util/function/BiFunction")], returnType := some .int }, accessFlags := 9, code := some k15c3 }
/-- jdk/internal/util/Preconditions -/
def k15 : Class := { plain "jdk/internal/util/Preconditions" (some 0) with
  accessFlags := 33
  interfaces := #[]
  cf := some (fileOf pool15 24 #[.nestMembers #[55, 131, 125, 114]] #[{ accessFlags := 1, nameIndex := 5, descriptorIndex := 6, attributes := #[] }, { accessFlags := 9, nameIndex := 33, descriptorIndex := 178, attributes := #[] }, { accessFlags := 9, nameIndex := 47, descriptorIndex := 183, attributes := #[] }, { accessFlags := 9, nameIndex := 49, descriptorIndex := 183, attributes := #[] }] 33 2 #[] #[{ accessFlags := 25, nameIndex := 123, descriptorIndex := 124, attributes := #[] }, { accessFlags := 25, nameIndex := 130, descriptorIndex := 124, attributes := #[] }, { accessFlags := 25, nameIndex := 136, descriptorIndex := 124, attributes := #[] }])
  fields := #[{ name := "SIOOBE_FORMATTER", type := (.object "java/util/function/BiFunction"), accessFlags := 25, slot := 0, constantValue := 0 }, { name := "AIOOBE_FORMATTER", type := (.object "java/util/function/BiFunction"), accessFlags := 25, slot := 1, constantValue := 0 }, { name := "IOOBE_FORMATTER", type := (.object "java/util/function/BiFunction"), accessFlags := 25, slot := 2, constantValue := 0 }]
  methods := #[k15m0, k15m1, k15m2, k15m3]
  instanceTypes := #[]
  staticTypes := #[(.object "java/util/function/BiFunction"), (.object "java/util/function/BiFunction"), (.object "java/util/function/BiFunction")]
  resolved := Array.replicate 194 none
  statics := some 2 }

def pool16 : Array CpInfo := pool [(1, .class_ 2), (0, u "java/lang/String"), (1, .class_ 6), (1, u "java/lang/Object"), (0, u "<init>"), (0, u "()V"), (5, .class_ 16), (1, u "java/lang/StringLatin1"), (0, u "inflate"), (2, .class_ 22), (1, u "java/lang/StringUTF16"), (3, .nameAndType 17 27), (0, u "([BI[BII)V"), (62, u "canEncode"), (14, u "(C)Z"), (6, .methodref 1 113), (0, .nameAndType 7 114), (0, u "([BB)V"), (6, u "$assertionsDisabled"), (0, u "Z"), (8, .class_ 133), (1, u "java/util/Arrays"), (17, .string 152), (0, u ""), (43, u "newString"), (0, u "([BII)Ljava/lang/String;"), (23, .class_ 223), (1, u "java/lang/StringLatin1$LinesSpliterator"), (8, .methodref 131 233), (0, .nameAndType 234 235), (0, u "copyOfRange"), (0, u "([BII)[B"), (4, .methodref 20 26), (40, u "equals"), (0, u "([B[B)Z"), (107, .class_ 391), (0, u "java/lang/StringLatin1$CharsSpliterator")] 3

def k16m0 : Method := { name := "<init>", desc := "()V", sig := { parameters := [], returnType := none }, accessFlags := 0, code := none }
def k16c1 : Code := { maxStack := 2, maxLocals := 1, code := jdk_43_method_3_code, exceptionTable := #[], attributes := #[] }
def k16m1 : Method := { name := "canEncode", desc := "(C)Z", sig := { parameters := [.char], returnType := some .boolean }, accessFlags := 9, code := some k16c1 }
def k16c2 : Code := { maxStack := 3, maxLocals := 3, code := jdk_43_method_13_code, exceptionTable := #[], attributes := #[] }
def k16m2 : Method := { name := "equals", desc := "([B[B)Z", sig := { parameters := [(.array .byte), (.array .byte)], returnType := some .boolean }, accessFlags := 9, code := some k16c2 }
def k16c3 : Code := { maxStack := 6, maxLocals := 3, code := jdk_43_method_47_code, exceptionTable := #[], attributes := #[] }
def k16m3 : Method := { name := "newString", desc := "([BII)Ljava/lang/String;", sig := { parameters := [(.array .byte), .int, .int], returnType := some (.object "java/lang/String") }, accessFlags := 9, code := some k16c3 }
def k16c4 : Code := { maxStack := 5, maxLocals := 5, code := jdk_43_method_50_code, exceptionTable := #[], attributes := #[] }
def k16m4 : Method := { name := "inflate", desc := "([BI[BII)V", sig := { parameters := [(.array .byte), .int, (.array .byte), .int, .int], returnType := none }, accessFlags := 9, code := some k16c4 }
/-- java/lang/StringLatin1 -/
def k16 : Class := { plain "java/lang/StringLatin1" (some 0) with
  accessFlags := 48
  interfaces := #[]
  cf := some (fileOf pool16 14 #[.nestMembers #[390, 221]] #[{ accessFlags := 0, nameIndex := 7, descriptorIndex := 8, attributes := #[] }, { accessFlags := 9, nameIndex := 90, descriptorIndex := 105, attributes := #[] }, { accessFlags := 9, nameIndex := 281, descriptorIndex := 282, attributes := #[] }, { accessFlags := 9, nameIndex := 196, descriptorIndex := 197, attributes := #[] }, { accessFlags := 9, nameIndex := 17, descriptorIndex := 27, attributes := #[] }] 48 4 #[] #[{ accessFlags := 4120, nameIndex := 121, descriptorIndex := 122, attributes := #[] }])
  fields := #[{ name := "$assertionsDisabled", type := .boolean, accessFlags := 4120, slot := 0, constantValue := 0 }]
  methods := #[k16m0, k16m1, k16m2, k16m3, k16m4]
  instanceTypes := #[]
  staticTypes := #[.boolean]
  resolved := Array.replicate 395 none
  statics := none }

def pool17 : Array CpInfo := pool [(2, .class_ 4), (1, u "java/lang/Object"), (0, u "<init>"), (0, u "()V"), (1, .class_ 10), (1, u "java/lang/System"), (0, u "allowSecurityManager"), (0, u "I"), (16, u "cons"), (0, u "Ljava/io/Console;"), (77, .class_ 110), (1, u "java/lang/System$CallersHolder"), (43, u "initialErrStream"), (0, u "Ljava/io/PrintStream;"), (19, u "security"), (0, u "Ljava/lang/SecurityManager;"), (31, .class_ 209), (0, u "java/lang/System$1"), (7, u "props"), (0, u "Ljava/util/Properties;"), (2, u "lineSeparator"), (0, u "Ljava/lang/String;"), (96, .class_ 321), (1, u "java/lang/System$LoggerFinder"), (5, .class_ 328), (0, u "java/lang/System$Logger"), (67, u "err"), (2, u "out"), (91, u "notSupportedJnuEncoding"), (15, u "in"), (17, u "initialIn"), (0, u "Ljava/io/InputStream;"), (35, u "bootLayer"), (0, u "Ljava/lang/ModuleLayer;"), (99, .class_ 664), (0, u "java/lang/System$2"), (9, u "NEVER"), (2, u "MAYBE"), (49, u "arraycopy"), (0, u "(Ljava/lang/Object;ILjava/lang/Object;II)V"), (72, .class_ 802), (0, u "java/lang/System$Logger$Level")] 31

def k17m0 : Method := { name := "<init>", desc := "()V", sig := { parameters := [], returnType := none }, accessFlags := 2, code := none }
def k17m1 : Method := { name := "arraycopy", desc := "(Ljava/lang/Object;ILjava/lang/Object;II)V", sig := { parameters := [(.object "java/lang/Object"), .int, (.object "java/lang/Object"), .int, .int], returnType := none }, accessFlags := 265, code := none }
/-- java/lang/System -/
def k17 : Class := { plain "java/lang/System" (some 0) with
  accessFlags := 49
  interfaces := #[]
  cf := some (fileOf pool17 8 #[.nestMembers #[319, 327, 801, 108, 663, 208]] #[{ accessFlags := 2, nameIndex := 5, descriptorIndex := 6, attributes := #[] }, { accessFlags := 265, nameIndex := 727, descriptorIndex := 728, attributes := #[] }] 49 2 #[] #[{ accessFlags := 25, nameIndex := 507, descriptorIndex := 526, attributes := #[] }, { accessFlags := 25, nameIndex := 399, descriptorIndex := 155, attributes := #[] }, { accessFlags := 25, nameIndex := 396, descriptorIndex := 155, attributes := #[] }, { accessFlags := 10, nameIndex := 525, descriptorIndex := 526, attributes := #[] }, { accessFlags := 26, nameIndex := 674, descriptorIndex := 12, attributes := #[] }, { accessFlags := 26, nameIndex := 677, descriptorIndex := 12, attributes := #[] }, { accessFlags := 10, nameIndex := 11, descriptorIndex := 12, attributes := #[] }, { accessFlags := 74, nameIndex := 175, descriptorIndex := 176, attributes := #[] }, { accessFlags := 10, nameIndex := 491, descriptorIndex := 222, attributes := #[] }, { accessFlags := 74, nameIndex := 29, descriptorIndex := 30, attributes := #[] }, { accessFlags := 74, nameIndex := 154, descriptorIndex := 155, attributes := #[] }, { accessFlags := 10, nameIndex := 217, descriptorIndex := 218, attributes := #[] }, { accessFlags := 10, nameIndex := 221, descriptorIndex := 222, attributes := #[] }, { accessFlags := 8, nameIndex := 562, descriptorIndex := 563, attributes := #[] }])
  fields := #[{ name := "in", type := (.object "java/io/InputStream"), accessFlags := 25, slot := 0, constantValue := 0 }, { name := "out", type := (.object "java/io/PrintStream"), accessFlags := 25, slot := 1, constantValue := 0 }, { name := "err", type := (.object "java/io/PrintStream"), accessFlags := 25, slot := 2, constantValue := 0 }, { name := "initialIn", type := (.object "java/io/InputStream"), accessFlags := 10, slot := 3, constantValue := 0 }, { name := "NEVER", type := .int, accessFlags := 26, slot := 4, constantValue := 0 }, { name := "MAYBE", type := .int, accessFlags := 26, slot := 5, constantValue := 0 }, { name := "allowSecurityManager", type := .int, accessFlags := 10, slot := 6, constantValue := 0 }, { name := "security", type := (.object "java/lang/SecurityManager"), accessFlags := 74, slot := 7, constantValue := 0 }, { name := "notSupportedJnuEncoding", type := (.object "java/lang/String"), accessFlags := 10, slot := 8, constantValue := 0 }, { name := "cons", type := (.object "java/io/Console"), accessFlags := 74, slot := 9, constantValue := 0 }, { name := "initialErrStream", type := (.object "java/io/PrintStream"), accessFlags := 74, slot := 10, constantValue := 0 }, { name := "props", type := (.object "java/util/Properties"), accessFlags := 10, slot := 11, constantValue := 0 }, { name := "lineSeparator", type := (.object "java/lang/String"), accessFlags := 10, slot := 12, constantValue := 0 }, { name := "bootLayer", type := (.object "java/lang/ModuleLayer"), accessFlags := 8, slot := 13, constantValue := 0 }]
  methods := #[k17m0, k17m1]
  instanceTypes := #[]
  staticTypes := #[(.object "java/io/InputStream"), (.object "java/io/PrintStream"), (.object "java/io/PrintStream"), (.object "java/io/InputStream"), .int, .int, .int, (.object "java/lang/SecurityManager"), (.object "java/lang/String"), (.object "java/io/Console"), (.object "java/io/PrintStream"), (.object "java/util/Properties"), (.object "java/lang/String"), (.object "java/lang/ModuleLayer")]
  resolved := Array.replicate 834 none
  statics := none }

def pool18 : Array CpInfo := pool [(2, .class_ 4), (1, u "java/lang/Object"), (0, u "<init>"), (0, u "()V"), (7, .class_ 16), (1, u "java/util/Arrays"), (57, .class_ 76), (1, u "java/util/Arrays$NaturalOrder"), (36, .class_ 115), (1, u "java/util/Arrays$LegacyMergeSort"), (1, u "Z"), (21, u "copyOfRange"), (10, .methodref 151 152), (0, .class_ 153), (0, .nameAndType 154 155), (0, u "java/lang/System"), (0, u "arraycopy"), (0, u "(Ljava/lang/Object;ILjava/lang/Object;II)V"), (148, .methodref 305 306), (0, .class_ 307), (0, .nameAndType 308 309), (0, u "java/lang/Math"), (0, u "min"), (0, u "(II)I"), (29, .methodref 14 340), (0, .nameAndType 341 342), (0, u "copyOfRangeByte"), (0, u "([BII)[B"), (0, .methodref 14 344), (0, .nameAndType 345 346), (0, u "checkLength"), (0, u "(II)V"), (28, .class_ 376), (0, u "java/util/Arrays$ArrayList"), (68, u "$assertionsDisabled"), (269, u "MIN_ARRAY_SORT_GRAN"), (0, u "I"), (2, u "INSERTIONSORT_THRESHOLD"), (255, .class_ 976), (0, u "java/util/Arrays$ArrayItr")] 52

def k18m0 : Method := { name := "<init>", desc := "()V", sig := { parameters := [], returnType := none }, accessFlags := 2, code := none }
def k18c1 : Code := { maxStack := 4, maxLocals := 2, code := jdk_65_method_131_code, exceptionTable := #[], attributes := #[] }
def k18m1 : Method := { name := "checkLength", desc := "(II)V", sig := { parameters := [.int, .int], returnType := none }, accessFlags := 10, code := some k18c1 }
def k18c2 : Code := { maxStack := 3, maxLocals := 3, code := jdk_65_method_132_code, exceptionTable := #[], attributes := #[] }
def k18m2 : Method := { name := "copyOfRange", desc := "([BII)[B", sig := { parameters := [(.array .byte), .int, .int], returnType := some (.array .byte) }, accessFlags := 9, code := some k18c2 }
def k18c3 : Code := { maxStack := 6, maxLocals := 5, code := jdk_65_method_133_code, exceptionTable := #[], attributes := #[] }
def k18m3 : Method := { name := "copyOfRangeByte", desc := "([BII)[B", sig := { parameters := [(.array .byte), .int, .int], returnType := some (.array .byte) }, accessFlags := 10, code := some k18c3 }
/-- java/util/Arrays -/
def k18 : Class := { plain "java/util/Arrays" (some 0) with
  accessFlags := 49
  interfaces := #[]
  cf := some (fileOf pool18 14 #[.nestMembers #[975, 375, 113, 74]] #[{ accessFlags := 2, nameIndex := 5, descriptorIndex := 6, attributes := #[] }, { accessFlags := 10, nameIndex := 345, descriptorIndex := 346, attributes := #[] }, { accessFlags := 9, nameIndex := 139, descriptorIndex := 342, attributes := #[] }, { accessFlags := 10, nameIndex := 341, descriptorIndex := 342, attributes := #[] }] 49 2 #[] #[{ accessFlags := 26, nameIndex := 715, descriptorIndex := 716, attributes := #[] }, { accessFlags := 26, nameIndex := 719, descriptorIndex := 716, attributes := #[] }, { accessFlags := 4120, nameIndex := 445, descriptorIndex := 117, attributes := #[] }])
  fields := #[{ name := "MIN_ARRAY_SORT_GRAN", type := .int, accessFlags := 26, slot := 0, constantValue := 0 }, { name := "INSERTIONSORT_THRESHOLD", type := .int, accessFlags := 26, slot := 1, constantValue := 0 }, { name := "$assertionsDisabled", type := .boolean, accessFlags := 4120, slot := 2, constantValue := 0 }]
  methods := #[k18m0, k18m1, k18m2, k18m3]
  instanceTypes := #[]
  staticTypes := #[.int, .int, .boolean]
  resolved := Array.replicate 1029 none
  statics := none }

def pool19 : Array CpInfo := pool [(1, .class_ 2), (0, u "java/lang/Math"), (1, .class_ 6), (1, u "java/lang/Object"), (0, u "<init>"), (0, u "()V"), (89, .class_ 100), (1, u "java/lang/Math$RandomNumberGeneratorHolder"), (71, u "negativeZeroFloatBits"), (0, u "J"), (2, u "negativeZeroDoubleBits"), (24, u "min"), (43, u "$assertionsDisabled"), (0, u "Z"), (88, u "(II)I"), (2, u "twoToTheDoubleScaleDown"), (0, u "D"), (4, u "twoToTheDoubleScaleUp"), (9, u "E"), (3, u "PI"), (2, u "TAU"), (2, u "DEGREES_TO_RADIANS"), (0, u "RADIANS_TO_DEGREES")] 94

def k19m0 : Method := { name := "<init>", desc := "()V", sig := { parameters := [], returnType := none }, accessFlags := 2, code := none }
def k19c1 : Code := { maxStack := 2, maxLocals := 2, code := jdk_29_method_69_code, exceptionTable := #[], attributes := #[] }
def k19m1 : Method := { name := "min", desc := "(II)I", sig := { parameters := [.int, .int], returnType := some .int }, accessFlags := 9, code := some k19c1 }
/-- java/lang/Math -/
def k19 : Class := { plain "java/lang/Math" (some 0) with
  accessFlags := 49
  interfaces := #[]
  cf := some (fileOf pool19 1 #[.nestMembers #[98]] #[{ accessFlags := 2, nameIndex := 7, descriptorIndex := 8, attributes := #[] }, { accessFlags := 9, nameIndex := 201, descriptorIndex := 335, attributes := #[] }] 49 4 #[] #[{ accessFlags := 25, nameIndex := 354, descriptorIndex := 339, attributes := #[] }, { accessFlags := 25, nameIndex := 358, descriptorIndex := 339, attributes := #[] }, { accessFlags := 25, nameIndex := 361, descriptorIndex := 339, attributes := #[] }, { accessFlags := 26, nameIndex := 364, descriptorIndex := 339, attributes := #[] }, { accessFlags := 26, nameIndex := 365, descriptorIndex := 339, attributes := #[] }, { accessFlags := 26, nameIndex := 172, descriptorIndex := 173, attributes := #[] }, { accessFlags := 26, nameIndex := 176, descriptorIndex := 173, attributes := #[] }, { accessFlags := 8, nameIndex := 344, descriptorIndex := 339, attributes := #[] }, { accessFlags := 8, nameIndex := 338, descriptorIndex := 339, attributes := #[] }, { accessFlags := 4120, nameIndex := 245, descriptorIndex := 246, attributes := #[] }])
  fields := #[{ name := "E", type := .double, accessFlags := 25, slot := 0, constantValue := 0 }, { name := "PI", type := .double, accessFlags := 25, slot := 1, constantValue := 0 }, { name := "TAU", type := .double, accessFlags := 25, slot := 2, constantValue := 0 }, { name := "DEGREES_TO_RADIANS", type := .double, accessFlags := 26, slot := 3, constantValue := 0 }, { name := "RADIANS_TO_DEGREES", type := .double, accessFlags := 26, slot := 4, constantValue := 0 }, { name := "negativeZeroFloatBits", type := .long, accessFlags := 26, slot := 5, constantValue := 0 }, { name := "negativeZeroDoubleBits", type := .long, accessFlags := 26, slot := 6, constantValue := 0 }, { name := "twoToTheDoubleScaleUp", type := .double, accessFlags := 8, slot := 7, constantValue := 0 }, { name := "twoToTheDoubleScaleDown", type := .double, accessFlags := 8, slot := 8, constantValue := 0 }, { name := "$assertionsDisabled", type := .boolean, accessFlags := 4120, slot := 9, constantValue := 0 }]
  methods := #[k19m0, k19m1]
  instanceTypes := #[]
  staticTypes := #[.double, .double, .double, .double, .double, .long, .long, .double, .double, .boolean]
  resolved := Array.replicate 460 none
  statics := none }

def pool20 : Array CpInfo := pool [(1, u "java/lang/Cloneable"), (0, .class_ 1), (0, u "java/lang/Object"), (0, .class_ 3)] 3

/-- java/lang/Cloneable -/
def k20 : Class := { plain "java/lang/Cloneable" (some 0) with
  accessFlags := 1537
  interfaces := #[]
  cf := some (fileOf pool20 2 #[] #[] 1537 4 #[] #[])
  fields := #[]
  methods := #[]
  instanceTypes := #[]
  staticTypes := #[]
  resolved := Array.replicate 8 none
  statics := none }

/-- the primitive byte -/
def k21 : Class := { plain "byte" none with kind := .primitive 'B', accessFlags := 0x411 }
/-- [B -/
def k22 : Class := { plain "[B" (some 0) with kind := .array 21 .byte, interfaces := #[20, 2], accessFlags := 1041 }

/-- the primitive char -/
def k23 : Class := { plain "char" none with kind := .primitive 'C', accessFlags := 0x411 }
/-- [C -/
def k24 : Class := { plain "[C" (some 0) with kind := .array 23 .char, interfaces := #[20, 2], accessFlags := 1041 }

/-- the primitive int -/
def k25 : Class := { plain "int" none with kind := .primitive 'I', accessFlags := 0x411 }
/-- [I -/
def k26 : Class := { plain "[I" (some 0) with kind := .array 25 .int, interfaces := #[20, 2], accessFlags := 1041 }

def heap : Heap := #[{ cls := 7, slots := #[.long 0, .int 1, .null, .int 0, .null, .int 0, .int 0], vm := .statics 7 },
  { cls := 8, slots := #[.int 0, .int 8, .int 0, .int 1], vm := .statics 8 },
  { cls := 15, slots := #[.null, .null, .null], vm := .statics 15 }]
def classes : Array Class := #[k0, k1, k2, k3, k4, k5, k6, k7, k8, k9, k10, k11, k12, k13, k14, k15, k16, k17, k18, k19, k20, k21, k22, k23, k24, k25, k26]
def interned : List (Array UInt16 × Addr) := []
def slotsUsed : Nat := 14
def theMethod : MethodId := ⟨1, 1⟩
def args0 : Array Value := #[.int 3, .int 300, .int 97, .int 98]
def aboutOver (below : List Frame) : State where
  vm := { classes := classes, interned := interned.toArray }
  heap := heap
  slotsUsed := slotsUsed
  threads := #[{ frames := .invoking theMethod args0 :: below }]
def below0 : List Frame := [.native { method := ⟨0, 0⟩, args := #[] }]
def about1 : State := aboutOver below0
def p0 : Program := .bare "" "" ""
def e0 : Env := launch0.env 0 0 0
theorem w_frames : about1.frames = Frame.invoking theMethod args0 :: below0 := rfl
set_option maxRecDepth 65536 in
theorem w_args : argsFit about1.vm theMethod args0 = true := by decide +kernel
set_option maxRecDepth 65536 in
theorem w_heap : heapFits about1 = true := by decide +kernel
set_option maxRecDepth 65536 in
theorem w_runnable : about1.curStatus? = some .runnable := by decide +kernel
set_option maxRecDepth 65536 in
theorem w_alone : about1.alone = true := by decide +kernel
set_option maxRecDepth 65536 in
theorem w_named : about1.methodNamed? x = some theMethod := by decide +kernel
set_option maxRecDepth 65536 in
theorem w_hears : about1.hears theMethod below0 = true := by decide +kernel
set_option maxRecDepth 65536 in
theorem w_ripe : about1.ripe theMethod args0 below0 = true := by decide +kernel
theorem w_running : about1.status = .running := rfl
set_option maxRecDepth 65536 in
theorem w_room : about1.hasRoom e0.platform room_1 = true :=
  launch0.hasRoom_least _ room_1 (by decide +kernel) (by decide +kernel) (by decide +kernel) (by decide +kernel) (by decide +kernel) (by decide +kernel)
theorem allAtoms_all (ts : List Jvm.Cond) (a : Array Jvm.Value) (st : Jvm.State) : (allAtoms ts).before a st = ts.all (fun c => c.before a st) := by
  induction ts with
  | nil => rfl
  | cons c t ih =>
    show (Jvm.Cond.and c (allAtoms t)).before a st = _
    rw [Jvm.Cond.before_and, ih, List.all_cons]
def words1 : List Jvm.Cond := Jvm.Cond.code x code maxLocals ret :: tables_1
/-- a 'code' word, met by the world's own term for the bytes: nothing is compared byte by byte -/
theorem code_word {y : MethodName} {bytes : ByteArray} {mx : Nat} {rt : Option FieldType} {a : Array Value} {s : State} {m : MethodId} {meth : Method} {c : Code} (h1 : s.methodNamed? y = some m) (h2 : s.vm.method? m = some meth) (h3 : meth.code = some c) (h4 : c.code = bytes)
    (h5 : (c.maxLocals == mx && c.exceptionTable.isEmpty && decide (c.maxStack ≤ mostOperands) && decide (meth.sig.returnType = rt) && !meth.locks && decide (parseMethodDescriptor y.desc = some meth.sig)) = true) : (Jvm.Cond.code y bytes mx rt).before a s = true := by
  simp only [Bool.and_eq_true, beq_iff_eq, Bool.not_eq_true', decide_eq_true_eq] at h5
  obtain ⟨⟨⟨⟨⟨g1, g2⟩, g3⟩, g4⟩, g5⟩, g6⟩ := h5
  simp [Cond.before, Cond.holds, Cond.value, h1, h2, h3, h4, g1, g2, g3, g4, g5, g6]
def isCode : Jvm.Cond → Bool
  | .code _ _ _ _ => true
  | _ => false
theorem all_split {L : List Jvm.Cond} {P : Jvm.Cond → Bool} (h1 : L.all (fun c => isCode c || P c) = true) (h2 : ∀ c ∈ L.filter isCode, P c = true) : L.all P = true := by
  refine List.all_eq_true.mpr fun c hc => ?_
  have h := List.all_eq_true.mp h1 c hc
  rcases Bool.eq_false_or_eq_true (isCode c) with hi | hi
  · exact h2 c (List.mem_filter.mpr ⟨hc, hi⟩)
  · simpa [hi] using h
set_option maxRecDepth 65536 in
theorem w_c0 : (Jvm.Cond.code x code maxLocals ret).before args0 about1 = true := code_word (m := ⟨1, 1⟩) (meth := k1m1) (c := k1c1) (by decide +kernel) rfl rfl rfl (by decide +kernel)
set_option maxRecDepth 65536 in
theorem w_c1 : (Jvm.Cond.code ({ cls := "com/example/kolejka/kolejka/KeyRangeStartingWithPinLaw", name := "make", desc := "(ICCCC)Ljava/lang/String;" } : Jvm.MethodName) method_3_code (5 : Nat) (Option.some (Jvm.ClassFile.FieldType.object "java/lang/String"))).before args0 about1 = true := code_word (m := ⟨1, 2⟩) (meth := k1m2) (c := k1c2) (by decide +kernel) rfl rfl rfl (by decide +kernel)
set_option maxRecDepth 65536 in
theorem w_c2 : (Jvm.Cond.code ({ cls := "java/lang/String", name := "<init>", desc := "([C)V" } : Jvm.MethodName) jdk_42_method_3_code (2 : Nat) (Option.none : Option Jvm.ClassFile.FieldType)).before args0 about1 = true := code_word (m := ⟨7, 1⟩) (meth := k7m1) (c := k7c1) (by decide +kernel) rfl rfl rfl (by decide +kernel)
set_option maxRecDepth 65536 in
theorem w_c3 : (Jvm.Cond.code ({ cls := "java/lang/String", name := "<init>", desc := "([CIILjava/lang/Void;)V" } : Jvm.MethodName) jdk_42_method_149_code (6 : Nat) (Option.none : Option Jvm.ClassFile.FieldType)).before args0 about1 = true := code_word (m := ⟨7, 9⟩) (meth := k7m9) (c := k7c9) (by decide +kernel) rfl rfl rfl (by decide +kernel)
set_option maxRecDepth 65536 in
theorem w_c4 : (Jvm.Cond.code ({ cls := "java/lang/Object", name := "<init>", desc := "()V" } : Jvm.MethodName) object_method_1_code (1 : Nat) (Option.none : Option Jvm.ClassFile.FieldType)).before args0 about1 = true := code_word (m := ⟨0, 0⟩) (meth := k0m0) (c := k0c0) (by decide +kernel) rfl rfl rfl (by decide +kernel)
set_option maxRecDepth 65536 in
theorem w_c5 : (Jvm.Cond.code ({ cls := "java/lang/StringUTF16", name := "compress", desc := "([CII)[B" } : Jvm.MethodName) jdk_52_method_16_code (6 : Nat) (Option.some (Jvm.ClassFile.FieldType.array Jvm.ClassFile.FieldType.byte))).before args0 about1 = true := code_word (m := ⟨8, 8⟩) (meth := k8m8) (c := k8c8) (by decide +kernel) rfl rfl rfl (by decide +kernel)
set_option maxRecDepth 65536 in
theorem w_c6 : (Jvm.Cond.code ({ cls := "java/lang/StringUTF16", name := "compress", desc := "([CI[BII)I" } : Jvm.MethodName) jdk_52_method_21_code (7 : Nat) (Option.some Jvm.ClassFile.FieldType.int)).before args0 about1 = true := code_word (m := ⟨8, 10⟩) (meth := k8m10) (c := k8c10) (by decide +kernel) rfl rfl rfl (by decide +kernel)
set_option maxRecDepth 65536 in
theorem w_c7 : (Jvm.Cond.code ({ cls := "java/lang/StringUTF16", name := "coderFromArrayLen", desc := "([BI)B" } : Jvm.MethodName) jdk_52_method_15_code (2 : Nat) (Option.some Jvm.ClassFile.FieldType.byte)).before args0 about1 = true := code_word (m := ⟨8, 7⟩) (meth := k8m7) (c := k8c7) (by decide +kernel) rfl rfl rfl (by decide +kernel)
set_option maxRecDepth 65536 in
theorem w_c8 : (Jvm.Cond.code ({ cls := "com/example/kolejka/kolejka/Dialect$KeyRange", name := "startingWith", desc := "(Ljava/lang/String;)Lcom/example/kolejka/kolejka/Dialect$KeyRange;" } : Jvm.MethodName) prog_8_method_2_code (1 : Nat) (Option.some (Jvm.ClassFile.FieldType.object "com/example/kolejka/kolejka/Dialect$KeyRange"))).before args0 about1 = true := code_word (m := ⟨10, 1⟩) (meth := k10m1) (c := k10c1) (by decide +kernel) rfl rfl rfl (by decide +kernel)
set_option maxRecDepth 65536 in
theorem w_c9 : (Jvm.Cond.code ({ cls := "java/lang/String", name := "endsWith", desc := "(Ljava/lang/String;)Z" } : Jvm.MethodName) jdk_42_method_77_code (2 : Nat) (Option.some Jvm.ClassFile.FieldType.boolean)).before args0 about1 = true := code_word (m := ⟨7, 6⟩) (meth := k7m6) (c := k7c6) (by decide +kernel) rfl rfl rfl (by decide +kernel)
set_option maxRecDepth 65536 in
theorem w_c10 : (Jvm.Cond.code ({ cls := "java/lang/String", name := "length", desc := "()I" } : Jvm.MethodName) jdk_42_method_54_code (1 : Nat) (Option.some Jvm.ClassFile.FieldType.int)).before args0 about1 = true := code_word (m := ⟨7, 3⟩) (meth := k7m3) (c := k7c3) (by decide +kernel) rfl rfl rfl (by decide +kernel)
set_option maxRecDepth 65536 in
theorem w_c11 : (Jvm.Cond.code ({ cls := "java/lang/String", name := "coder", desc := "()B" } : Jvm.MethodName) jdk_42_method_152_code (1 : Nat) (Option.some Jvm.ClassFile.FieldType.byte)).before args0 about1 = true := code_word (m := ⟨7, 12⟩) (meth := k7m12) (c := k7c12) (by decide +kernel) rfl rfl rfl (by decide +kernel)
set_option maxRecDepth 65536 in
theorem w_c12 : (Jvm.Cond.code ({ cls := "java/lang/String", name := "startsWith", desc := "(Ljava/lang/String;I)Z" } : Jvm.MethodName) jdk_42_method_75_code (8 : Nat) (Option.some Jvm.ClassFile.FieldType.boolean)).before args0 about1 = true := code_word (m := ⟨7, 5⟩) (meth := k7m5) (c := k7c5) (by decide +kernel) rfl rfl rfl (by decide +kernel)
set_option maxRecDepth 65536 in
theorem w_c13 : (Jvm.Cond.code ({ cls := "jdk/internal/util/ArraysSupport", name := "mismatch", desc := "([BI[BII)I" } : Jvm.MethodName) jdk_48_method_14_code (8 : Nat) (Option.some Jvm.ClassFile.FieldType.int)).before args0 about1 = true := code_word (m := ⟨11, 1⟩) (meth := k11m1) (c := k11c1) (by decide +kernel) rfl rfl rfl (by decide +kernel)
set_option maxRecDepth 65536 in
theorem w_c14 : (Jvm.Cond.code ({ cls := "java/lang/StringBuilder", name := "<init>", desc := "()V" } : Jvm.MethodName) jdk_67_method_1_code (1 : Nat) (Option.none : Option Jvm.ClassFile.FieldType)).before args0 about1 = true := code_word (m := ⟨14, 0⟩) (meth := k14m0) (c := k14c0) (by decide +kernel) rfl rfl rfl (by decide +kernel)
set_option maxRecDepth 65536 in
theorem w_c15 : (Jvm.Cond.code ({ cls := "java/lang/AbstractStringBuilder", name := "<init>", desc := "(I)V" } : Jvm.MethodName) jdk_68_method_2_code (2 : Nat) (Option.none : Option Jvm.ClassFile.FieldType)).before args0 about1 = true := code_word (m := ⟨13, 1⟩) (meth := k13m1) (c := k13c1) (by decide +kernel) rfl rfl rfl (by decide +kernel)
set_option maxRecDepth 65536 in
theorem w_c16 : (Jvm.Cond.code ({ cls := "java/lang/String", name := "substring", desc := "(II)Ljava/lang/String;" } : Jvm.MethodName) jdk_42_method_92_code (5 : Nat) (Option.some (Jvm.ClassFile.FieldType.object "java/lang/String"))).before args0 about1 = true := code_word (m := ⟨7, 7⟩) (meth := k7m7) (c := k7c7) (by decide +kernel) rfl rfl rfl (by decide +kernel)
set_option maxRecDepth 65536 in
theorem w_c17 : (Jvm.Cond.code ({ cls := "java/lang/String", name := "checkBoundsBeginEnd", desc := "(III)V" } : Jvm.MethodName) jdk_42_method_158_code (3 : Nat) (Option.none : Option Jvm.ClassFile.FieldType)).before args0 about1 = true := code_word (m := ⟨7, 16⟩) (meth := k7m16) (c := k7c16) (by decide +kernel) rfl rfl rfl (by decide +kernel)
set_option maxRecDepth 65536 in
theorem w_c18 : (Jvm.Cond.code ({ cls := "jdk/internal/util/Preconditions", name := "checkFromToIndex", desc := "(IIILjava/util/function/BiFunction;)I" } : Jvm.MethodName) jdk_41_method_12_code (4 : Nat) (Option.some Jvm.ClassFile.FieldType.int)).before args0 about1 = true := code_word (m := ⟨15, 2⟩) (meth := k15m2) (c := k15c2) (by decide +kernel) rfl rfl rfl (by decide +kernel)
set_option maxRecDepth 65536 in
theorem w_c19 : (Jvm.Cond.code ({ cls := "java/lang/String", name := "isLatin1", desc := "()Z" } : Jvm.MethodName) jdk_42_method_154_code (1 : Nat) (Option.some Jvm.ClassFile.FieldType.boolean)).before args0 about1 = true := code_word (m := ⟨7, 13⟩) (meth := k7m13) (c := k7c13) (by decide +kernel) rfl rfl rfl (by decide +kernel)
set_option maxRecDepth 65536 in
theorem w_c20 : (Jvm.Cond.code ({ cls := "java/lang/StringLatin1", name := "newString", desc := "([BII)Ljava/lang/String;" } : Jvm.MethodName) jdk_43_method_47_code (3 : Nat) (Option.some (Jvm.ClassFile.FieldType.object "java/lang/String"))).before args0 about1 = true := code_word (m := ⟨16, 3⟩) (meth := k16m3) (c := k16c3) (by decide +kernel) rfl rfl rfl (by decide +kernel)
set_option maxRecDepth 65536 in
theorem w_c21 : (Jvm.Cond.code ({ cls := "java/lang/StringBuilder", name := "append", desc := "(Ljava/lang/String;)Ljava/lang/StringBuilder;" } : Jvm.MethodName) jdk_67_method_7_code (2 : Nat) (Option.some (Jvm.ClassFile.FieldType.object "java/lang/StringBuilder"))).before args0 about1 = true := code_word (m := ⟨14, 1⟩) (meth := k14m1) (c := k14c1) (by decide +kernel) rfl rfl rfl (by decide +kernel)
set_option maxRecDepth 65536 in
theorem w_c22 : (Jvm.Cond.code ({ cls := "java/lang/AbstractStringBuilder", name := "append", desc := "(Ljava/lang/String;)Ljava/lang/AbstractStringBuilder;" } : Jvm.MethodName) jdk_68_method_22_code (3 : Nat) (Option.some (Jvm.ClassFile.FieldType.object "java/lang/AbstractStringBuilder"))).before args0 about1 = true := code_word (m := ⟨13, 5⟩) (meth := k13m5) (c := k13c5) (by decide +kernel) rfl rfl rfl (by decide +kernel)
set_option maxRecDepth 65536 in
theorem w_c23 : (Jvm.Cond.code ({ cls := "java/lang/AbstractStringBuilder", name := "ensureCapacityInternal", desc := "(I)V" } : Jvm.MethodName) jdk_68_method_9_code (3 : Nat) (Option.none : Option Jvm.ClassFile.FieldType)).before args0 about1 = true := code_word (m := ⟨13, 3⟩) (meth := k13m3) (c := k13c3) (by decide +kernel) rfl rfl rfl (by decide +kernel)
set_option maxRecDepth 65536 in
theorem w_c24 : (Jvm.Cond.code ({ cls := "java/lang/AbstractStringBuilder", name := "putStringAt", desc := "(ILjava/lang/String;)V" } : Jvm.MethodName) jdk_68_method_73_code (3 : Nat) (Option.none : Option Jvm.ClassFile.FieldType)).before args0 about1 = true := code_word (m := ⟨13, 10⟩) (meth := k13m10) (c := k13c10) (by decide +kernel) rfl rfl rfl (by decide +kernel)
set_option maxRecDepth 65536 in
theorem w_c25 : (Jvm.Cond.code ({ cls := "java/lang/AbstractStringBuilder", name := "inflateIfNeededFor", desc := "(Ljava/lang/String;)V" } : Jvm.MethodName) jdk_68_method_71_code (2 : Nat) (Option.none : Option Jvm.ClassFile.FieldType)).before args0 about1 = true := code_word (m := ⟨13, 9⟩) (meth := k13m9) (c := k13c9) (by decide +kernel) rfl rfl rfl (by decide +kernel)
set_option maxRecDepth 65536 in
theorem w_c26 : (Jvm.Cond.code ({ cls := "java/lang/String", name := "getBytes", desc := "([BIB)V" } : Jvm.MethodName) jdk_42_method_147_code (4 : Nat) (Option.none : Option Jvm.ClassFile.FieldType)).before args0 about1 = true := code_word (m := ⟨7, 8⟩) (meth := k7m8) (c := k7c8) (by decide +kernel) rfl rfl rfl (by decide +kernel)
set_option maxRecDepth 65536 in
theorem w_c27 : (Jvm.Cond.code ({ cls := "java/lang/StringBuilder", name := "append", desc := "(C)Ljava/lang/StringBuilder;" } : Jvm.MethodName) jdk_67_method_14_code (2 : Nat) (Option.some (Jvm.ClassFile.FieldType.object "java/lang/StringBuilder"))).before args0 about1 = true := code_word (m := ⟨14, 2⟩) (meth := k14m2) (c := k14c2) (by decide +kernel) rfl rfl rfl (by decide +kernel)
set_option maxRecDepth 65536 in
theorem w_c28 : (Jvm.Cond.code ({ cls := "java/lang/AbstractStringBuilder", name := "append", desc := "(C)Ljava/lang/AbstractStringBuilder;" } : Jvm.MethodName) jdk_68_method_31_code (2 : Nat) (Option.some (Jvm.ClassFile.FieldType.object "java/lang/AbstractStringBuilder"))).before args0 about1 = true := code_word (m := ⟨13, 6⟩) (meth := k13m6) (c := k13c6) (by decide +kernel) rfl rfl rfl (by decide +kernel)
set_option maxRecDepth 65536 in
theorem w_c29 : (Jvm.Cond.code ({ cls := "java/lang/AbstractStringBuilder", name := "isLatin1", desc := "()Z" } : Jvm.MethodName) jdk_68_method_68_code (1 : Nat) (Option.some Jvm.ClassFile.FieldType.boolean)).before args0 about1 = true := code_word (m := ⟨13, 8⟩) (meth := k13m8) (c := k13c8) (by decide +kernel) rfl rfl rfl (by decide +kernel)
set_option maxRecDepth 65536 in
theorem w_c30 : (Jvm.Cond.code ({ cls := "java/lang/StringLatin1", name := "canEncode", desc := "(C)Z" } : Jvm.MethodName) jdk_43_method_3_code (1 : Nat) (Option.some Jvm.ClassFile.FieldType.boolean)).before args0 about1 = true := code_word (m := ⟨16, 1⟩) (meth := k16m1) (c := k16c1) (by decide +kernel) rfl rfl rfl (by decide +kernel)
set_option maxRecDepth 65536 in
theorem w_c31 : (Jvm.Cond.code ({ cls := "java/lang/StringBuilder", name := "toString", desc := "()Ljava/lang/String;" } : Jvm.MethodName) jdk_67_method_42_code (1 : Nat) (Option.some (Jvm.ClassFile.FieldType.object "java/lang/String"))).before args0 about1 = true := code_word (m := ⟨14, 3⟩) (meth := k14m3) (c := k14c3) (by decide +kernel) rfl rfl rfl (by decide +kernel)
set_option maxRecDepth 65536 in
theorem w_c32 : (Jvm.Cond.code ({ cls := "java/lang/String", name := "<init>", desc := "(Ljava/lang/StringBuilder;)V" } : Jvm.MethodName) jdk_42_method_53_code (2 : Nat) (Option.none : Option Jvm.ClassFile.FieldType)).before args0 about1 = true := code_word (m := ⟨7, 2⟩) (meth := k7m2) (c := k7c2) (by decide +kernel) rfl rfl rfl (by decide +kernel)
set_option maxRecDepth 65536 in
theorem w_c33 : (Jvm.Cond.code ({ cls := "java/lang/String", name := "<init>", desc := "(Ljava/lang/AbstractStringBuilder;Ljava/lang/Void;)V" } : Jvm.MethodName) jdk_42_method_150_code (5 : Nat) (Option.none : Option Jvm.ClassFile.FieldType)).before args0 about1 = true := code_word (m := ⟨7, 10⟩) (meth := k7m10) (c := k7c10) (by decide +kernel) rfl rfl rfl (by decide +kernel)
set_option maxRecDepth 65536 in
theorem w_c34 : (Jvm.Cond.code ({ cls := "java/lang/AbstractStringBuilder", name := "getValue", desc := "()[B" } : Jvm.MethodName) jdk_68_method_64_code (1 : Nat) (Option.some (Jvm.ClassFile.FieldType.array Jvm.ClassFile.FieldType.byte))).before args0 about1 = true := code_word (m := ⟨13, 7⟩) (meth := k13m7) (c := k13c7) (by decide +kernel) rfl rfl rfl (by decide +kernel)
set_option maxRecDepth 65536 in
theorem w_c35 : (Jvm.Cond.code ({ cls := "java/lang/StringBuilder", name := "length", desc := "()I" } : Jvm.MethodName) jdk_67_method_93_code (1 : Nat) (Option.some Jvm.ClassFile.FieldType.int)).before args0 about1 = true := code_word (m := ⟨14, 4⟩) (meth := k14m4) (c := k14c4) (by decide +kernel) rfl rfl rfl (by decide +kernel)
set_option maxRecDepth 65536 in
theorem w_c36 : (Jvm.Cond.code ({ cls := "java/lang/AbstractStringBuilder", name := "length", desc := "()I" } : Jvm.MethodName) jdk_68_method_6_code (1 : Nat) (Option.some Jvm.ClassFile.FieldType.int)).before args0 about1 = true := code_word (m := ⟨13, 2⟩) (meth := k13m2) (c := k13c2) (by decide +kernel) rfl rfl rfl (by decide +kernel)
set_option maxRecDepth 65536 in
theorem w_c37 : (Jvm.Cond.code ({ cls := "java/util/Arrays", name := "copyOfRange", desc := "([BII)[B" } : Jvm.MethodName) jdk_65_method_132_code (3 : Nat) (Option.some (Jvm.ClassFile.FieldType.array Jvm.ClassFile.FieldType.byte))).before args0 about1 = true := code_word (m := ⟨18, 2⟩) (meth := k18m2) (c := k18c2) (by decide +kernel) rfl rfl rfl (by decide +kernel)
set_option maxRecDepth 65536 in
theorem w_c38 : (Jvm.Cond.code ({ cls := "java/util/Arrays", name := "copyOfRangeByte", desc := "([BII)[B" } : Jvm.MethodName) jdk_65_method_133_code (5 : Nat) (Option.some (Jvm.ClassFile.FieldType.array Jvm.ClassFile.FieldType.byte))).before args0 about1 = true := code_word (m := ⟨18, 3⟩) (meth := k18m3) (c := k18c3) (by decide +kernel) rfl rfl rfl (by decide +kernel)
set_option maxRecDepth 65536 in
theorem w_c39 : (Jvm.Cond.code ({ cls := "java/util/Arrays", name := "checkLength", desc := "(II)V" } : Jvm.MethodName) jdk_65_method_131_code (2 : Nat) (Option.none : Option Jvm.ClassFile.FieldType)).before args0 about1 = true := code_word (m := ⟨18, 1⟩) (meth := k18m1) (c := k18c1) (by decide +kernel) rfl rfl rfl (by decide +kernel)
set_option maxRecDepth 65536 in
theorem w_c40 : (Jvm.Cond.code ({ cls := "java/lang/Math", name := "min", desc := "(II)I" } : Jvm.MethodName) jdk_29_method_69_code (2 : Nat) (Option.some Jvm.ClassFile.FieldType.int)).before args0 about1 = true := code_word (m := ⟨19, 1⟩) (meth := k19m1) (c := k19c1) (by decide +kernel) rfl rfl rfl (by decide +kernel)
set_option maxRecDepth 65536 in
theorem w_c41 : (Jvm.Cond.code ({ cls := "com/example/kolejka/kolejka/Dialect$KeyRange", name := "<init>", desc := "(Ljava/lang/String;Ljava/lang/String;)V" } : Jvm.MethodName) prog_8_method_1_code (3 : Nat) (Option.none : Option Jvm.ClassFile.FieldType)).before args0 about1 = true := code_word (m := ⟨10, 0⟩) (meth := k10m0) (c := k10c0) (by decide +kernel) rfl rfl rfl (by decide +kernel)
set_option maxRecDepth 65536 in
theorem w_c42 : (Jvm.Cond.code ({ cls := "java/lang/Record", name := "<init>", desc := "()V" } : Jvm.MethodName) jdk_30_method_1_code (1 : Nat) (Option.none : Option Jvm.ClassFile.FieldType)).before args0 about1 = true := code_word (m := ⟨9, 0⟩) (meth := k9m0) (c := k9c0) (by decide +kernel) rfl rfl rfl (by decide +kernel)
set_option maxRecDepth 65536 in
theorem w_c43 : (Jvm.Cond.code ({ cls := "com/example/kolejka/kolejka/Dialect$KeyRange", name := "from", desc := "()Ljava/lang/String;" } : Jvm.MethodName) prog_8_method_6_code (1 : Nat) (Option.some (Jvm.ClassFile.FieldType.object "java/lang/String"))).before args0 about1 = true := code_word (m := ⟨10, 2⟩) (meth := k10m2) (c := k10c2) (by decide +kernel) rfl rfl rfl (by decide +kernel)
set_option maxRecDepth 65536 in
theorem w_c44 : (Jvm.Cond.code ({ cls := "java/lang/String", name := "equals", desc := "(Ljava/lang/Object;)Z" } : Jvm.MethodName) jdk_42_method_66_code (3 : Nat) (Option.some Jvm.ClassFile.FieldType.boolean)).before args0 about1 = true := code_word (m := ⟨7, 4⟩) (meth := k7m4) (c := k7c4) (by decide +kernel) rfl rfl rfl (by decide +kernel)
set_option maxRecDepth 65536 in
theorem w_c45 : (Jvm.Cond.code ({ cls := "com/example/kolejka/kolejka/Dialect$KeyRange", name := "to", desc := "()Ljava/lang/String;" } : Jvm.MethodName) prog_8_method_7_code (1 : Nat) (Option.some (Jvm.ClassFile.FieldType.object "java/lang/String"))).before args0 about1 = true := code_word (m := ⟨10, 3⟩) (meth := k10m3) (c := k10c3) (by decide +kernel) rfl rfl rfl (by decide +kernel)
set_option maxRecDepth 65536 in
theorem w_c46 : (Jvm.Cond.code ({ cls := "java/lang/StringLatin1", name := "equals", desc := "([B[B)Z" } : Jvm.MethodName) jdk_43_method_13_code (3 : Nat) (Option.some Jvm.ClassFile.FieldType.boolean)).before args0 about1 = true := code_word (m := ⟨16, 2⟩) (meth := k16m2) (c := k16c2) (by decide +kernel) rfl rfl rfl (by decide +kernel)
set_option maxRecDepth 65536 in
theorem w_c47 : (Jvm.Cond.code ({ cls := "java/lang/String", name := "<init>", desc := "([BB)V" } : Jvm.MethodName) jdk_42_method_151_code (3 : Nat) (Option.none : Option Jvm.ClassFile.FieldType)).before args0 about1 = true := code_word (m := ⟨7, 11⟩) (meth := k7m11) (c := k7c11) (by decide +kernel) rfl rfl rfl (by decide +kernel)
set_option maxRecDepth 65536 in
theorem w_c48 : (Jvm.Cond.code ({ cls := "java/lang/StringUTF16", name := "toBytes", desc := "([CII)[B" } : Jvm.MethodName) jdk_52_method_14_code (5 : Nat) (Option.some (Jvm.ClassFile.FieldType.array Jvm.ClassFile.FieldType.byte))).before args0 about1 = true := code_word (m := ⟨8, 6⟩) (meth := k8m6) (c := k8c6) (by decide +kernel) rfl rfl rfl (by decide +kernel)
set_option maxRecDepth 65536 in
theorem w_c49 : (Jvm.Cond.code ({ cls := "java/lang/StringUTF16", name := "newBytesFor", desc := "(I)[B" } : Jvm.MethodName) jdk_52_method_2_code (1 : Nat) (Option.some (Jvm.ClassFile.FieldType.array Jvm.ClassFile.FieldType.byte))).before args0 about1 = true := code_word (m := ⟨8, 1⟩) (meth := k8m1) (c := k8c1) (by decide +kernel) rfl rfl rfl (by decide +kernel)
set_option maxRecDepth 65536 in
theorem w_c50 : (Jvm.Cond.code ({ cls := "java/lang/StringUTF16", name := "newBytesLength", desc := "(I)I" } : Jvm.MethodName) jdk_52_method_3_code (1 : Nat) (Option.some Jvm.ClassFile.FieldType.int)).before args0 about1 = true := code_word (m := ⟨8, 2⟩) (meth := k8m2) (c := k8c2) (by decide +kernel) rfl rfl rfl (by decide +kernel)
set_option maxRecDepth 65536 in
theorem w_c51 : (Jvm.Cond.code ({ cls := "java/lang/StringUTF16", name := "putChar", desc := "([BII)V" } : Jvm.MethodName) jdk_52_method_4_code (3 : Nat) (Option.none : Option Jvm.ClassFile.FieldType)).before args0 about1 = true := code_word (m := ⟨8, 3⟩) (meth := k8m3) (c := k8c3) (by decide +kernel) rfl rfl rfl (by decide +kernel)
set_option maxRecDepth 65536 in
theorem w_c52 : (Jvm.Cond.code ({ cls := "java/lang/StringUTF16", name := "getChar", desc := "([BI)C" } : Jvm.MethodName) jdk_52_method_5_code (2 : Nat) (Option.some Jvm.ClassFile.FieldType.char)).before args0 about1 = true := code_word (m := ⟨8, 4⟩) (meth := k8m4) (c := k8c4) (by decide +kernel) rfl rfl rfl (by decide +kernel)
set_option maxRecDepth 65536 in
theorem w_c53 : (Jvm.Cond.code ({ cls := "java/lang/StringUTF16", name := "newString", desc := "([BII)Ljava/lang/String;" } : Jvm.MethodName) jdk_52_method_69_code (5 : Nat) (Option.some (Jvm.ClassFile.FieldType.object "java/lang/String"))).before args0 about1 = true := code_word (m := ⟨8, 12⟩) (meth := k8m12) (c := k8c12) (by decide +kernel) rfl rfl rfl (by decide +kernel)
set_option maxRecDepth 65536 in
theorem w_c54 : (Jvm.Cond.code ({ cls := "java/lang/StringUTF16", name := "compress", desc := "([BII)[B" } : Jvm.MethodName) jdk_52_method_17_code (6 : Nat) (Option.some (Jvm.ClassFile.FieldType.array Jvm.ClassFile.FieldType.byte))).before args0 about1 = true := code_word (m := ⟨8, 9⟩) (meth := k8m9) (c := k8c9) (by decide +kernel) rfl rfl rfl (by decide +kernel)
set_option maxRecDepth 65536 in
theorem w_c55 : (Jvm.Cond.code ({ cls := "java/lang/StringUTF16", name := "compress", desc := "([BI[BII)I" } : Jvm.MethodName) jdk_52_method_22_code (7 : Nat) (Option.some Jvm.ClassFile.FieldType.int)).before args0 about1 = true := code_word (m := ⟨8, 11⟩) (meth := k8m11) (c := k8c11) (by decide +kernel) rfl rfl rfl (by decide +kernel)
set_option maxRecDepth 65536 in
theorem w_c56 : (Jvm.Cond.code ({ cls := "java/lang/StringUTF16", name := "checkBoundsOffCount", desc := "(II[B)V" } : Jvm.MethodName) jdk_52_method_94_code (3 : Nat) (Option.none : Option Jvm.ClassFile.FieldType)).before args0 about1 = true := code_word (m := ⟨8, 16⟩) (meth := k8m16) (c := k8c16) (by decide +kernel) rfl rfl rfl (by decide +kernel)
set_option maxRecDepth 65536 in
theorem w_c57 : (Jvm.Cond.code ({ cls := "java/lang/StringUTF16", name := "length", desc := "([B)I" } : Jvm.MethodName) jdk_52_method_6_code (1 : Nat) (Option.some Jvm.ClassFile.FieldType.int)).before args0 about1 = true := code_word (m := ⟨8, 5⟩) (meth := k8m5) (c := k8c5) (by decide +kernel) rfl rfl rfl (by decide +kernel)
set_option maxRecDepth 65536 in
theorem w_c58 : (Jvm.Cond.code ({ cls := "java/lang/String", name := "checkBoundsOffCount", desc := "(III)I" } : Jvm.MethodName) jdk_42_method_157_code (3 : Nat) (Option.some Jvm.ClassFile.FieldType.int)).before args0 about1 = true := code_word (m := ⟨7, 15⟩) (meth := k7m15) (c := k7c15) (by decide +kernel) rfl rfl rfl (by decide +kernel)
set_option maxRecDepth 65536 in
theorem w_c59 : (Jvm.Cond.code ({ cls := "jdk/internal/util/Preconditions", name := "checkFromIndexSize", desc := "(IIILjava/util/function/BiFunction;)I" } : Jvm.MethodName) jdk_41_method_13_code (4 : Nat) (Option.some Jvm.ClassFile.FieldType.int)).before args0 about1 = true := code_word (m := ⟨15, 3⟩) (meth := k15m3) (c := k15c3) (by decide +kernel) rfl rfl rfl (by decide +kernel)
set_option maxRecDepth 65536 in
theorem w_c60 : (Jvm.Cond.code ({ cls := "java/lang/AbstractStringBuilder", name := "inflate", desc := "()V" } : Jvm.MethodName) jdk_68_method_11_code (2 : Nat) (Option.none : Option Jvm.ClassFile.FieldType)).before args0 about1 = true := code_word (m := ⟨13, 4⟩) (meth := k13m4) (c := k13c4) (by decide +kernel) rfl rfl rfl (by decide +kernel)
set_option maxRecDepth 65536 in
theorem w_c61 : (Jvm.Cond.code ({ cls := "java/lang/StringLatin1", name := "inflate", desc := "([BI[BII)V" } : Jvm.MethodName) jdk_43_method_50_code (5 : Nat) (Option.none : Option Jvm.ClassFile.FieldType)).before args0 about1 = true := code_word (m := ⟨16, 4⟩) (meth := k16m4) (c := k16c4) (by decide +kernel) rfl rfl rfl (by decide +kernel)
set_option maxRecDepth 65536 in
theorem w_c62 : (Jvm.Cond.code ({ cls := "java/lang/StringUTF16", name := "inflate", desc := "([BI[BII)V" } : Jvm.MethodName) jdk_52_method_86_code (6 : Nat) (Option.none : Option Jvm.ClassFile.FieldType)).before args0 about1 = true := code_word (m := ⟨8, 14⟩) (meth := k8m14) (c := k8c14) (by decide +kernel) rfl rfl rfl (by decide +kernel)
set_option maxRecDepth 65536 in
theorem w_c63 : (Jvm.Cond.code ({ cls := "java/lang/StringUTF16", name := "putCharSB", desc := "([BII)V" } : Jvm.MethodName) jdk_52_method_71_code (3 : Nat) (Option.none : Option Jvm.ClassFile.FieldType)).before args0 about1 = true := code_word (m := ⟨8, 13⟩) (meth := k8m13) (c := k8c13) (by decide +kernel) rfl rfl rfl (by decide +kernel)
set_option maxRecDepth 65536 in
theorem w_c64 : (Jvm.Cond.code ({ cls := "java/lang/StringUTF16", name := "checkIndex", desc := "(I[B)V" } : Jvm.MethodName) jdk_52_method_91_code (2 : Nat) (Option.none : Option Jvm.ClassFile.FieldType)).before args0 about1 = true := code_word (m := ⟨8, 15⟩) (meth := k8m15) (c := k8c15) (by decide +kernel) rfl rfl rfl (by decide +kernel)
set_option maxRecDepth 65536 in
theorem w_c65 : (Jvm.Cond.code ({ cls := "java/lang/String", name := "checkIndex", desc := "(II)V" } : Jvm.MethodName) jdk_42_method_155_code (2 : Nat) (Option.none : Option Jvm.ClassFile.FieldType)).before args0 about1 = true := code_word (m := ⟨7, 14⟩) (meth := k7m14) (c := k7c14) (by decide +kernel) rfl rfl rfl (by decide +kernel)
set_option maxRecDepth 65536 in
theorem w_c66 : (Jvm.Cond.code ({ cls := "jdk/internal/util/Preconditions", name := "checkIndex", desc := "(IILjava/util/function/BiFunction;)I" } : Jvm.MethodName) jdk_41_method_11_code (3 : Nat) (Option.some Jvm.ClassFile.FieldType.int)).before args0 about1 = true := code_word (m := ⟨15, 1⟩) (meth := k15m1) (c := k15c1) (by decide +kernel) rfl rfl rfl (by decide +kernel)
def codes1 : List Jvm.Cond := [Jvm.Cond.code x code maxLocals ret, Jvm.Cond.code ({ cls := "com/example/kolejka/kolejka/KeyRangeStartingWithPinLaw", name := "make", desc := "(ICCCC)Ljava/lang/String;" } : Jvm.MethodName) method_3_code (5 : Nat) (Option.some (Jvm.ClassFile.FieldType.object "java/lang/String")), Jvm.Cond.code ({ cls := "java/lang/String", name := "<init>", desc := "([C)V" } : Jvm.MethodName) jdk_42_method_3_code (2 : Nat) (Option.none : Option Jvm.ClassFile.FieldType), Jvm.Cond.code ({ cls := "java/lang/String", name := "<init>", desc := "([CIILjava/lang/Void;)V" } : Jvm.MethodName) jdk_42_method_149_code (6 : Nat) (Option.none : Option Jvm.ClassFile.FieldType), Jvm.Cond.code ({ cls := "java/lang/Object", name := "<init>", desc := "()V" } : Jvm.MethodName) object_method_1_code (1 : Nat) (Option.none : Option Jvm.ClassFile.FieldType), Jvm.Cond.code ({ cls := "java/lang/StringUTF16", name := "compress", desc := "([CII)[B" } : Jvm.MethodName) jdk_52_method_16_code (6 : Nat) (Option.some (Jvm.ClassFile.FieldType.array Jvm.ClassFile.FieldType.byte)), Jvm.Cond.code ({ cls := "java/lang/StringUTF16", name := "compress", desc := "([CI[BII)I" } : Jvm.MethodName) jdk_52_method_21_code (7 : Nat) (Option.some Jvm.ClassFile.FieldType.int), Jvm.Cond.code ({ cls := "java/lang/StringUTF16", name := "coderFromArrayLen", desc := "([BI)B" } : Jvm.MethodName) jdk_52_method_15_code (2 : Nat) (Option.some Jvm.ClassFile.FieldType.byte), Jvm.Cond.code ({ cls := "com/example/kolejka/kolejka/Dialect$KeyRange", name := "startingWith", desc := "(Ljava/lang/String;)Lcom/example/kolejka/kolejka/Dialect$KeyRange;" } : Jvm.MethodName) prog_8_method_2_code (1 : Nat) (Option.some (Jvm.ClassFile.FieldType.object "com/example/kolejka/kolejka/Dialect$KeyRange")), Jvm.Cond.code ({ cls := "java/lang/String", name := "endsWith", desc := "(Ljava/lang/String;)Z" } : Jvm.MethodName) jdk_42_method_77_code (2 : Nat) (Option.some Jvm.ClassFile.FieldType.boolean), Jvm.Cond.code ({ cls := "java/lang/String", name := "length", desc := "()I" } : Jvm.MethodName) jdk_42_method_54_code (1 : Nat) (Option.some Jvm.ClassFile.FieldType.int), Jvm.Cond.code ({ cls := "java/lang/String", name := "coder", desc := "()B" } : Jvm.MethodName) jdk_42_method_152_code (1 : Nat) (Option.some Jvm.ClassFile.FieldType.byte), Jvm.Cond.code ({ cls := "java/lang/String", name := "startsWith", desc := "(Ljava/lang/String;I)Z" } : Jvm.MethodName) jdk_42_method_75_code (8 : Nat) (Option.some Jvm.ClassFile.FieldType.boolean), Jvm.Cond.code ({ cls := "jdk/internal/util/ArraysSupport", name := "mismatch", desc := "([BI[BII)I" } : Jvm.MethodName) jdk_48_method_14_code (8 : Nat) (Option.some Jvm.ClassFile.FieldType.int), Jvm.Cond.code ({ cls := "java/lang/StringBuilder", name := "<init>", desc := "()V" } : Jvm.MethodName) jdk_67_method_1_code (1 : Nat) (Option.none : Option Jvm.ClassFile.FieldType), Jvm.Cond.code ({ cls := "java/lang/AbstractStringBuilder", name := "<init>", desc := "(I)V" } : Jvm.MethodName) jdk_68_method_2_code (2 : Nat) (Option.none : Option Jvm.ClassFile.FieldType), Jvm.Cond.code ({ cls := "java/lang/String", name := "substring", desc := "(II)Ljava/lang/String;" } : Jvm.MethodName) jdk_42_method_92_code (5 : Nat) (Option.some (Jvm.ClassFile.FieldType.object "java/lang/String")), Jvm.Cond.code ({ cls := "java/lang/String", name := "checkBoundsBeginEnd", desc := "(III)V" } : Jvm.MethodName) jdk_42_method_158_code (3 : Nat) (Option.none : Option Jvm.ClassFile.FieldType), Jvm.Cond.code ({ cls := "jdk/internal/util/Preconditions", name := "checkFromToIndex", desc := "(IIILjava/util/function/BiFunction;)I" } : Jvm.MethodName) jdk_41_method_12_code (4 : Nat) (Option.some Jvm.ClassFile.FieldType.int), Jvm.Cond.code ({ cls := "java/lang/String", name := "isLatin1", desc := "()Z" } : Jvm.MethodName) jdk_42_method_154_code (1 : Nat) (Option.some Jvm.ClassFile.FieldType.boolean), Jvm.Cond.code ({ cls := "java/lang/StringLatin1", name := "newString", desc := "([BII)Ljava/lang/String;" } : Jvm.MethodName) jdk_43_method_47_code (3 : Nat) (Option.some (Jvm.ClassFile.FieldType.object "java/lang/String")), Jvm.Cond.code ({ cls := "java/lang/StringBuilder", name := "append", desc := "(Ljava/lang/String;)Ljava/lang/StringBuilder;" } : Jvm.MethodName) jdk_67_method_7_code (2 : Nat) (Option.some (Jvm.ClassFile.FieldType.object "java/lang/StringBuilder")), Jvm.Cond.code ({ cls := "java/lang/AbstractStringBuilder", name := "append", desc := "(Ljava/lang/String;)Ljava/lang/AbstractStringBuilder;" } : Jvm.MethodName) jdk_68_method_22_code (3 : Nat) (Option.some (Jvm.ClassFile.FieldType.object "java/lang/AbstractStringBuilder")), Jvm.Cond.code ({ cls := "java/lang/AbstractStringBuilder", name := "ensureCapacityInternal", desc := "(I)V" } : Jvm.MethodName) jdk_68_method_9_code (3 : Nat) (Option.none : Option Jvm.ClassFile.FieldType), Jvm.Cond.code ({ cls := "java/lang/AbstractStringBuilder", name := "putStringAt", desc := "(ILjava/lang/String;)V" } : Jvm.MethodName) jdk_68_method_73_code (3 : Nat) (Option.none : Option Jvm.ClassFile.FieldType), Jvm.Cond.code ({ cls := "java/lang/AbstractStringBuilder", name := "inflateIfNeededFor", desc := "(Ljava/lang/String;)V" } : Jvm.MethodName) jdk_68_method_71_code (2 : Nat) (Option.none : Option Jvm.ClassFile.FieldType), Jvm.Cond.code ({ cls := "java/lang/String", name := "getBytes", desc := "([BIB)V" } : Jvm.MethodName) jdk_42_method_147_code (4 : Nat) (Option.none : Option Jvm.ClassFile.FieldType), Jvm.Cond.code ({ cls := "java/lang/StringBuilder", name := "append", desc := "(C)Ljava/lang/StringBuilder;" } : Jvm.MethodName) jdk_67_method_14_code (2 : Nat) (Option.some (Jvm.ClassFile.FieldType.object "java/lang/StringBuilder")), Jvm.Cond.code ({ cls := "java/lang/AbstractStringBuilder", name := "append", desc := "(C)Ljava/lang/AbstractStringBuilder;" } : Jvm.MethodName) jdk_68_method_31_code (2 : Nat) (Option.some (Jvm.ClassFile.FieldType.object "java/lang/AbstractStringBuilder")), Jvm.Cond.code ({ cls := "java/lang/AbstractStringBuilder", name := "isLatin1", desc := "()Z" } : Jvm.MethodName) jdk_68_method_68_code (1 : Nat) (Option.some Jvm.ClassFile.FieldType.boolean), Jvm.Cond.code ({ cls := "java/lang/StringLatin1", name := "canEncode", desc := "(C)Z" } : Jvm.MethodName) jdk_43_method_3_code (1 : Nat) (Option.some Jvm.ClassFile.FieldType.boolean), Jvm.Cond.code ({ cls := "java/lang/StringBuilder", name := "toString", desc := "()Ljava/lang/String;" } : Jvm.MethodName) jdk_67_method_42_code (1 : Nat) (Option.some (Jvm.ClassFile.FieldType.object "java/lang/String")), Jvm.Cond.code ({ cls := "java/lang/String", name := "<init>", desc := "(Ljava/lang/StringBuilder;)V" } : Jvm.MethodName) jdk_42_method_53_code (2 : Nat) (Option.none : Option Jvm.ClassFile.FieldType), Jvm.Cond.code ({ cls := "java/lang/String", name := "<init>", desc := "(Ljava/lang/AbstractStringBuilder;Ljava/lang/Void;)V" } : Jvm.MethodName) jdk_42_method_150_code (5 : Nat) (Option.none : Option Jvm.ClassFile.FieldType), Jvm.Cond.code ({ cls := "java/lang/AbstractStringBuilder", name := "getValue", desc := "()[B" } : Jvm.MethodName) jdk_68_method_64_code (1 : Nat) (Option.some (Jvm.ClassFile.FieldType.array Jvm.ClassFile.FieldType.byte)), Jvm.Cond.code ({ cls := "java/lang/StringBuilder", name := "length", desc := "()I" } : Jvm.MethodName) jdk_67_method_93_code (1 : Nat) (Option.some Jvm.ClassFile.FieldType.int), Jvm.Cond.code ({ cls := "java/lang/AbstractStringBuilder", name := "length", desc := "()I" } : Jvm.MethodName) jdk_68_method_6_code (1 : Nat) (Option.some Jvm.ClassFile.FieldType.int), Jvm.Cond.code ({ cls := "java/util/Arrays", name := "copyOfRange", desc := "([BII)[B" } : Jvm.MethodName) jdk_65_method_132_code (3 : Nat) (Option.some (Jvm.ClassFile.FieldType.array Jvm.ClassFile.FieldType.byte)), Jvm.Cond.code ({ cls := "java/util/Arrays", name := "copyOfRangeByte", desc := "([BII)[B" } : Jvm.MethodName) jdk_65_method_133_code (5 : Nat) (Option.some (Jvm.ClassFile.FieldType.array Jvm.ClassFile.FieldType.byte)), Jvm.Cond.code ({ cls := "java/util/Arrays", name := "checkLength", desc := "(II)V" } : Jvm.MethodName) jdk_65_method_131_code (2 : Nat) (Option.none : Option Jvm.ClassFile.FieldType), Jvm.Cond.code ({ cls := "java/lang/Math", name := "min", desc := "(II)I" } : Jvm.MethodName) jdk_29_method_69_code (2 : Nat) (Option.some Jvm.ClassFile.FieldType.int), Jvm.Cond.code ({ cls := "com/example/kolejka/kolejka/Dialect$KeyRange", name := "<init>", desc := "(Ljava/lang/String;Ljava/lang/String;)V" } : Jvm.MethodName) prog_8_method_1_code (3 : Nat) (Option.none : Option Jvm.ClassFile.FieldType), Jvm.Cond.code ({ cls := "java/lang/Record", name := "<init>", desc := "()V" } : Jvm.MethodName) jdk_30_method_1_code (1 : Nat) (Option.none : Option Jvm.ClassFile.FieldType), Jvm.Cond.code ({ cls := "com/example/kolejka/kolejka/Dialect$KeyRange", name := "from", desc := "()Ljava/lang/String;" } : Jvm.MethodName) prog_8_method_6_code (1 : Nat) (Option.some (Jvm.ClassFile.FieldType.object "java/lang/String")), Jvm.Cond.code ({ cls := "java/lang/String", name := "equals", desc := "(Ljava/lang/Object;)Z" } : Jvm.MethodName) jdk_42_method_66_code (3 : Nat) (Option.some Jvm.ClassFile.FieldType.boolean), Jvm.Cond.code ({ cls := "com/example/kolejka/kolejka/Dialect$KeyRange", name := "to", desc := "()Ljava/lang/String;" } : Jvm.MethodName) prog_8_method_7_code (1 : Nat) (Option.some (Jvm.ClassFile.FieldType.object "java/lang/String")), Jvm.Cond.code ({ cls := "java/lang/StringLatin1", name := "equals", desc := "([B[B)Z" } : Jvm.MethodName) jdk_43_method_13_code (3 : Nat) (Option.some Jvm.ClassFile.FieldType.boolean), Jvm.Cond.code ({ cls := "java/lang/String", name := "<init>", desc := "([BB)V" } : Jvm.MethodName) jdk_42_method_151_code (3 : Nat) (Option.none : Option Jvm.ClassFile.FieldType), Jvm.Cond.code ({ cls := "java/lang/StringUTF16", name := "toBytes", desc := "([CII)[B" } : Jvm.MethodName) jdk_52_method_14_code (5 : Nat) (Option.some (Jvm.ClassFile.FieldType.array Jvm.ClassFile.FieldType.byte)), Jvm.Cond.code ({ cls := "java/lang/StringUTF16", name := "newBytesFor", desc := "(I)[B" } : Jvm.MethodName) jdk_52_method_2_code (1 : Nat) (Option.some (Jvm.ClassFile.FieldType.array Jvm.ClassFile.FieldType.byte)), Jvm.Cond.code ({ cls := "java/lang/StringUTF16", name := "newBytesLength", desc := "(I)I" } : Jvm.MethodName) jdk_52_method_3_code (1 : Nat) (Option.some Jvm.ClassFile.FieldType.int), Jvm.Cond.code ({ cls := "java/lang/StringUTF16", name := "putChar", desc := "([BII)V" } : Jvm.MethodName) jdk_52_method_4_code (3 : Nat) (Option.none : Option Jvm.ClassFile.FieldType), Jvm.Cond.code ({ cls := "java/lang/StringUTF16", name := "getChar", desc := "([BI)C" } : Jvm.MethodName) jdk_52_method_5_code (2 : Nat) (Option.some Jvm.ClassFile.FieldType.char), Jvm.Cond.code ({ cls := "java/lang/StringUTF16", name := "newString", desc := "([BII)Ljava/lang/String;" } : Jvm.MethodName) jdk_52_method_69_code (5 : Nat) (Option.some (Jvm.ClassFile.FieldType.object "java/lang/String")), Jvm.Cond.code ({ cls := "java/lang/StringUTF16", name := "compress", desc := "([BII)[B" } : Jvm.MethodName) jdk_52_method_17_code (6 : Nat) (Option.some (Jvm.ClassFile.FieldType.array Jvm.ClassFile.FieldType.byte)), Jvm.Cond.code ({ cls := "java/lang/StringUTF16", name := "compress", desc := "([BI[BII)I" } : Jvm.MethodName) jdk_52_method_22_code (7 : Nat) (Option.some Jvm.ClassFile.FieldType.int), Jvm.Cond.code ({ cls := "java/lang/StringUTF16", name := "checkBoundsOffCount", desc := "(II[B)V" } : Jvm.MethodName) jdk_52_method_94_code (3 : Nat) (Option.none : Option Jvm.ClassFile.FieldType), Jvm.Cond.code ({ cls := "java/lang/StringUTF16", name := "length", desc := "([B)I" } : Jvm.MethodName) jdk_52_method_6_code (1 : Nat) (Option.some Jvm.ClassFile.FieldType.int), Jvm.Cond.code ({ cls := "java/lang/String", name := "checkBoundsOffCount", desc := "(III)I" } : Jvm.MethodName) jdk_42_method_157_code (3 : Nat) (Option.some Jvm.ClassFile.FieldType.int), Jvm.Cond.code ({ cls := "jdk/internal/util/Preconditions", name := "checkFromIndexSize", desc := "(IIILjava/util/function/BiFunction;)I" } : Jvm.MethodName) jdk_41_method_13_code (4 : Nat) (Option.some Jvm.ClassFile.FieldType.int), Jvm.Cond.code ({ cls := "java/lang/AbstractStringBuilder", name := "inflate", desc := "()V" } : Jvm.MethodName) jdk_68_method_11_code (2 : Nat) (Option.none : Option Jvm.ClassFile.FieldType), Jvm.Cond.code ({ cls := "java/lang/StringLatin1", name := "inflate", desc := "([BI[BII)V" } : Jvm.MethodName) jdk_43_method_50_code (5 : Nat) (Option.none : Option Jvm.ClassFile.FieldType), Jvm.Cond.code ({ cls := "java/lang/StringUTF16", name := "inflate", desc := "([BI[BII)V" } : Jvm.MethodName) jdk_52_method_86_code (6 : Nat) (Option.none : Option Jvm.ClassFile.FieldType), Jvm.Cond.code ({ cls := "java/lang/StringUTF16", name := "putCharSB", desc := "([BII)V" } : Jvm.MethodName) jdk_52_method_71_code (3 : Nat) (Option.none : Option Jvm.ClassFile.FieldType), Jvm.Cond.code ({ cls := "java/lang/StringUTF16", name := "checkIndex", desc := "(I[B)V" } : Jvm.MethodName) jdk_52_method_91_code (2 : Nat) (Option.none : Option Jvm.ClassFile.FieldType), Jvm.Cond.code ({ cls := "java/lang/String", name := "checkIndex", desc := "(II)V" } : Jvm.MethodName) jdk_42_method_155_code (2 : Nat) (Option.none : Option Jvm.ClassFile.FieldType), Jvm.Cond.code ({ cls := "jdk/internal/util/Preconditions", name := "checkIndex", desc := "(IILjava/util/function/BiFunction;)I" } : Jvm.MethodName) jdk_41_method_11_code (3 : Nat) (Option.some Jvm.ClassFile.FieldType.int)]
set_option maxRecDepth 65536 in
theorem codes_eq : words1.filter isCode = codes1 := rfl
theorem w_codes : ∀ c ∈ words1.filter isCode, c.before args0 about1 = true := by
  rw [codes_eq]
  intro c hc
  simp only [codes1, List.mem_cons, List.not_mem_nil, or_false] at hc
  rcases hc with rfl | rfl | rfl | rfl | rfl | rfl | rfl | rfl | rfl | rfl | rfl | rfl | rfl | rfl | rfl | rfl | rfl | rfl | rfl | rfl | rfl | rfl | rfl | rfl | rfl | rfl | rfl | rfl | rfl | rfl | rfl | rfl | rfl | rfl | rfl | rfl | rfl | rfl | rfl | rfl | rfl | rfl | rfl | rfl | rfl | rfl | rfl | rfl | rfl | rfl | rfl | rfl | rfl | rfl | rfl | rfl | rfl | rfl | rfl | rfl | rfl | rfl | rfl | rfl | rfl | rfl | rfl
  · exact w_c0
  · exact w_c1
  · exact w_c2
  · exact w_c3
  · exact w_c4
  · exact w_c5
  · exact w_c6
  · exact w_c7
  · exact w_c8
  · exact w_c9
  · exact w_c10
  · exact w_c11
  · exact w_c12
  · exact w_c13
  · exact w_c14
  · exact w_c15
  · exact w_c16
  · exact w_c17
  · exact w_c18
  · exact w_c19
  · exact w_c20
  · exact w_c21
  · exact w_c22
  · exact w_c23
  · exact w_c24
  · exact w_c25
  · exact w_c26
  · exact w_c27
  · exact w_c28
  · exact w_c29
  · exact w_c30
  · exact w_c31
  · exact w_c32
  · exact w_c33
  · exact w_c34
  · exact w_c35
  · exact w_c36
  · exact w_c37
  · exact w_c38
  · exact w_c39
  · exact w_c40
  · exact w_c41
  · exact w_c42
  · exact w_c43
  · exact w_c44
  · exact w_c45
  · exact w_c46
  · exact w_c47
  · exact w_c48
  · exact w_c49
  · exact w_c50
  · exact w_c51
  · exact w_c52
  · exact w_c53
  · exact w_c54
  · exact w_c55
  · exact w_c56
  · exact w_c57
  · exact w_c58
  · exact w_c59
  · exact w_c60
  · exact w_c61
  · exact w_c62
  · exact w_c63
  · exact w_c64
  · exact w_c65
  · exact w_c66
set_option maxRecDepth 65536 in
theorem w_t1 : (words1.take 24).all (fun c => isCode c || c.before args0 about1) = true := by decide +kernel
set_option maxRecDepth 65536 in
theorem w_t2 : ((words1.drop 24).take 24).all (fun c => isCode c || c.before args0 about1) = true := by decide +kernel
set_option maxRecDepth 65536 in
theorem w_t3 : (((words1.drop 24).drop 24).take 24).all (fun c => isCode c || c.before args0 about1) = true := by decide +kernel
set_option maxRecDepth 65536 in
theorem w_t4 : ((((words1.drop 24).drop 24).drop 24).take 24).all (fun c => isCode c || c.before args0 about1) = true := by decide +kernel
set_option maxRecDepth 65536 in
theorem w_t5 : (((((words1.drop 24).drop 24).drop 24).drop 24).take 24).all (fun c => isCode c || c.before args0 about1) = true := by decide +kernel
set_option maxRecDepth 65536 in
theorem w_t6 : ((((((words1.drop 24).drop 24).drop 24).drop 24).drop 24).take 24).all (fun c => isCode c || c.before args0 about1) = true := by decide +kernel
set_option maxRecDepth 65536 in
theorem w_t7 : (((((((words1.drop 24).drop 24).drop 24).drop 24).drop 24).drop 24).take 24).all (fun c => isCode c || c.before args0 about1) = true := by decide +kernel
set_option maxRecDepth 65536 in
theorem w_t8 : ((((((((words1.drop 24).drop 24).drop 24).drop 24).drop 24).drop 24).drop 24).take 24).all (fun c => isCode c || c.before args0 about1) = true := by decide +kernel
set_option maxRecDepth 65536 in
theorem w_t9 : (((((((((words1.drop 24).drop 24).drop 24).drop 24).drop 24).drop 24).drop 24).drop 24).take 24).all (fun c => isCode c || c.before args0 about1) = true := by decide +kernel
set_option maxRecDepth 65536 in
theorem w_t10 : ((((((((((words1.drop 24).drop 24).drop 24).drop 24).drop 24).drop 24).drop 24).drop 24).drop 24).take 24).all (fun c => isCode c || c.before args0 about1) = true := by decide +kernel
set_option maxRecDepth 65536 in
theorem w_t11 : (((((((((((words1.drop 24).drop 24).drop 24).drop 24).drop 24).drop 24).drop 24).drop 24).drop 24).drop 24).take 24).all (fun c => isCode c || c.before args0 about1) = true := by decide +kernel
set_option maxRecDepth 65536 in
theorem w_t12 : ((((((((((((words1.drop 24).drop 24).drop 24).drop 24).drop 24).drop 24).drop 24).drop 24).drop 24).drop 24).drop 24).take 24).all (fun c => isCode c || c.before args0 about1) = true := by decide +kernel
set_option maxRecDepth 65536 in
theorem w_t13 : (((((((((((((words1.drop 24).drop 24).drop 24).drop 24).drop 24).drop 24).drop 24).drop 24).drop 24).drop 24).drop 24).drop 24).take 24).all (fun c => isCode c || c.before args0 about1) = true := by decide +kernel
set_option maxRecDepth 65536 in
theorem w_t14 : (((((((((((((words1.drop 24).drop 24).drop 24).drop 24).drop 24).drop 24).drop 24).drop 24).drop 24).drop 24).drop 24).drop 24).drop 24).all (fun c => isCode c || c.before args0 about1) = true := by decide +kernel
theorem w_tables : (allAtoms (Jvm.Cond.code x code maxLocals ret :: tables_1)).before args0 about1 = true := by
  rw [allAtoms_all]
  show words1.all (fun c => c.before args0 about1) = true
  refine all_split ?_ w_codes
  rw [← List.take_append_drop 24 words1, List.all_append, w_t1, ← List.take_append_drop 24 (words1.drop 24), List.all_append, w_t2, ← List.take_append_drop 24 ((words1.drop 24).drop 24), List.all_append, w_t3, ← List.take_append_drop 24 (((words1.drop 24).drop 24).drop 24), List.all_append, w_t4, ← List.take_append_drop 24 ((((words1.drop 24).drop 24).drop 24).drop 24), List.all_append, w_t5, ← List.take_append_drop 24 (((((words1.drop 24).drop 24).drop 24).drop 24).drop 24), List.all_append, w_t6, ← List.take_append_drop 24 ((((((words1.drop 24).drop 24).drop 24).drop 24).drop 24).drop 24), List.all_append, w_t7, ← List.take_append_drop 24 (((((((words1.drop 24).drop 24).drop 24).drop 24).drop 24).drop 24).drop 24), List.all_append, w_t8, ← List.take_append_drop 24 ((((((((words1.drop 24).drop 24).drop 24).drop 24).drop 24).drop 24).drop 24).drop 24), List.all_append, w_t9, ← List.take_append_drop 24 (((((((((words1.drop 24).drop 24).drop 24).drop 24).drop 24).drop 24).drop 24).drop 24).drop 24), List.all_append, w_t10, ← List.take_append_drop 24 ((((((((((words1.drop 24).drop 24).drop 24).drop 24).drop 24).drop 24).drop 24).drop 24).drop 24).drop 24), List.all_append, w_t11, ← List.take_append_drop 24 (((((((((((words1.drop 24).drop 24).drop 24).drop 24).drop 24).drop 24).drop 24).drop 24).drop 24).drop 24).drop 24), List.all_append, w_t12, ← List.take_append_drop 24 ((((((((((((words1.drop 24).drop 24).drop 24).drop 24).drop 24).drop 24).drop 24).drop 24).drop 24).drop 24).drop 24).drop 24), List.all_append, w_t13, w_t14]
  rfl
set_option maxRecDepth 65536 in
theorem w_rest : rest_1_c.before args0 about1 = true := by decide +kernel
set_option maxRecDepth 65536 in
theorem w_case : (Jvm.Cond.and given_1 narrow_1).before args0 about1 = true := by decide +kernel
set_option maxRecDepth 65536 in
theorem w_consts : constsHeld consts_1 about1 := Jvm.Lit.constsHeldB_iff.mp (by decide +kernel)
theorem w_applies : (headSpec (Jvm.Cond.code x code maxLocals ret :: tables_1) room_1).applies x e0.platform about1 = true :=
  (Spec.applies_iff w_frames).mpr ⟨w_running, w_runnable, w_alone, w_named, w_hears, w_ripe, w_room, w_tables⟩
theorem atStart : AtStart classFile x code maxLocals ret World_1 tables_1 room_1 Calls_1 rest_1 Pre_1 launch0 p0 e0 about1 theMethod args0 below0 :=
  ⟨lists_1, trivial, launch0.admits_env _ _ _, launch0.least_env, fairChoices_fair.cas, fairChoices_fair.clock, w_frames, w_args, w_heap, w_applies, ⟨w_consts, trivial⟩, w_rest, w_case⟩
end start1
theorem witness_1 : WitnessClaimed_1 := ⟨start1.p0, start1.e0, start1.about1, start1.theMethod, start1.args0, start1.below0, start1.atStart⟩
end Jvm.Pilot.@@N@@
