import JvmDerived
import JvmDerived.Pilot.@@N@@Statement
import JvmDerived.Pilot.@@N@@Code
set_option linter.unusedVariables false
set_option linter.unusedSimpArgs false
namespace Jvm.Own
open Jvm Jvm.ClassFile Sem Op Lib Jvm.Free Jvm.Stand Jvm.LawKit Jvm.RoadKit
/-! OWN KIT 1: a walk as a weakest precondition. 'Go pc L st h ss k n': from any state of this invocation that stands at pc with locals L, stack st, heap h, the writable addresses ss, k cells and n slots made so far, the run ends as Q says. -/
abbrev IV : Type := Program × Launch × Env × Room × State × MethodId × Array Value × List Frame × Method × Code
abbrev IV.p (K : IV) : Program := K.1
abbrev IV.l (K : IV) : Launch := K.2.1
abbrev IV.e (K : IV) : Env := K.2.2.1
abbrev IV.R (K : IV) : Room := K.2.2.2.1
abbrev IV.s (K : IV) : State := K.2.2.2.2.1
abbrev IV.m (K : IV) : MethodId := K.2.2.2.2.2.1
abbrev IV.args (K : IV) : Array Value := K.2.2.2.2.2.2.1
abbrev IV.below (K : IV) : List Frame := K.2.2.2.2.2.2.2.1
abbrev IV.meth (K : IV) : Method := K.2.2.2.2.2.2.2.2.1
abbrev IV.c (K : IV) : Code := K.2.2.2.2.2.2.2.2.2
def Sf (Z : State) (EL : List (String × Nat)) (n0 : Nat) (vm : Vm) (h : Heap) (ss0 : List Addr) (h0 : Heap) (ss : List Addr) : Prop := ∀ x ∈ ss, n0 ≤ x ∧ x < h.size ∧ Safe Z EL vm h x ∧ (x ∈ ss0 ∨ h0.size ≤ x)
def EndW (w : Bool) (s : State) (o : Outcome) (t : State) (L : List Loc) (k n : Nat) : Prop := match w with
  | true => ReturnedEndW s o t L k n
  | false => FrameEnd s o t L k n
def Here (w : Bool) (K : IV) (Z : State) (EL : List (String × Nat)) (n0 : Nat) (ss0 : List Addr) (T : State) (h : Heap) (ss : List Addr) (k n : Nat) : Prop :=
  ∃ (vm0 : Vm) (locs : List Loc) (k0 : Nat), Stand K.p K.l K.e K.R (K.s.setVm vm0) K.m K.args K.below K.meth K.c T locs k n ∧ Fr n0 locs ∧ T.heap = h ∧ K.s.Since vm0 k0 ∧ k0 ≤ h.size ∧ Z.Warmed39 vm0 ∧ (w = false → vm0 = K.s.vm) ∧ CHr Z EL K.s.vm K.s.heap vm0 h ∧ Sf Z EL n0 vm0 h ss0 K.s.heap ss ∧ Old Z n0 h ∧ Keep K.s.heap h ss0
def Fns (w : Bool) (K : IV) (Z : State) (EL : List (String × Nat)) (n0 : Nat) (ss0 : List Addr) (Q : Option Value → Heap → List Addr → Prop) (u : State) : Prop :=
  ∃ (t : State) (v : Option Value) (L : List Loc) (gs : List Addr), Steps K.p.tables K.e K.below u t ∧ t.status = .running ∧ Ended t K.below (.returned v) ∧ Q v t.heap gs ∧ Fr n0 L ∧ CHr Z EL K.s.vm K.s.heap t.vm t.heap ∧ Keep K.s.heap t.heap ss0 ∧ Sf Z EL n0 t.vm t.heap ss0 K.s.heap gs ∧ Old Z n0 t.heap ∧ EndW w K.s (.returned v) t L K.R.cells K.R.slots
def Go (w : Bool) (K : IV) (Z : State) (EL : List (String × Nat)) (n0 : Nat) (ss0 : List Addr) (Q : Option Value → Heap → List Addr → Prop) (pc : Nat) (L : Array Slot) (st : List Value) (h : Heap) (ss : List Addr) (k n : Nat) : Prop :=
  ∀ T, Here w K Z EL n0 ss0 T h ss k n → Fns w K Z EL n0 ss0 Q (T.setTop (mkF K.m pc L st))
def Cx (w : Bool) (K : IV) (Z : State) (a0 : Array Value) (EL : List (String × Nat)) (own : String) (code : ByteArray) (ml : Nat) (rt : Option FieldType) (mn : String) (R : Room) : Prop :=
  K.p.tables.exec = Jvm.exec ∧ K.c.code = code ∧ K.c.maxLocals = ml ∧ K.s.vm.findClass own = some K.m.cls ∧ K.meth.sig.returnType = rt ∧ K.meth.locks = false ∧ K.meth.name = mn ∧ K.R = R ∧ EW Z a0 EL ∧ (w = false → EL = [])
abbrev Rm (f c s l : Nat) : Room := { frames := f, cells := c, slots := s, locals := l }
def Con (w : Bool) (Z : State) (EL : List (String × Nat)) (n0 : Nat) (y : MethodName) (bytes : ByteArray) (ml : Nat) (rt : Option FieldType) (R : Room) (as : List Value) (h0 : Heap) (ss0 : List Addr) (Q : Option Value → Heap → List Addr → Prop) : Prop :=
  ∀ (l : Launch) (ws : List Cond), MetFree l y (head1 (Cond.code y bytes ml rt :: ws) R) (fun a U => a = as.toArray ∧ Z.Warmed39 U.vm ∧ U.heap = h0 ∧ CHv Z EL U.vm h0 ∧ ∀ x ∈ ss0, n0 ≤ x ∧ x < h0.size ∧ Safe Z EL U.vm h0 x) (fun _ _ _ _ _ => True)
    (fun _ U o U' => ∃ (v : Option Value) (L : List Loc) (gs : List Addr), o = .returned v ∧ Q v U'.heap gs ∧ Fr n0 L ∧ CHr Z EL U.vm h0 U'.vm U'.heap ∧ Keep h0 U'.heap ss0 ∧ Sf Z EL n0 U'.vm U'.heap ss0 h0 gs ∧ Old Z n0 U'.heap ∧ EndW w U o U' L R.cells R.slots)
theorem dle {a b : Nat} (h : Nat.ble a b = true) : a ≤ b := Nat.le_of_ble_eq_true h
theorem dlt {a b : Nat} (h : Nat.ble (a + 1) b = true) : a < b := Nat.le_of_ble_eq_true h
section Kit
variable {w : Bool} {K : IV} {Z : State} {a0 : Array Value} {EL : List (String × Nat)} {n0 : Nat} {ss0 ss : List Addr} {Q : Option Value → Heap → List Addr → Prop} {pc pc' pcT : Nat} {L L' : Array Slot} {st st' : List Value} {h h' : Heap} {k n : Nat} {own : String} {code : ByteArray} {ml : Nat} {rt : Option FieldType} {mn : String} {R : Room}
theorem chr_nil {vm vm' : Vm} (q : h.size ≤ h'.size) : CHr Z [] vm h vm' h' := ⟨fun _ hp => absurd hp List.not_mem_nil, q, fun y ⟨p, hp, _⟩ => absurd hp List.not_mem_nil⟩
theorem Fns.steps {u u' : State} (hs : ∀ t, Steps K.p.tables K.e K.below u' t → Steps K.p.tables K.e K.below u t) (F : Fns w K Z EL n0 ss0 Q u') : Fns w K Z EL n0 ss0 Q u := by
  obtain ⟨t, v, L, gs, h1, r⟩ := F
  exact ⟨t, v, L, gs, hs t h1, r⟩
theorem Go.plain (hs : ∀ {T : State}, At T K.m K.c K.below → ∀ t, Steps K.p.tables K.e K.below (T.setTop (mkF K.m pc' L' st')) t → Steps K.p.tables K.e K.below (T.setTop (mkF K.m pc L st)) t) (G : Go w K Z EL n0 ss0 Q pc' L' st' h ss k n) : Go w K Z EL n0 ss0 Q pc L st h ss k n := by
  intro T H
  have H' := H
  obtain ⟨vm0, locs, k0, X, -⟩ := H
  exact Fns.steps (hs X.here) (G T H')
theorem fcl {vm0 : Vm} {k0 : Nat} (C : Cx w K Z a0 EL own code ml rt mn R) (hS : K.s.Since vm0 k0) : vm0.findClass own = some K.m.cls := by
  rw [hS.1.alike.findClass]; exact C.2.2.2.1
/-- a step that moves the tables alone -/
theorem Go.same (C : Cx w K Z a0 EL own code ml rt mn R) (hs : ∀ {T : State} {vm0 : Vm} {locs : List Loc}, Stand K.p K.l K.e K.R (K.s.setVm vm0) K.m K.args K.below K.meth K.c T locs k n → T.heap = h → Z.Warmed39 (K.s.setVm vm0).vm → (K.s.setVm vm0).vm.findClass own = some K.m.cls → Ext Z.heap h →
      ∃ T', Stand K.p K.l K.e K.R (K.s.setVm vm0) K.m K.args K.below K.meth K.c T' locs k n ∧ T'.heap = h ∧ ∀ t, Steps K.p.tables K.e K.below (T'.setTop (mkF K.m pc' L' st')) t → Steps K.p.tables K.e K.below (T.setTop (mkF K.m pc L st)) t)
    (G : Go w K Z EL n0 ss0 Q pc' L' st' h ss k n) : Go w K Z EL n0 ss0 Q pc L st h ss k n := by
  intro T H
  obtain ⟨vm0, locs, k0, X, N, eT, hS, hk, hZ, hv, hC, hF, hO, hK⟩ := H
  obtain ⟨T', X', eT', st'⟩ := hs X eT hZ (fcl C hS) hO.2
  exact Fns.steps st' (G T' ⟨vm0, locs, k0, X', N, eT', hS, hk, hZ, hv, hC, hF, hO, hK⟩)
theorem Sf.ext {vm : Vm} {h0 : Heap} (E : Ext h h') (H : CHv Z EL vm h) (S : Sf Z EL n0 vm h ss0 h0 ss) : Sf Z EL n0 vm h' ss0 h0 ss := fun x hx => by
  obtain ⟨a, b, c, d⟩ := S x hx
  exact ⟨a, Nat.lt_of_lt_of_le b E.1, Safe.ext E H c, d⟩
/-- a step that makes one cell (or more) at the heap's end, the first at h.size -/
theorem Go.grow (C : Cx w K Z a0 EL own code ml rt mn R) {dk dn : Nat} {P : Heap → Prop} (hsz : ∀ h', P h' → h.size < h'.size) (hs : ∀ {T : State} {vm0 : Vm} {locs : List Loc}, Stand K.p K.l K.e K.R (K.s.setVm vm0) K.m K.args K.below K.meth K.c T locs k n → T.heap = h → Z.Warmed39 (K.s.setVm vm0).vm → (K.s.setVm vm0).vm.findClass own = some K.m.cls →
      ∃ T' h', Stand K.p K.l K.e K.R (K.s.setVm vm0) K.m K.args K.below K.meth K.c T' locs (k + dk) (n + dn) ∧ T'.heap = h' ∧ Ext h h' ∧ P h' ∧ ∀ t, Steps K.p.tables K.e K.below (T'.setTop (mkF K.m pc' L' st')) t → Steps K.p.tables K.e K.below (T.setTop (mkF K.m pc L st)) t)
    (G : ∀ h', Keep h h' [] → h.size < h'.size → n0 ≤ h.size → P h' → Go w K Z EL n0 ss0 Q pc' L' st' h' (h.size :: ss) (k + dk) (n + dn)) : Go w K Z EL n0 ss0 Q pc L st h ss k n := by
  intro T H
  obtain ⟨vm0, locs, k0, X, N, eT, hS, hk, hZ, hv, hC, hF, hO, hK⟩ := H
  obtain ⟨T', h', X', eT', E, hP, st'⟩ := hs X eT hZ (fcl C hS)
  have hn0 : n0 ≤ h.size := hO.1 ▸ hO.2.1
  refine Fns.steps st' (G h' ((Keep.refl h []).ext E) (hsz _ hP) hn0 hP T' ⟨vm0, locs, k0, X', N, eT', hS, Nat.le_trans hk E.1, hZ, hv, hC.trans (CHr.ext E hC.1), ?_, hO.ext E, hK.ext E⟩)
  intro x hx
  rcases List.mem_cons.mp hx with rfl | hx
  · exact ⟨hn0, hsz _ hP, Safe.ext E hC.1 (Safe.new (Nat.le_refl _)), Or.inr hK.1⟩
  · exact hF.ext E hC.1 x hx
/-- a step that writes one slot of a writable cell -/
theorem Go.write (C : Cx w K Z a0 EL own code ml rt mn R) {a : Addr} {sl : Nat} {v : Value} (ha : a ∈ ss) (hs : ∀ {T : State} {vm0 : Vm} {locs : List Loc}, Stand K.p K.l K.e K.R (K.s.setVm vm0) K.m K.args K.below K.meth K.c T locs k n → T.heap = h → Z.Warmed39 (K.s.setVm vm0).vm → (K.s.setVm vm0).vm.findClass own = some K.m.cls →
      ∃ T' h', Stand K.p K.l K.e K.R (K.s.setVm vm0) K.m K.args K.below K.meth K.c T' (locs ++ [⟨a, sl⟩]) k n ∧ T'.heap = h' ∧ Wr h h' a sl v ∧ ∀ t, Steps K.p.tables K.e K.below (T'.setTop (mkF K.m pc' L' st')) t → Steps K.p.tables K.e K.below (T.setTop (mkF K.m pc L st)) t)
    (G : ∀ h', Wr h h' a sl v → Go w K Z EL n0 ss0 Q pc' L' st' h' ss k n) : Go w K Z EL n0 ss0 Q pc L st h ss k n := by
  intro T H
  obtain ⟨vm0, locs, k0, X, N, eT, hS, hk, hZ, hv, hC, hF, hO, hK⟩ := H
  obtain ⟨T', h', X', eT', W, st'⟩ := hs X eT hZ (fcl C hS)
  obtain ⟨f1, f2, f3, f4⟩ := hF a ha
  refine Fns.steps st' (G h' W T' ⟨vm0, _, k0, X', Fr.snoc X' N f1, eT', hS, by rw [W.size]; exact hk, hZ, hv, hC.trans (CHr.wr W f3 hC.1), ?_, hO.wr W f1, hK.wr W f4⟩)
  intro x hx
  obtain ⟨g1, g2, g3, g4⟩ := hF x hx
  exact ⟨g1, by rw [W.size]; exact g2, Safe.wr W f3 hC.1 g3, g4⟩
/-- the end -/
theorem Go.leave (C : Cx w K Z a0 EL own code ml rt mn R) {v : Option Value} {gs : List Addr} (hv : rt = none → v = none) (hs : ∀ {T : State} {vm0 : Vm} {locs : List Loc}, Stand K.p K.l K.e K.R (K.s.setVm vm0) K.m K.args K.below K.meth K.c T locs k n → ∀ {fs : List Frame}, (∀ (f : JFrame) (acts : List Action), f.method = K.m → f.locked = none → f.entered = [] → (doReturn K.e (T.setTop f) acts v).1 = T.setFrames fs) →
      Steps K.p.tables K.e K.below (T.setTop (mkF K.m pc L st)) (T.setFrames fs)) (hQ : Q v h gs) (hg : ∀ x ∈ gs, x ∈ ss) (hc : k ≤ R.cells) (hn : n ≤ R.slots) : Go w K Z EL n0 ss0 Q pc L st h ss k n := by
  intro T H
  obtain ⟨vm0, locs, k0, X, N, eT, hS, hk, hZ, hw, hC, hF, hO, hK⟩ := H
  have hlk : K.meth.locks = false := C.2.2.2.2.2.1
  have hR : K.R = R := C.2.2.2.2.2.2.2.1
  have hrt : K.meth.sig.returnType = rt := C.2.2.2.2.1
  have A := CHv.at X hZ C.2.2.2.2.2.2.2.2.1 hC.1
  have hvm : ∀ fs, (T.setFrames fs).vm = T.vm := fun _ => rfl
  have hhp : ∀ fs, (T.setFrames fs).heap = h := fun _ => eT
  obtain ⟨fs, r1, r2, r3, r4, r5⟩ := X.leave (v := v) (fun q => hv (hrt ▸ q)) hlk
  refine ⟨T.setFrames fs, v, locs, gs, hs X r1, r2, r3, by rw [hhp]; exact hQ, N, by rw [hhp, hvm]; exact hC.trans A, by rw [hhp]; exact hK, ?_, by rw [hhp]; exact hO, ?_⟩
  · rw [hhp, hvm]
    intro x hx
    obtain ⟨g1, g2, g3, g4⟩ := hF x (hg x hx)
    exact ⟨g1, g2, A.safe g2 g3, g4⟩
  · cases w with
    | false =>
      obtain rfl := hw rfl
      exact ⟨⟨_, rfl⟩, r4, r5.mono (by rw [hR]; exact hc) (by rw [hR]; exact hn)⟩
    | true =>
      obtain ⟨a, b, c'⟩ := hS.ended (U := T.setFrames fs) r4 (by rw [hhp]; exact hk) r5
      exact ⟨⟨_, rfl⟩, a, b, c'.mono (by rw [hR]; exact hc) (by rw [hR]; exact hn)⟩
/-- a body's walk gives its contract -/
theorem Con.of {y : MethodName} {bytes : ByteArray} {as : List Value} {h0 : Heap} {L0 : Array Slot} (hpn : plainName y.cls = true) (hE : EW Z a0 EL) (hwE : w = false → EL = []) (hO : Old Z n0 h0) (hef : ∀ m, entryFrame m as.toArray ml = mkF m 0 L0 [])
    (B : ∀ K : IV, Cx w K Z a0 EL y.cls bytes ml rt y.name R → K.s.heap = h0 → Go w K Z EL n0 ss0 Q 0 L0 [] h0 ss0 0 0) : Con w Z EL n0 y bytes ml rt R as h0 ss0 Q := by
  intro l ws
  refine MetFree.of_bodySF (plainFor_of_name hpn) hisR ?_
  intro p e s m args below meth c s₁ Bd hml0 hP hK
  obtain ⟨rfl, hZ, hh, hCH, hss⟩ := hP
  have X0 : Stand p l e R s m as.toArray below meth c s₁ [] 0 0 := Stand.of_body Bd
  have e0 : s₁.heap = h0 := by rw [← hh, Bd.state]; rfl
  obtain ⟨t, v, L, gs, r1, r2, r3, r4, r5, r6, r7, r8, r9, r10⟩ := B (p, l, e, R, s, m, as.toArray, below, meth, c)
    ⟨Bd.exec, Bd.bytes, hml0, findClass_of_methodNamed Bd.named, Bd.returns, BodyLoose.notSynchronized Bd, (name_of_methodNamed Bd.named Bd.method).1, rfl, hE, hwE⟩ hh s₁
    ⟨s.vm, [], s.heap.size, X0, Fr.nil n0, e0, State.WarmedH.since (State.WarmedH.refl s) _, by rw [hh]; exact Nat.le_refl _, hZ, fun _ => rfl, by show CHr Z EL s.vm s.heap s.vm h0; rw [hh]; exact CHr.refl hCH, fun x hx => ⟨(hss x hx).1, (hss x hx).2.1, (hss x hx).2.2, Or.inl hx⟩, hO, by show Keep s.heap h0 ss0; rw [hh]; exact Keep.refl _ _⟩
  refine ⟨t, _, castTop (hef m) r1, r2, r3, v, L, gs, rfl, r4, r5, ?_, ?_, ?_, r9, r10⟩
  · rw [← hh]; exact r6
  · rw [← hh]; exact r7
  · rw [← hh]; exact r8
end Kit
end Jvm.Own
namespace Jvm.Own
open Jvm Jvm.ClassFile Sem Op Lib Jvm.Free Jvm.Stand Jvm.LawKit Jvm.RoadKit
def Dc (code : ByteArray) (pc : Nat) (i : Instr) (len pc' : Nat) : Prop := decode code pc = .ok (i, len) ∧ pc + len = pc'
def Db (code : ByteArray) (pc : Nat) (i : Instr) (len pc' : Nat) (o : Int) (pcT : Nat) : Prop := decode code pc = .ok (i, len) ∧ pc + len = pc' ∧ 0 ≤ (pc : Int) + o ∧ ((pc : Int) + o).toNat = pcT
/-- Java's x >>> y -/
def ushr (x y : Int32) : Int32 := (x.toUInt32 >>> (y &&& 31).toUInt32).toInt32
def ushrL (x : Int64) (y : Int32) : Int64 := (x.toUInt64 >>> (y &&& 0x3f).toInt64.toUInt64).toInt64
section Ops
variable {w : Bool} {K : IV} {Z : State} {a0 : Array Value} {EL : List (String × Nat)} {n0 : Nat} {ss0 ss : List Addr} {Q : Option Value → Heap → List Addr → Prop} {pc pc' pcT : Nat} {L L' : Array Slot} {st st' : List Value} {h h' : Heap} {k n : Nat} {own : String} {code : ByteArray} {ml : Nat} {rt : Option FieldType} {mn : String} {rf rc rs rl : Nat}
theorem irem_mod (x y : Int32) : x - (x / y) * y = x % y := by
  apply Int32.toInt_inj.mp
  have h1 := Int32.le_toInt (x % y)
  have h2 := Int32.toInt_lt (x % y)
  rw [Int32.toInt_sub, Int32.toInt_mul, Int32.toInt_div, Int.bmod_mul_bmod, Int.sub_bmod_bmod, Int.mul_comm (x.toInt.tdiv y.toInt), ← Int.tmod_def, ← Int32.toInt_mod]
  exact Int.bmod_eq_of_le_mul_two (by omega) (by omega)
theorem iadd (C : Cx w K Z a0 EL own code ml rt mn (Rm rf rc rs rl)) {x y : Int32} (d : Dc code pc .iadd 1 pc')  (G : Go w K Z EL n0 ss0 Q pc' L (.int (x + y) :: st) h ss k n) : Go w K Z EL n0 ss0 Q pc L (.int y :: .int x :: st) h ss k n := by
  obtain ⟨d1, rfl⟩ := d
  exact Go.plain (fun X t r => XS.iadd X C.1 rfl (hb C.2.1 d1) rfl r) G
theorem isub (C : Cx w K Z a0 EL own code ml rt mn (Rm rf rc rs rl)) {x y : Int32} (d : Dc code pc .isub 1 pc')  (G : Go w K Z EL n0 ss0 Q pc' L (.int (x - y) :: st) h ss k n) : Go w K Z EL n0 ss0 Q pc L (.int y :: .int x :: st) h ss k n := by
  obtain ⟨d1, rfl⟩ := d
  exact Go.plain (fun X t r => XS.isub X C.1 rfl (hb C.2.1 d1) rfl r) G
theorem imul (C : Cx w K Z a0 EL own code ml rt mn (Rm rf rc rs rl)) {x y : Int32} (d : Dc code pc .imul 1 pc')  (G : Go w K Z EL n0 ss0 Q pc' L (.int (x * y) :: st) h ss k n) : Go w K Z EL n0 ss0 Q pc L (.int y :: .int x :: st) h ss k n := by
  obtain ⟨d1, rfl⟩ := d
  exact Go.plain (fun X t r => XS.imul X C.1 rfl (hb C.2.1 d1) rfl r) G
theorem iand (C : Cx w K Z a0 EL own code ml rt mn (Rm rf rc rs rl)) {x y : Int32} (d : Dc code pc .iand 1 pc')  (G : Go w K Z EL n0 ss0 Q pc' L (.int (x &&& y) :: st) h ss k n) : Go w K Z EL n0 ss0 Q pc L (.int y :: .int x :: st) h ss k n := by
  obtain ⟨d1, rfl⟩ := d
  exact Go.plain (fun X t r => XS.iand X C.1 rfl (hb C.2.1 d1) rfl r) G
theorem ior (C : Cx w K Z a0 EL own code ml rt mn (Rm rf rc rs rl)) {x y : Int32} (d : Dc code pc .ior 1 pc')  (G : Go w K Z EL n0 ss0 Q pc' L (.int (x ||| y) :: st) h ss k n) : Go w K Z EL n0 ss0 Q pc L (.int y :: .int x :: st) h ss k n := by
  obtain ⟨d1, rfl⟩ := d
  exact Go.plain (fun X t r => XS.ior X C.1 rfl (hb C.2.1 d1) rfl r) G
theorem ixor (C : Cx w K Z a0 EL own code ml rt mn (Rm rf rc rs rl)) {x y : Int32} (d : Dc code pc .ixor 1 pc')  (G : Go w K Z EL n0 ss0 Q pc' L (.int (x ^^^ y) :: st) h ss k n) : Go w K Z EL n0 ss0 Q pc L (.int y :: .int x :: st) h ss k n := by
  obtain ⟨d1, rfl⟩ := d
  exact Go.plain (fun X t r => XS.ixor X C.1 rfl (hb C.2.1 d1) rfl r) G
theorem ishl (C : Cx w K Z a0 EL own code ml rt mn (Rm rf rc rs rl)) {x y : Int32} (d : Dc code pc .ishl 1 pc')  (G : Go w K Z EL n0 ss0 Q pc' L (.int (x <<< (y &&& 31)) :: st) h ss k n) : Go w K Z EL n0 ss0 Q pc L (.int y :: .int x :: st) h ss k n := by
  obtain ⟨d1, rfl⟩ := d
  exact Go.plain (fun X t r => XS.ishl X C.1 rfl (hb C.2.1 d1) rfl r) G
theorem ishr (C : Cx w K Z a0 EL own code ml rt mn (Rm rf rc rs rl)) {x y : Int32} (d : Dc code pc .ishr 1 pc')  (G : Go w K Z EL n0 ss0 Q pc' L (.int (x >>> (y &&& 31)) :: st) h ss k n) : Go w K Z EL n0 ss0 Q pc L (.int y :: .int x :: st) h ss k n := by
  obtain ⟨d1, rfl⟩ := d
  exact Go.plain (fun X t r => XS.ishr X C.1 rfl (hb C.2.1 d1) rfl r) G
theorem iushr (C : Cx w K Z a0 EL own code ml rt mn (Rm rf rc rs rl)) {x y : Int32} (d : Dc code pc .iushr 1 pc')  (G : Go w K Z EL n0 ss0 Q pc' L (.int (ushr x y) :: st) h ss k n) : Go w K Z EL n0 ss0 Q pc L (.int y :: .int x :: st) h ss k n := by
  obtain ⟨d1, rfl⟩ := d
  exact Go.plain (fun X t r => XS.iushr X C.1 rfl (hb C.2.1 d1) rfl r) G
theorem ladd (C : Cx w K Z a0 EL own code ml rt mn (Rm rf rc rs rl)) {x y : Int64} (d : Dc code pc .ladd 1 pc')  (G : Go w K Z EL n0 ss0 Q pc' L (.long (x + y) :: st) h ss k n) : Go w K Z EL n0 ss0 Q pc L (.long y :: .long x :: st) h ss k n := by
  obtain ⟨d1, rfl⟩ := d
  exact Go.plain (fun X t r => XS.ladd X C.1 rfl (hb C.2.1 d1) rfl r) G
theorem lsub (C : Cx w K Z a0 EL own code ml rt mn (Rm rf rc rs rl)) {x y : Int64} (d : Dc code pc .lsub 1 pc')  (G : Go w K Z EL n0 ss0 Q pc' L (.long (x - y) :: st) h ss k n) : Go w K Z EL n0 ss0 Q pc L (.long y :: .long x :: st) h ss k n := by
  obtain ⟨d1, rfl⟩ := d
  exact Go.plain (fun X t r => XS.lsub X C.1 rfl (hb C.2.1 d1) rfl r) G
theorem lmul (C : Cx w K Z a0 EL own code ml rt mn (Rm rf rc rs rl)) {x y : Int64} (d : Dc code pc .lmul 1 pc')  (G : Go w K Z EL n0 ss0 Q pc' L (.long (x * y) :: st) h ss k n) : Go w K Z EL n0 ss0 Q pc L (.long y :: .long x :: st) h ss k n := by
  obtain ⟨d1, rfl⟩ := d
  exact Go.plain (fun X t r => XS.lmul X C.1 rfl (hb C.2.1 d1) rfl r) G
theorem land (C : Cx w K Z a0 EL own code ml rt mn (Rm rf rc rs rl)) {x y : Int64} (d : Dc code pc .land 1 pc')  (G : Go w K Z EL n0 ss0 Q pc' L (.long (x &&& y) :: st) h ss k n) : Go w K Z EL n0 ss0 Q pc L (.long y :: .long x :: st) h ss k n := by
  obtain ⟨d1, rfl⟩ := d
  exact Go.plain (fun X t r => XS.land X C.1 rfl (hb C.2.1 d1) rfl r) G
theorem lor (C : Cx w K Z a0 EL own code ml rt mn (Rm rf rc rs rl)) {x y : Int64} (d : Dc code pc .lor 1 pc')  (G : Go w K Z EL n0 ss0 Q pc' L (.long (x ||| y) :: st) h ss k n) : Go w K Z EL n0 ss0 Q pc L (.long y :: .long x :: st) h ss k n := by
  obtain ⟨d1, rfl⟩ := d
  exact Go.plain (fun X t r => XS.lor X C.1 rfl (hb C.2.1 d1) rfl r) G
theorem lushr (C : Cx w K Z a0 EL own code ml rt mn (Rm rf rc rs rl)) {x : Int64} {y : Int32} (d : Dc code pc .lushr 1 pc')  (G : Go w K Z EL n0 ss0 Q pc' L (.long (ushrL x y) :: st) h ss k n) : Go w K Z EL n0 ss0 Q pc L (.int y :: .long x :: st) h ss k n := by
  obtain ⟨d1, rfl⟩ := d
  exact Go.plain (fun X t r => XS.lushr X C.1 rfl (hb C.2.1 d1) rfl r) G
theorem idiv (C : Cx w K Z a0 EL own code ml rt mn (Rm rf rc rs rl)) {x y : Int32} (d : Dc code pc .idiv 1 pc') (hy : y ≠ 0) (G : Go w K Z EL n0 ss0 Q pc' L (.int (x / y) :: st) h ss k n) : Go w K Z EL n0 ss0 Q pc L (.int y :: .int x :: st) h ss k n := by
  obtain ⟨d1, rfl⟩ := d
  exact Go.plain (fun X t r => XS.idiv X C.1 rfl (hb C.2.1 d1) rfl hy r) G
theorem irem (C : Cx w K Z a0 EL own code ml rt mn (Rm rf rc rs rl)) {x y : Int32} (d : Dc code pc .irem 1 pc') (hy : y ≠ 0) (G : Go w K Z EL n0 ss0 Q pc' L (.int (x % y) :: st) h ss k n) : Go w K Z EL n0 ss0 Q pc L (.int y :: .int x :: st) h ss k n := by
  obtain ⟨d1, rfl⟩ := d
  rw [← irem_mod] at G
  exact Go.plain (fun X t r => XS.irem X C.1 rfl (hb C.2.1 d1) rfl hy r) G
theorem lrem (C : Cx w K Z a0 EL own code ml rt mn (Rm rf rc rs rl)) {x y : Int64} (d : Dc code pc .lrem 1 pc') (hy : y ≠ 0) (G : Go w K Z EL n0 ss0 Q pc' L (.long (x % y) :: st) h ss k n) : Go w K Z EL n0 ss0 Q pc L (.long y :: .long x :: st) h ss k n := by
  obtain ⟨d1, rfl⟩ := d
  rw [← lrem_mod] at G
  exact Go.plain (fun X t r => XS.lrem X C.1 rfl (hb C.2.1 d1) rfl hy r) G
theorem lcmp (C : Cx w K Z a0 EL own code ml rt mn (Rm rf rc rs rl)) {x y : Int64} (d : Dc code pc .lcmp 1 pc')  (G : Go w K Z EL n0 ss0 Q pc' L (.int (lcmpW x y) :: st) h ss k n) : Go w K Z EL n0 ss0 Q pc L (.long y :: .long x :: st) h ss k n := by
  obtain ⟨d1, rfl⟩ := d
  exact Go.plain (fun X t r => XS.lcmp X C.1 rfl (hb C.2.1 d1) rfl r) G
theorem ineg (C : Cx w K Z a0 EL own code ml rt mn (Rm rf rc rs rl)) {x : Int32} (d : Dc code pc .ineg 1 pc')  (G : Go w K Z EL n0 ss0 Q pc' L (.int (-x) :: st) h ss k n) : Go w K Z EL n0 ss0 Q pc L (.int x :: st) h ss k n := by
  obtain ⟨d1, rfl⟩ := d
  exact Go.plain (fun X t r => XS.ineg X C.1 rfl (hb C.2.1 d1) rfl r) G
theorem l2i (C : Cx w K Z a0 EL own code ml rt mn (Rm rf rc rs rl)) {x : Int64} (d : Dc code pc .l2i 1 pc')  (G : Go w K Z EL n0 ss0 Q pc' L (.int x.toInt32 :: st) h ss k n) : Go w K Z EL n0 ss0 Q pc L (.long x :: st) h ss k n := by
  obtain ⟨d1, rfl⟩ := d
  exact Go.plain (fun X t r => XS.l2i X C.1 rfl (hb C.2.1 d1) rfl r) G
theorem i2l (C : Cx w K Z a0 EL own code ml rt mn (Rm rf rc rs rl)) {x : Int32} (d : Dc code pc .i2l 1 pc')  (G : Go w K Z EL n0 ss0 Q pc' L (.long x.toInt64 :: st) h ss k n) : Go w K Z EL n0 ss0 Q pc L (.int x :: st) h ss k n := by
  obtain ⟨d1, rfl⟩ := d
  exact Go.plain (fun X t r => XS.i2l X C.1 rfl (hb C.2.1 d1) rfl r) G
theorem i2c (C : Cx w K Z a0 EL own code ml rt mn (Rm rf rc rs rl)) {x : Int32} (d : Dc code pc .i2c 1 pc')  (G : Go w K Z EL n0 ss0 Q pc' L (.int (nar .char x) :: st) h ss k n) : Go w K Z EL n0 ss0 Q pc L (.int x :: st) h ss k n := by
  obtain ⟨d1, rfl⟩ := d
  exact Go.plain (fun X t r => XS.i2c X C.1 rfl (hb C.2.1 d1) rfl r) G
theorem i2b (C : Cx w K Z a0 EL own code ml rt mn (Rm rf rc rs rl)) {x : Int32} (d : Dc code pc .i2b 1 pc')  (G : Go w K Z EL n0 ss0 Q pc' L (.int (nar .byte x) :: st) h ss k n) : Go w K Z EL n0 ss0 Q pc L (.int x :: st) h ss k n := by
  obtain ⟨d1, rfl⟩ := d
  exact Go.plain (fun X t r => XS.i2b X C.1 rfl (hb C.2.1 d1) rfl r) G
theorem i2s (C : Cx w K Z a0 EL own code ml rt mn (Rm rf rc rs rl)) {x : Int32} (d : Dc code pc .i2s 1 pc')  (G : Go w K Z EL n0 ss0 Q pc' L (.int (nar .short x) :: st) h ss k n) : Go w K Z EL n0 ss0 Q pc L (.int x :: st) h ss k n := by
  obtain ⟨d1, rfl⟩ := d
  exact Go.plain (fun X t r => XS.i2s X C.1 rfl (hb C.2.1 d1) rfl r) G
theorem dup (C : Cx w K Z a0 EL own code ml rt mn (Rm rf rc rs rl)) {x : Value} (d : Dc code pc .dup 1 pc') (hc : x.category = 1) (G : Go w K Z EL n0 ss0 Q pc' L (x :: x :: st) h ss k n) : Go w K Z EL n0 ss0 Q pc L (x :: st) h ss k n := by
  obtain ⟨d1, rfl⟩ := d
  exact Go.plain (fun X t r => XS.dup X C.1 rfl (hb C.2.1 d1) rfl hc r) G
theorem pop (C : Cx w K Z a0 EL own code ml rt mn (Rm rf rc rs rl)) {x : Value} (d : Dc code pc .pop 1 pc') (hc : x.category = 1) (G : Go w K Z EL n0 ss0 Q pc' L st h ss k n) : Go w K Z EL n0 ss0 Q pc L (x :: st) h ss k n := by
  obtain ⟨d1, rfl⟩ := d
  exact Go.plain (fun X t r => XS.pop X C.1 rfl (hb C.2.1 d1) rfl hc r) G
theorem dupX1 (C : Cx w K Z a0 EL own code ml rt mn (Rm rf rc rs rl)) {x y : Value} (d : Dc code pc .dup_x1 1 pc') (hc : x.category = 1) (hc' : y.category = 1) (G : Go w K Z EL n0 ss0 Q pc' L (x :: y :: x :: st) h ss k n) : Go w K Z EL n0 ss0 Q pc L (x :: y :: st) h ss k n := by
  obtain ⟨d1, rfl⟩ := d
  exact Go.plain (fun X t r => XS.dupX1 X C.1 rfl (hb C.2.1 d1) rfl hc hc' r) G
theorem dup2 (C : Cx w K Z a0 EL own code ml rt mn (Rm rf rc rs rl)) {x y : Value} (d : Dc code pc .dup2 1 pc') (hc : x.category = 1) (hc' : y.category = 1) (G : Go w K Z EL n0 ss0 Q pc' L (x :: y :: x :: y :: st) h ss k n) : Go w K Z EL n0 ss0 Q pc L (x :: y :: st) h ss k n := by
  obtain ⟨d1, rfl⟩ := d
  exact Go.plain (fun X t r => XT.dup2 X C.1 rfl (hb C.2.1 d1) rfl hc hc' r) G
theorem aconstNull (C : Cx w K Z a0 EL own code ml rt mn (Rm rf rc rs rl))  (d : Dc code pc .aconst_null 1 pc')  (G : Go w K Z EL n0 ss0 Q pc' L (.null :: st) h ss k n) : Go w K Z EL n0 ss0 Q pc L st h ss k n := by
  obtain ⟨d1, rfl⟩ := d
  exact Go.plain (fun X t r => XS.aconstNull X C.1 rfl (hb C.2.1 d1)  r) G
theorem iconst (C : Cx w K Z a0 EL own code ml rt mn (Rm rf rc rs rl)) {i : Int} {v : Int32} (d : Dc code pc (.iconst i) 1 pc') (hv : Int32.ofInt i = v) (G : Go w K Z EL n0 ss0 Q pc' L (.int v :: st) h ss k n) : Go w K Z EL n0 ss0 Q pc L st h ss k n := by
  obtain ⟨d1, rfl⟩ := d
  subst hv
  exact Go.plain (fun X t r => XS.iconst X C.1 rfl (hb C.2.1 d1) r) G
theorem bipush (C : Cx w K Z a0 EL own code ml rt mn (Rm rf rc rs rl)) {i : Int} {v : Int32} (d : Dc code pc (.bipush i) 2 pc') (hv : (Int8.ofInt i).toInt32 = v) (G : Go w K Z EL n0 ss0 Q pc' L (.int v :: st) h ss k n) : Go w K Z EL n0 ss0 Q pc L st h ss k n := by
  obtain ⟨d1, rfl⟩ := d
  subst hv
  exact Go.plain (fun X t r => XS.bipush X C.1 rfl (hb C.2.1 d1) r) G
theorem sipush (C : Cx w K Z a0 EL own code ml rt mn (Rm rf rc rs rl)) {i : Int} {v : Int32} (d : Dc code pc (.sipush i) 3 pc') (hv : (Int16.ofInt i).toInt32 = v) (G : Go w K Z EL n0 ss0 Q pc' L (.int v :: st) h ss k n) : Go w K Z EL n0 ss0 Q pc L st h ss k n := by
  obtain ⟨d1, rfl⟩ := d
  subst hv
  exact Go.plain (fun X t r => XS.sipush X C.1 rfl (hb C.2.1 d1) r) G
theorem lconst (C : Cx w K Z a0 EL own code ml rt mn (Rm rf rc rs rl)) {i : Fin 2} {v : Int64} (d : Dc code pc (.lconst i) 1 pc') (hv : Int64.ofNat i = v) (G : Go w K Z EL n0 ss0 Q pc' L (.long v :: st) h ss k n) : Go w K Z EL n0 ss0 Q pc L st h ss k n := by
  obtain ⟨d1, rfl⟩ := d
  subst hv
  exact Go.plain (fun X t r => XS.lconst X C.1 rfl (hb C.2.1 d1) r) G
theorem iloadN (C : Cx w K Z a0 EL own code ml rt mn (Rm rf rc rs rl)) {j : Fin 4} {v : Int32} (d : Dc code pc (.iload_n j) 1 pc') (hl : L[j.val]? = some (.val (.int v))) (G : Go w K Z EL n0 ss0 Q pc' L (.int v :: st) h ss k n) : Go w K Z EL n0 ss0 Q pc L st h ss k n := by
  obtain ⟨d1, rfl⟩ := d
  exact Go.plain (fun X t r => XS.iloadN X C.1 rfl (hb C.2.1 d1) hl r) G
theorem iload (C : Cx w K Z a0 EL own code ml rt mn (Rm rf rc rs rl)) {j : Nat} {v : Int32} (d : Dc code pc (.iload j) 2 pc') (hl : L[j]? = some (.val (.int v))) (G : Go w K Z EL n0 ss0 Q pc' L (.int v :: st) h ss k n) : Go w K Z EL n0 ss0 Q pc L st h ss k n := by
  obtain ⟨d1, rfl⟩ := d
  exact Go.plain (fun X t r => XS.iload X C.1 rfl (hb C.2.1 d1) hl r) G
theorem lloadN (C : Cx w K Z a0 EL own code ml rt mn (Rm rf rc rs rl)) {j : Fin 4} {v : Int64} (d : Dc code pc (.lload_n j) 1 pc') (hl : L[j.val]? = some (.val (.long v))) (G : Go w K Z EL n0 ss0 Q pc' L (.long v :: st) h ss k n) : Go w K Z EL n0 ss0 Q pc L st h ss k n := by
  obtain ⟨d1, rfl⟩ := d
  exact Go.plain (fun X t r => XS.lloadN X C.1 rfl (hb C.2.1 d1) hl r) G
theorem lload (C : Cx w K Z a0 EL own code ml rt mn (Rm rf rc rs rl)) {j : Nat} {v : Int64} (d : Dc code pc (.lload j) 2 pc') (hl : L[j]? = some (.val (.long v))) (G : Go w K Z EL n0 ss0 Q pc' L (.long v :: st) h ss k n) : Go w K Z EL n0 ss0 Q pc L st h ss k n := by
  obtain ⟨d1, rfl⟩ := d
  exact Go.plain (fun X t r => XS.lload X C.1 rfl (hb C.2.1 d1) hl r) G
theorem aloadN (C : Cx w K Z a0 EL own code ml rt mn (Rm rf rc rs rl)) {j : Fin 4} {v : Value} (d : Dc code pc (.aload_n j) 1 pc') (hl : L[j.val]? = some (.val v)) (hv : v.isRef = true) (G : Go w K Z EL n0 ss0 Q pc' L (v :: st) h ss k n) : Go w K Z EL n0 ss0 Q pc L st h ss k n := by
  obtain ⟨d1, rfl⟩ := d
  exact Go.plain (fun X t r => XS.aloadN X C.1 rfl (hb C.2.1 d1) hl hv r) G
theorem aload (C : Cx w K Z a0 EL own code ml rt mn (Rm rf rc rs rl)) {j : Nat} {v : Value} (d : Dc code pc (.aload j) 2 pc') (hl : L[j]? = some (.val v)) (hv : v.isRef = true) (G : Go w K Z EL n0 ss0 Q pc' L (v :: st) h ss k n) : Go w K Z EL n0 ss0 Q pc L st h ss k n := by
  obtain ⟨d1, rfl⟩ := d
  exact Go.plain (fun X t r => XS.aload X C.1 rfl (hb C.2.1 d1) hl hv r) G
theorem istoreN (C : Cx w K Z a0 EL own code ml rt mn (Rm rf rc rs rl)) {j : Fin 4} {v : Int32} (d : Dc code pc (.istore_n j) 1 pc') (hl : storeLocals L j (.int v) = some L') (G : Go w K Z EL n0 ss0 Q pc' L' st h ss k n) : Go w K Z EL n0 ss0 Q pc L (.int v :: st) h ss k n := by
  obtain ⟨d1, rfl⟩ := d
  exact Go.plain (fun X t r => XS.istoreN X C.1 rfl (hb C.2.1 d1) rfl hl r) G
theorem istore (C : Cx w K Z a0 EL own code ml rt mn (Rm rf rc rs rl)) {j : Nat} {v : Int32} (d : Dc code pc (.istore j) 2 pc') (hl : storeLocals L j (.int v) = some L') (G : Go w K Z EL n0 ss0 Q pc' L' st h ss k n) : Go w K Z EL n0 ss0 Q pc L (.int v :: st) h ss k n := by
  obtain ⟨d1, rfl⟩ := d
  exact Go.plain (fun X t r => XS.istore X C.1 rfl (hb C.2.1 d1) rfl hl r) G
theorem lstoreN (C : Cx w K Z a0 EL own code ml rt mn (Rm rf rc rs rl)) {j : Fin 4} {v : Int64} (d : Dc code pc (.lstore_n j) 1 pc') (hl : storeLocals L j (.long v) = some L') (G : Go w K Z EL n0 ss0 Q pc' L' st h ss k n) : Go w K Z EL n0 ss0 Q pc L (.long v :: st) h ss k n := by
  obtain ⟨d1, rfl⟩ := d
  exact Go.plain (fun X t r => XS.lstoreN X C.1 rfl (hb C.2.1 d1) rfl hl r) G
theorem lstore (C : Cx w K Z a0 EL own code ml rt mn (Rm rf rc rs rl)) {j : Nat} {v : Int64} (d : Dc code pc (.lstore j) 2 pc') (hl : storeLocals L j (.long v) = some L') (G : Go w K Z EL n0 ss0 Q pc' L' st h ss k n) : Go w K Z EL n0 ss0 Q pc L (.long v :: st) h ss k n := by
  obtain ⟨d1, rfl⟩ := d
  exact Go.plain (fun X t r => XS.lstore X C.1 rfl (hb C.2.1 d1) rfl hl r) G
theorem astoreN (C : Cx w K Z a0 EL own code ml rt mn (Rm rf rc rs rl)) {j : Fin 4} {v : Value} (d : Dc code pc (.astore_n j) 1 pc') (hv : v.isRef = true) (hl : storeLocals L j v = some L') (G : Go w K Z EL n0 ss0 Q pc' L' st h ss k n) : Go w K Z EL n0 ss0 Q pc L (v :: st) h ss k n := by
  obtain ⟨d1, rfl⟩ := d
  exact Go.plain (fun X t r => XS.astoreN X C.1 rfl (hb C.2.1 d1) rfl hv hl r) G
theorem astore (C : Cx w K Z a0 EL own code ml rt mn (Rm rf rc rs rl)) {j : Nat} {v : Value} (d : Dc code pc (.astore j) 2 pc') (hv : v.isRef = true) (hl : storeLocals L j v = some L') (G : Go w K Z EL n0 ss0 Q pc' L' st h ss k n) : Go w K Z EL n0 ss0 Q pc L (v :: st) h ss k n := by
  obtain ⟨d1, rfl⟩ := d
  exact Go.plain (fun X t r => XS.astore X C.1 rfl (hb C.2.1 d1) rfl hv hl r) G
theorem iinc (C : Cx w K Z a0 EL own code ml rt mn (Rm rf rc rs rl)) {j : Nat} {cst : Int} {x y : Int32} (d : Dc code pc (.iinc j cst) 3 pc') (hl : L[j]? = some (.val (.int x))) (hy : x + Int32.ofInt cst = y) (hl' : storeLocals L j (.int y) = some L') (G : Go w K Z EL n0 ss0 Q pc' L' st h ss k n) : Go w K Z EL n0 ss0 Q pc L st h ss k n := by
  obtain ⟨d1, rfl⟩ := d
  subst hy
  exact Go.plain (fun X t r => XS.iinc X C.1 rfl (hb C.2.1 d1) hl hl' r) G
theorem goto_ (C : Cx w K Z a0 EL own code ml rt mn (Rm rf rc rs rl)) {o : Int} (d : Db code pc (.goto o) 3 pc' o pcT) (G : Go w K Z EL n0 ss0 Q pcT L st h ss k n) : Go w K Z EL n0 ss0 Q pc L st h ss k n := by
  obtain ⟨d1, rfl, d3, d4⟩ := d
  exact Go.plain (fun X t r => XS.goto X C.1 rfl rfl (hb C.2.1 d1) d3 d4 r) G
theorem cmp_eq {x y : Int32} (q : x = y) : if_icmp.holds .eq x y = true := by simp [if_icmp.holds, q]
theorem cmp_neq {x y : Int32} (q : ¬ x = y) : if_icmp.holds .eq x y = false := by simp [if_icmp.holds, q]
theorem cmp_ne {x y : Int32} (q : ¬ x = y) : if_icmp.holds .ne x y = true := by simp [if_icmp.holds, q]
theorem cmp_nne {x y : Int32} (q : ¬ ¬ x = y) : if_icmp.holds .ne x y = false := by simp [if_icmp.holds, Classical.not_not.mp q]
theorem cmp_lt {x y : Int32} (q : x < y) : if_icmp.holds .lt x y = true := by simp [if_icmp.holds, q]
theorem cmp_nlt {x y : Int32} (q : ¬ x < y) : if_icmp.holds .lt x y = false := by simp [if_icmp.holds, q]
theorem cmp_ge {x y : Int32} (q : ¬ x < y) : if_icmp.holds .ge x y = true := by simp [if_icmp.holds, Int32.not_lt.mp q]
theorem cmp_nge {x y : Int32} (q : ¬ ¬ x < y) : if_icmp.holds .ge x y = false := by simp [if_icmp.holds, Classical.not_not.mp q]
theorem cmp_gt {x y : Int32} (q : y < x) : if_icmp.holds .gt x y = true := by simp [if_icmp.holds, q]
theorem cmp_ngt {x y : Int32} (q : ¬ y < x) : if_icmp.holds .gt x y = false := by simp [if_icmp.holds, q]
theorem cmp_le {x y : Int32} (q : ¬ y < x) : if_icmp.holds .le x y = true := by simp [if_icmp.holds, Int32.not_lt.mp q]
theorem cmp_nle {x y : Int32} (q : ¬ ¬ y < x) : if_icmp.holds .le x y = false := by simp [if_icmp.holds, Classical.not_not.mp q]
theorem icmp_eq (C : Cx w K Z a0 EL own code ml rt mn (Rm rf rc rs rl)) {x y : Int32} {o : Int} (d : Db code pc (.if_icmp .eq o) 3 pc' o pcT) (G1 : x = y → Go w K Z EL n0 ss0 Q pcT L st h ss k n) (G2 : ¬ x = y → Go w K Z EL n0 ss0 Q pc' L st h ss k n) : Go w K Z EL n0 ss0 Q pc L (.int y :: .int x :: st) h ss k n := by
  obtain ⟨d1, rfl, d3, d4⟩ := d
  by_cases q : x = y
  · exact Go.plain (fun X t r => XS.icmpYes X C.1 rfl rfl (hb C.2.1 d1) rfl (cmp_eq q) d3 d4 r) (G1 q)
  · exact Go.plain (fun X t r => XS.icmpNo X C.1 rfl (hb C.2.1 d1) rfl (cmp_neq q) r) (G2 q)
theorem if_eq (C : Cx w K Z a0 EL own code ml rt mn (Rm rf rc rs rl)) {x : Int32} {o : Int} (d : Db code pc (.ifCond .eq o) 3 pc' o pcT) (G1 : x = (0 : Int32) → Go w K Z EL n0 ss0 Q pcT L st h ss k n) (G2 : ¬ x = (0 : Int32) → Go w K Z EL n0 ss0 Q pc' L st h ss k n) : Go w K Z EL n0 ss0 Q pc L (.int x :: st) h ss k n := by
  obtain ⟨d1, rfl, d3, d4⟩ := d
  by_cases q : x = (0 : Int32)
  · exact Go.plain (fun X t r => XS.ifYes X C.1 rfl rfl (hb C.2.1 d1) rfl ((if0 _ _).trans (cmp_eq q)) d3 d4 r) (G1 q)
  · exact Go.plain (fun X t r => XS.ifNo X C.1 rfl (hb C.2.1 d1) rfl ((if0 _ _).trans (cmp_neq q)) r) (G2 q)
theorem icmp_ne (C : Cx w K Z a0 EL own code ml rt mn (Rm rf rc rs rl)) {x y : Int32} {o : Int} (d : Db code pc (.if_icmp .ne o) 3 pc' o pcT) (G1 : ¬ x = y → Go w K Z EL n0 ss0 Q pcT L st h ss k n) (G2 : x = y → Go w K Z EL n0 ss0 Q pc' L st h ss k n) : Go w K Z EL n0 ss0 Q pc L (.int y :: .int x :: st) h ss k n := by
  obtain ⟨d1, rfl, d3, d4⟩ := d
  by_cases q : ¬ x = y
  · exact Go.plain (fun X t r => XS.icmpYes X C.1 rfl rfl (hb C.2.1 d1) rfl (cmp_ne q) d3 d4 r) (G1 q)
  · exact Go.plain (fun X t r => XS.icmpNo X C.1 rfl (hb C.2.1 d1) rfl (cmp_nne q) r) (G2 (Classical.not_not.mp q))
theorem if_ne (C : Cx w K Z a0 EL own code ml rt mn (Rm rf rc rs rl)) {x : Int32} {o : Int} (d : Db code pc (.ifCond .ne o) 3 pc' o pcT) (G1 : ¬ x = (0 : Int32) → Go w K Z EL n0 ss0 Q pcT L st h ss k n) (G2 : x = (0 : Int32) → Go w K Z EL n0 ss0 Q pc' L st h ss k n) : Go w K Z EL n0 ss0 Q pc L (.int x :: st) h ss k n := by
  obtain ⟨d1, rfl, d3, d4⟩ := d
  by_cases q : ¬ x = (0 : Int32)
  · exact Go.plain (fun X t r => XS.ifYes X C.1 rfl rfl (hb C.2.1 d1) rfl ((if0 _ _).trans (cmp_ne q)) d3 d4 r) (G1 q)
  · exact Go.plain (fun X t r => XS.ifNo X C.1 rfl (hb C.2.1 d1) rfl ((if0 _ _).trans (cmp_nne q)) r) (G2 (Classical.not_not.mp q))
theorem icmp_lt (C : Cx w K Z a0 EL own code ml rt mn (Rm rf rc rs rl)) {x y : Int32} {o : Int} (d : Db code pc (.if_icmp .lt o) 3 pc' o pcT) (G1 : x < y → Go w K Z EL n0 ss0 Q pcT L st h ss k n) (G2 : ¬ x < y → Go w K Z EL n0 ss0 Q pc' L st h ss k n) : Go w K Z EL n0 ss0 Q pc L (.int y :: .int x :: st) h ss k n := by
  obtain ⟨d1, rfl, d3, d4⟩ := d
  by_cases q : x < y
  · exact Go.plain (fun X t r => XS.icmpYes X C.1 rfl rfl (hb C.2.1 d1) rfl (cmp_lt q) d3 d4 r) (G1 q)
  · exact Go.plain (fun X t r => XS.icmpNo X C.1 rfl (hb C.2.1 d1) rfl (cmp_nlt q) r) (G2 q)
theorem if_lt (C : Cx w K Z a0 EL own code ml rt mn (Rm rf rc rs rl)) {x : Int32} {o : Int} (d : Db code pc (.ifCond .lt o) 3 pc' o pcT) (G1 : x < (0 : Int32) → Go w K Z EL n0 ss0 Q pcT L st h ss k n) (G2 : ¬ x < (0 : Int32) → Go w K Z EL n0 ss0 Q pc' L st h ss k n) : Go w K Z EL n0 ss0 Q pc L (.int x :: st) h ss k n := by
  obtain ⟨d1, rfl, d3, d4⟩ := d
  by_cases q : x < (0 : Int32)
  · exact Go.plain (fun X t r => XS.ifYes X C.1 rfl rfl (hb C.2.1 d1) rfl ((if0 _ _).trans (cmp_lt q)) d3 d4 r) (G1 q)
  · exact Go.plain (fun X t r => XS.ifNo X C.1 rfl (hb C.2.1 d1) rfl ((if0 _ _).trans (cmp_nlt q)) r) (G2 q)
theorem icmp_ge (C : Cx w K Z a0 EL own code ml rt mn (Rm rf rc rs rl)) {x y : Int32} {o : Int} (d : Db code pc (.if_icmp .ge o) 3 pc' o pcT) (G1 : ¬ x < y → Go w K Z EL n0 ss0 Q pcT L st h ss k n) (G2 : x < y → Go w K Z EL n0 ss0 Q pc' L st h ss k n) : Go w K Z EL n0 ss0 Q pc L (.int y :: .int x :: st) h ss k n := by
  obtain ⟨d1, rfl, d3, d4⟩ := d
  by_cases q : ¬ x < y
  · exact Go.plain (fun X t r => XS.icmpYes X C.1 rfl rfl (hb C.2.1 d1) rfl (cmp_ge q) d3 d4 r) (G1 q)
  · exact Go.plain (fun X t r => XS.icmpNo X C.1 rfl (hb C.2.1 d1) rfl (cmp_nge q) r) (G2 (Classical.not_not.mp q))
theorem if_ge (C : Cx w K Z a0 EL own code ml rt mn (Rm rf rc rs rl)) {x : Int32} {o : Int} (d : Db code pc (.ifCond .ge o) 3 pc' o pcT) (G1 : ¬ x < (0 : Int32) → Go w K Z EL n0 ss0 Q pcT L st h ss k n) (G2 : x < (0 : Int32) → Go w K Z EL n0 ss0 Q pc' L st h ss k n) : Go w K Z EL n0 ss0 Q pc L (.int x :: st) h ss k n := by
  obtain ⟨d1, rfl, d3, d4⟩ := d
  by_cases q : ¬ x < (0 : Int32)
  · exact Go.plain (fun X t r => XS.ifYes X C.1 rfl rfl (hb C.2.1 d1) rfl ((if0 _ _).trans (cmp_ge q)) d3 d4 r) (G1 q)
  · exact Go.plain (fun X t r => XS.ifNo X C.1 rfl (hb C.2.1 d1) rfl ((if0 _ _).trans (cmp_nge q)) r) (G2 (Classical.not_not.mp q))
theorem icmp_gt (C : Cx w K Z a0 EL own code ml rt mn (Rm rf rc rs rl)) {x y : Int32} {o : Int} (d : Db code pc (.if_icmp .gt o) 3 pc' o pcT) (G1 : y < x → Go w K Z EL n0 ss0 Q pcT L st h ss k n) (G2 : ¬ y < x → Go w K Z EL n0 ss0 Q pc' L st h ss k n) : Go w K Z EL n0 ss0 Q pc L (.int y :: .int x :: st) h ss k n := by
  obtain ⟨d1, rfl, d3, d4⟩ := d
  by_cases q : y < x
  · exact Go.plain (fun X t r => XS.icmpYes X C.1 rfl rfl (hb C.2.1 d1) rfl (cmp_gt q) d3 d4 r) (G1 q)
  · exact Go.plain (fun X t r => XS.icmpNo X C.1 rfl (hb C.2.1 d1) rfl (cmp_ngt q) r) (G2 q)
theorem if_gt (C : Cx w K Z a0 EL own code ml rt mn (Rm rf rc rs rl)) {x : Int32} {o : Int} (d : Db code pc (.ifCond .gt o) 3 pc' o pcT) (G1 : (0 : Int32) < x → Go w K Z EL n0 ss0 Q pcT L st h ss k n) (G2 : ¬ (0 : Int32) < x → Go w K Z EL n0 ss0 Q pc' L st h ss k n) : Go w K Z EL n0 ss0 Q pc L (.int x :: st) h ss k n := by
  obtain ⟨d1, rfl, d3, d4⟩ := d
  by_cases q : (0 : Int32) < x
  · exact Go.plain (fun X t r => XS.ifYes X C.1 rfl rfl (hb C.2.1 d1) rfl ((if0 _ _).trans (cmp_gt q)) d3 d4 r) (G1 q)
  · exact Go.plain (fun X t r => XS.ifNo X C.1 rfl (hb C.2.1 d1) rfl ((if0 _ _).trans (cmp_ngt q)) r) (G2 q)
theorem icmp_le (C : Cx w K Z a0 EL own code ml rt mn (Rm rf rc rs rl)) {x y : Int32} {o : Int} (d : Db code pc (.if_icmp .le o) 3 pc' o pcT) (G1 : ¬ y < x → Go w K Z EL n0 ss0 Q pcT L st h ss k n) (G2 : y < x → Go w K Z EL n0 ss0 Q pc' L st h ss k n) : Go w K Z EL n0 ss0 Q pc L (.int y :: .int x :: st) h ss k n := by
  obtain ⟨d1, rfl, d3, d4⟩ := d
  by_cases q : ¬ y < x
  · exact Go.plain (fun X t r => XS.icmpYes X C.1 rfl rfl (hb C.2.1 d1) rfl (cmp_le q) d3 d4 r) (G1 q)
  · exact Go.plain (fun X t r => XS.icmpNo X C.1 rfl (hb C.2.1 d1) rfl (cmp_nle q) r) (G2 (Classical.not_not.mp q))
theorem if_le (C : Cx w K Z a0 EL own code ml rt mn (Rm rf rc rs rl)) {x : Int32} {o : Int} (d : Db code pc (.ifCond .le o) 3 pc' o pcT) (G1 : ¬ (0 : Int32) < x → Go w K Z EL n0 ss0 Q pcT L st h ss k n) (G2 : (0 : Int32) < x → Go w K Z EL n0 ss0 Q pc' L st h ss k n) : Go w K Z EL n0 ss0 Q pc L (.int x :: st) h ss k n := by
  obtain ⟨d1, rfl, d3, d4⟩ := d
  by_cases q : ¬ (0 : Int32) < x
  · exact Go.plain (fun X t r => XS.ifYes X C.1 rfl rfl (hb C.2.1 d1) rfl ((if0 _ _).trans (cmp_le q)) d3 d4 r) (G1 q)
  · exact Go.plain (fun X t r => XS.ifNo X C.1 rfl (hb C.2.1 d1) rfl ((if0 _ _).trans (cmp_nle q)) r) (G2 (Classical.not_not.mp q))
theorem ifnullY (C : Cx w K Z a0 EL own code ml rt mn (Rm rf rc rs rl)) {b : Addr} {o : Int} (d : Db code pc (.ifnull o) 3 pc' o pcT) (G : Go w K Z EL n0 ss0 Q pcT L st h ss k n) : Go w K Z EL n0 ss0 Q pc L (.null :: st) h ss k n := by
  obtain ⟨d1, rfl, d3, d4⟩ := d
  exact Go.plain (fun X t r => XS.ifnullYes X C.1 rfl rfl (hb C.2.1 d1) rfl d3 d4 r) G
theorem ifnullN (C : Cx w K Z a0 EL own code ml rt mn (Rm rf rc rs rl)) {b : Addr} {o : Int} (d : Db code pc (.ifnull o) 3 pc' o pcT) (G : Go w K Z EL n0 ss0 Q pc' L st h ss k n) : Go w K Z EL n0 ss0 Q pc L (.ref b :: st) h ss k n := by
  obtain ⟨d1, rfl, d3, d4⟩ := d
  exact Go.plain (fun X t r => XS.ifnullNo X C.1 rfl (hb C.2.1 d1) rfl r) G
theorem ifnonnullY (C : Cx w K Z a0 EL own code ml rt mn (Rm rf rc rs rl)) {b : Addr} {o : Int} (d : Db code pc (.ifnonnull o) 3 pc' o pcT) (G : Go w K Z EL n0 ss0 Q pcT L st h ss k n) : Go w K Z EL n0 ss0 Q pc L (.ref b :: st) h ss k n := by
  obtain ⟨d1, rfl, d3, d4⟩ := d
  exact Go.plain (fun X t r => XS.ifnonnullYes X C.1 rfl rfl (hb C.2.1 d1) rfl d3 d4 r) G
theorem ifnonnullN (C : Cx w K Z a0 EL own code ml rt mn (Rm rf rc rs rl)) {b : Addr} {o : Int} (d : Db code pc (.ifnonnull o) 3 pc' o pcT) (G : Go w K Z EL n0 ss0 Q pc' L st h ss k n) : Go w K Z EL n0 ss0 Q pc L (.null :: st) h ss k n := by
  obtain ⟨d1, rfl, d3, d4⟩ := d
  exact Go.plain (fun X t r => XS.ifnonnullNo X C.1 rfl (hb C.2.1 d1) rfl r) G
theorem acmp_eq (C : Cx w K Z a0 EL own code ml rt mn (Rm rf rc rs rl)) {x y : Value} (hx : x.isRef = true) (hy : y.isRef = true) {o : Int} (d : Db code pc (.if_acmp .eq o) 3 pc' o pcT) (G1 : x = y → Go w K Z EL n0 ss0 Q pcT L st h ss k n) (G2 : ¬ x = y → Go w K Z EL n0 ss0 Q pc' L st h ss k n) : Go w K Z EL n0 ss0 Q pc L (y :: x :: st) h ss k n := by
  obtain ⟨d1, rfl, d3, d4⟩ := d
  by_cases q : x = y
  · refine Go.same C (fun X _ _ _ _ => ⟨_, X, ‹_›, fun t r => RoadKit.acmp (g := mkF K.m pc L (y :: x :: st)) X C.1 rfl hx hy (same := true) rfl (hb C.2.1 d1) rfl (decide_eq_true q) d3 (pc' := pcT) (by rw [← d4]; rfl) r⟩) (G1 q)
  · refine Go.same C (fun X _ _ _ _ => ⟨_, X, ‹_›, fun t r => RoadKit.acmp (g := mkF K.m pc L (y :: x :: st)) X C.1 rfl hx hy (same := false) rfl (hb C.2.1 d1) rfl (decide_eq_false q) d3 (pc' := pc + 3) rfl r⟩) (G2 q)
theorem acmp_ne (C : Cx w K Z a0 EL own code ml rt mn (Rm rf rc rs rl)) {x y : Value} (hx : x.isRef = true) (hy : y.isRef = true) {o : Int} (d : Db code pc (.if_acmp .ne o) 3 pc' o pcT) (G1 : ¬ x = y → Go w K Z EL n0 ss0 Q pcT L st h ss k n) (G2 : x = y → Go w K Z EL n0 ss0 Q pc' L st h ss k n) : Go w K Z EL n0 ss0 Q pc L (y :: x :: st) h ss k n := by
  obtain ⟨d1, rfl, d3, d4⟩ := d
  by_cases q : x = y
  · refine Go.same C (fun X _ _ _ _ => ⟨_, X, ‹_›, fun t r => RoadKit.acmp (g := mkF K.m pc L (y :: x :: st)) X C.1 rfl hx hy (same := true) rfl (hb C.2.1 d1) rfl (decide_eq_true q) d3 (pc' := pc + 3) rfl r⟩) (G2 q)
  · refine Go.same C (fun X _ _ _ _ => ⟨_, X, ‹_›, fun t r => RoadKit.acmp (g := mkF K.m pc L (y :: x :: st)) X C.1 rfl hx hy (same := false) rfl (hb C.2.1 d1) rfl (decide_eq_false q) d3 (pc' := pcT) (by rw [← d4]; rfl) r⟩) (G1 q)
theorem ldcI (C : Cx w K Z a0 EL own code ml rt mn (Rm rf rc rs rl)) {i : Nat} {v : Int32} (wc : (Cond.constant own i v).before a0 Z = true) (d : Dc code pc (.ldc i) 2 pc') (G : Go w K Z EL n0 ss0 Q pc' L (.int v :: st) h ss k n) : Go w K Z EL n0 ss0 Q pc L st h ss k n := by
  obtain ⟨d1, rfl⟩ := d
  exact Go.same C (fun X e hZ hown _ => ⟨_, X, e, X.ldcInt C.1 hown (mvT hZ wc) (g := mkF K.m pc L st) rfl (hb C.2.1 d1)⟩) G
theorem ldcwI (C : Cx w K Z a0 EL own code ml rt mn (Rm rf rc rs rl)) {i : Nat} {v : Int32} (wc : (Cond.constant own i v).before a0 Z = true) (d : Dc code pc (.ldc_w i) 3 pc') (G : Go w K Z EL n0 ss0 Q pc' L (.int v :: st) h ss k n) : Go w K Z EL n0 ss0 Q pc L st h ss k n := by
  obtain ⟨d1, rfl⟩ := d
  exact Go.same C (fun X e hZ hown _ => ⟨_, X, e, X.ldcwInt C.1 hown (mvT hZ wc) (g := mkF K.m pc L st) rfl (hb C.2.1 d1)⟩) G
theorem ldc2J (C : Cx w K Z a0 EL own code ml rt mn (Rm rf rc rs rl)) {i : Nat} {v : Int64} (wc : (Cond.constantLong own i v).before a0 Z = true) (d : Dc code pc (.ldc2_w i) 3 pc') (G : Go w K Z EL n0 ss0 Q pc' L (.long v :: st) h ss k n) : Go w K Z EL n0 ss0 Q pc L st h ss k n := by
  obtain ⟨d1, rfl⟩ := d
  exact Go.same C (fun X e hZ hown _ => ⟨_, X, e, X.ldc2Long C.1 hown (mvT hZ wc) (g := mkF K.m pc L st) rfl (hb C.2.1 d1)⟩) G
theorem getF_ (C : Cx w K Z a0 EL own code ml rt mn (Rm rf rc rs rl)) {i : Nat} {O f D : String} {a : Addr} {v : Value} (wl : (Cond.fieldLink own i O f D).before a0 Z = true) (F : Fld Z h a O f D v) (d : Dc code pc (.getfield i) 3 pc') (G : Go w K Z EL n0 ss0 Q pc' L (v :: st) h ss k n) : Go w K Z EL n0 ss0 Q pc L (.ref a :: st) h ss k n := by
  obtain ⟨d1, rfl⟩ := d
  exact Go.same C (fun X e hZ hown _ => getF X C.1 hZ hown (host := "") (Or.inl wl) Via.refl e F (g := mkF K.m pc L (.ref a :: st)) rfl rfl (hb C.2.1 d1)) G
theorem getS_ (C : Cx w K Z a0 EL own code ml rt mn (Rm rf rc rs rl)) {i : Nat} {O f D : String} {v : Value} (wl : (Cond.fieldLink own i O f D).before a0 Z = true) (F : Sta Z Z.heap O f D v) (d : Dc code pc (.getstatic i) 3 pc') (G : Go w K Z EL n0 ss0 Q pc' L (v :: st) h ss k n) : Go w K Z EL n0 ss0 Q pc L st h ss k n := by
  obtain ⟨d1, rfl⟩ := d
  exact Go.same C (fun X e hZ hown E => getS X C.1 hZ hown (host := "") wl Via.refl e (F.ext E) (g := mkF K.m pc L st) rfl (hb C.2.1 d1)) G
theorem cast_ (C : Cx w K Z a0 EL own code ml rt mn (Rm rf rc rs rl)) {i : Nat} {O : String} {a : Addr} (wl : (Cond.classLink own i O).before a0 Z = true) (F : Ins Z h a O true) (d : Dc code pc (.checkcast i) 3 pc') (G : Go w K Z EL n0 ss0 Q pc' L (.ref a :: st) h ss k n) : Go w K Z EL n0 ss0 Q pc L (.ref a :: st) h ss k n := by
  obtain ⟨d1, rfl⟩ := d
  exact Go.same C (fun X e hZ hown _ => castY X C.1 hZ hown wl e F (g := mkF K.m pc L (.ref a :: st)) rfl rfl (hb C.2.1 d1)) G
theorem instY_ (C : Cx w K Z a0 EL own code ml rt mn (Rm rf rc rs rl)) {i : Nat} {O : String} {a : Addr} (wl : (Cond.classLink own i O).before a0 Z = true) (F : Ins Z h a O true) (d : Dc code pc (.instanceof i) 3 pc') (G : Go w K Z EL n0 ss0 Q pc' L (.int 1 :: st) h ss k n) : Go w K Z EL n0 ss0 Q pc L (.ref a :: st) h ss k n := by
  obtain ⟨d1, rfl⟩ := d
  exact Go.same C (fun X e hZ hown _ => instY X C.1 hZ hown wl e F (g := mkF K.m pc L (.ref a :: st)) rfl rfl (hb C.2.1 d1)) G
theorem instN_ (C : Cx w K Z a0 EL own code ml rt mn (Rm rf rc rs rl)) {i : Nat} {O O' : String} {a : Addr} (wl : (Cond.classLink own i O).before a0 Z = true) (E : Exa Z h a O') (F : ∃ c t, Z.vm.findClass O' = some c ∧ Z.vm.findClass O = some t ∧ Z.vm.assignable c t = false) (d : Dc code pc (.instanceof i) 3 pc') (G : Go w K Z EL n0 ss0 Q pc' L (.int 0 :: st) h ss k n) : Go w K Z EL n0 ss0 Q pc L (.ref a :: st) h ss k n := by
  obtain ⟨d1, rfl⟩ := d
  exact Go.same C (fun X e hZ hown _ => instNo X C.1 hZ hown wl e E F (g := mkF K.m pc L (.ref a :: st)) rfl rfl (hb C.2.1 d1)) G
theorem inst0_ (C : Cx w K Z a0 EL own code ml rt mn (Rm rf rc rs rl)) {i : Nat} {O : String} (wl : (Cond.classLink own i O).before a0 Z = true) (d : Dc code pc (.instanceof i) 3 pc') (G : Go w K Z EL n0 ss0 Q pc' L (.int 0 :: st) h ss k n) : Go w K Z EL n0 ss0 Q pc L (.null :: st) h ss k n := by
  obtain ⟨d1, rfl⟩ := d
  exact Go.same C (fun X e hZ hown _ => ⟨_, X, e, X.instanceofNull C.1 (g := mkF K.m pc L (.null :: st)) rfl rfl (hb C.2.1 d1)⟩) G
/-- the array at a holds just vs -/
def Ary (Z : State) (h : Heap) (a : Addr) (ty : FieldType) (vs : List Value) : Prop := ∃ c : Cell, Arr Z h a c ty ∧ c.slots = vs.toArray ∧ vs.length < 2 ^ 31
theorem Ary.keep {a : Addr} {ty : FieldType} {vs : List Value} {ws : List Addr} (F : Ary Z h a ty vs) (K : Keep h h' ws) (q : a ∉ ws) : Ary Z h' a ty vs := by
  obtain ⟨c, A, r⟩ := F; exact ⟨c, ⟨K.2.1 a c A.1 q, A.2⟩, r⟩
theorem Ary.lt {a : Addr} {ty : FieldType} {vs : List Value} (F : Ary Z h a ty vs) : a < h.size := by obtain ⟨c, A, -⟩ := F; exact A.lt
theorem Ary.set {a : Addr} {ty : FieldType} {vs : List Value} {i : Nat} {v : Value} (F : Ary Z h a ty vs) (W : Wr h h' a i v) : Ary Z h' a ty (vs.set i v) := by
  obtain ⟨c, A, e, l⟩ := F
  exact ⟨_, A.same W, by simp [Cell.setSlot, e], by simpa using l⟩
theorem Ary.new {a : Addr} {ty : FieldType} {cA : ClassId} {x : Int32} (A : Arr Z h a (newA cA ty x) ty) : Ary Z h a ty (List.replicate x.toNatClampNeg (defaultValue ty)) := ⟨_, A, by simp [newA], by
  have := rng32 x
  simp only [List.length_replicate, Int32.toNatClampNeg]; omega⟩
theorem newarr (C : Cx w K Z a0 EL own code ml rt mn (Rm rf rc rs rl)) {aty : ArrayType} {x : Int32} (wa : (Cond.arrayClass (newarray.typeOf aty)).before a0 Z = true) (hx : ¬ x < 0) (cap : Nat) (hcap : x.toNatClampNeg ≤ cap) (hb8 : cap * 8 ≤ 536870912) (hc : k + 1 ≤ rc) (hl : n + cap ≤ rs) (d : Dc code pc (.newarray aty) 2 pc') (G : ∀ h', Keep h h' [] → h.size < h'.size → n0 ≤ h.size → Ary Z h' h.size (newarray.typeOf aty) (List.replicate x.toNatClampNeg (defaultValue (newarray.typeOf aty))) → Go w K Z EL n0 ss0 Q pc' L (.ref h.size :: st) h' (h.size :: ss) (k + 1) (n + cap)) : Go w K Z EL n0 ss0 Q pc L (.int x :: st) h ss k n := by
  obtain ⟨d1, rfl⟩ := d
  have hR : K.R = Rm rf rc rs rl := C.2.2.2.2.2.2.2.1
  refine Go.grow C (dk := 1) (dn := cap) (P := fun h' => Ary Z h' h.size (newarray.typeOf aty) (List.replicate x.toNatClampNeg (defaultValue (newarray.typeOf aty)))) (fun _ q => q.lt) (fun X e hZ hown => ?_) G
  obtain ⟨T', h', cA, X', e', E, A, r⟩ := newP X C.1 hZ wa e (g := mkF K.m pc L (.int x :: st)) rfl (hb C.2.1 d1) rfl hx hcap hb8 (by rw [hR]; exact hc) (by rw [hR]; exact hl)
  exact ⟨T', h', X', e', E, Ary.new A, r⟩
theorem castore_ (C : Cx w K Z a0 EL own code ml rt mn (Rm rf rc rs rl)) {a : Addr} {j x : Int32} {vs : List Value} (A : Ary Z h a .char vs) (i : Nat) (hj : j.toInt = i) (hi : i < vs.length) (ha : a ∈ ss) (d : Dc code pc .castore 1 pc') (G : ∀ h', Wr h h' a i (.int (nar .char x)) → Ary Z h' a .char (vs.set i (.int (nar .char x))) → Go w K Z EL n0 ss0 Q pc' L st h' ss k n) : Go w K Z EL n0 ss0 Q pc L (.int x :: .int j :: .ref a :: st) h ss k n := by
  obtain ⟨d1, rfl⟩ := d
  have A' := A
  obtain ⟨c, A, e, l⟩ := A
  have ej : j.toNatClampNeg = i := by simp [Int32.toNatClampNeg, hj]
  subst ej
  refine Go.write C ha (fun X eT hZ hown => stC X C.1 hZ eT A (j := j) ?_ (g := mkF K.m pc L (.int x :: .int j :: .ref a :: st)) rfl rfl (hb C.2.1 d1)) (fun h' W => G h' W (A'.set W))
  rintro (q | q)
  · rw [Int32.lt_iff_toInt_lt, hj] at q; have : (0 : Int32).toInt = 0 := rfl; omega
  · rw [e] at q; simp at q; omega
theorem bastore_ (C : Cx w K Z a0 EL own code ml rt mn (Rm rf rc rs rl)) {a : Addr} {j x : Int32} {vs : List Value} (A : Ary Z h a .byte vs) (i : Nat) (hj : j.toInt = i) (hi : i < vs.length) (ha : a ∈ ss) (d : Dc code pc .bastore 1 pc') (G : ∀ h', Wr h h' a i (.int (nar .byte x)) → Ary Z h' a .byte (vs.set i (.int (nar .byte x))) → Go w K Z EL n0 ss0 Q pc' L st h' ss k n) : Go w K Z EL n0 ss0 Q pc L (.int x :: .int j :: .ref a :: st) h ss k n := by
  obtain ⟨d1, rfl⟩ := d
  have A' := A
  obtain ⟨c, A, e, l⟩ := A
  have ej : j.toNatClampNeg = i := by simp [Int32.toNatClampNeg, hj]
  subst ej
  refine Go.write C ha (fun X eT hZ hown => stB X C.1 hZ eT A (j := j) ?_ (g := mkF K.m pc L (.int x :: .int j :: .ref a :: st)) rfl rfl (hb C.2.1 d1)) (fun h' W => G h' W (A'.set W))
  rintro (q | q)
  · rw [Int32.lt_iff_toInt_lt, hj] at q; have : (0 : Int32).toInt = 0 := rfl; omega
  · rw [e] at q; simp at q; omega
theorem caload_ (C : Cx w K Z a0 EL own code ml rt mn (Rm rf rc rs rl)) {a : Addr} {j : Int32} {v : Value} {vs : List Value} (A : Ary Z h a .char vs) (i : Nat) (hj : j.toInt = i) (hv : vs[i]? = some v) (d : Dc code pc .caload 1 pc') (G : Go w K Z EL n0 ss0 Q pc' L (v :: st) h ss k n) : Go w K Z EL n0 ss0 Q pc L (.int j :: .ref a :: st) h ss k n := by
  obtain ⟨d1, rfl⟩ := d
  obtain ⟨c, A, e, l⟩ := A
  have ej : j.toNatClampNeg = i := by simp [Int32.toNatClampNeg, hj]
  have hi : i < vs.length := (List.getElem?_eq_some_iff.mp hv).1
  subst ej
  refine Go.same C (fun X eT hZ hown _ => ⟨_, X, eT, X.caload C.1 (j := j) (v := v) (by rw [eT]; exact A.1) (State.isArrayOf_alike hZ.alike A.2.1) A.2.2 ?_ (by rw [e]; simpa using hv) (g := mkF K.m pc L (.int j :: .ref a :: st)) rfl rfl (hb C.2.1 d1)⟩) G
  rintro (q | q)
  · rw [Int32.lt_iff_toInt_lt, hj] at q; have : (0 : Int32).toInt = 0 := rfl; omega
  · rw [e] at q; simp at q; omega
theorem baload_ (C : Cx w K Z a0 EL own code ml rt mn (Rm rf rc rs rl)) {a : Addr} {j : Int32} {v : Value} {vs : List Value} (A : Ary Z h a .byte vs) (i : Nat) (hj : j.toInt = i) (hv : vs[i]? = some v) (d : Dc code pc .baload 1 pc') (G : Go w K Z EL n0 ss0 Q pc' L (v :: st) h ss k n) : Go w K Z EL n0 ss0 Q pc L (.int j :: .ref a :: st) h ss k n := by
  obtain ⟨d1, rfl⟩ := d
  obtain ⟨c, A, e, l⟩ := A
  have ej : j.toNatClampNeg = i := by simp [Int32.toNatClampNeg, hj]
  have hi : i < vs.length := (List.getElem?_eq_some_iff.mp hv).1
  subst ej
  refine Go.same C (fun X eT hZ hown _ => ⟨_, X, eT, X.baloadBytes C.1 (j := j) (v := v) (by rw [eT]; exact A.1) (State.isArrayOf_alike hZ.alike A.2.1) A.2.2 ?_ (by rw [e]; simpa using hv) (g := mkF K.m pc L (.int j :: .ref a :: st)) rfl rfl (hb C.2.1 d1)⟩) G
  rintro (q | q)
  · rw [Int32.lt_iff_toInt_lt, hj] at q; have : (0 : Int32).toInt = 0 := rfl; omega
  · rw [e] at q; simp at q; omega
theorem iaload_ (C : Cx w K Z a0 EL own code ml rt mn (Rm rf rc rs rl)) {a : Addr} {j : Int32} {v : Value} {vs : List Value} (A : Ary Z h a .int vs) (i : Nat) (hj : j.toInt = i) (hv : vs[i]? = some v) (d : Dc code pc .iaload 1 pc') (G : Go w K Z EL n0 ss0 Q pc' L (v :: st) h ss k n) : Go w K Z EL n0 ss0 Q pc L (.int j :: .ref a :: st) h ss k n := by
  obtain ⟨d1, rfl⟩ := d
  obtain ⟨c, A, e, l⟩ := A
  have ej : j.toNatClampNeg = i := by simp [Int32.toNatClampNeg, hj]
  have hi : i < vs.length := (List.getElem?_eq_some_iff.mp hv).1
  subst ej
  refine Go.same C (fun X eT hZ hown _ => ⟨_, X, eT, X.iaload C.1 (j := j) (v := v) (by rw [eT]; exact A.1) (State.isArrayOf_alike hZ.alike A.2.1) A.2.2 ?_ (by rw [e]; simpa using hv) (g := mkF K.m pc L (.int j :: .ref a :: st)) rfl rfl (hb C.2.1 d1)⟩) G
  rintro (q | q)
  · rw [Int32.lt_iff_toInt_lt, hj] at q; have : (0 : Int32).toInt = 0 := rfl; omega
  · rw [e] at q; simp at q; omega
theorem arrlen (C : Cx w K Z a0 EL own code ml rt mn (Rm rf rc rs rl)) {a : Addr} {ty : FieldType} {vs : List Value} (A : Ary Z h a ty vs) {z : Int32} (hz : z.toInt = vs.length) (d : Dc code pc .arraylength 1 pc') (G : Go w K Z EL n0 ss0 Q pc' L (.int z :: st) h ss k n) : Go w K Z EL n0 ss0 Q pc L (.ref a :: st) h ss k n := by
  obtain ⟨d1, rfl⟩ := d
  obtain ⟨c, A, e, l⟩ := A
  have ez : c.slots.size.toInt32 = z := by
    rw [← Int32.toInt_inj, hz, len_toInt (by rw [e]; simpa using l), e]; simp
  refine Go.same C (fun X eT hZ hown _ => ⟨_, X, eT, fun t r => X.arraylength C.1 (by rw [eT]; exact A.1) (State.isArrayOf_alike hZ.alike A.2.1) (g := mkF K.m pc L (.ref a :: st)) rfl rfl (hb C.2.1 d1) t (by rw [ez]; exact r)⟩) G
theorem new_ (C : Cx w K Z a0 EL own code ml rt mn (Rm rf rc rs rl)) {i : Nat} {O : String} {nn : Nat} (wl : (Cond.classLink own i O).before a0 Z = true) (wi : (Cond.instantiable O nn).before a0 Z = true) (wz : (Cond.initialized O).before a0 Z = true) (hc : k + 1 ≤ rc) (hl : n + nn ≤ rs) (d : Dc code pc (.new i) 3 pc')
    (G : ∀ h', Keep h h' [] → h.size < h'.size → n0 ≤ h.size → (Exa Z h' h.size O ∧ ∀ {O' nm d : String} {ty : FieldType}, Laid Z a0 O O' nm d → parseFieldDescriptor d = some ty → Fld Z h' h.size O' nm d (defaultValue ty)) → Go w K Z EL n0 ss0 Q pc' L (.ref h.size :: st) h' (h.size :: ss) (k + 1) (n + nn)) : Go w K Z EL n0 ss0 Q pc L st h ss k n := by
  obtain ⟨d1, rfl⟩ := d
  have hR : K.R = Rm rf rc rs rl := C.2.2.2.2.2.2.2.1
  refine Go.grow C (dk := 1) (dn := nn) (P := fun h' => Exa Z h' h.size O ∧ ∀ {O' nm d : String} {ty : FieldType}, Laid Z a0 O O' nm d → parseFieldDescriptor d = some ty → Fld Z h' h.size O' nm d (defaultValue ty)) (fun _ q => q.1.lt) (fun X e hZ hown => ?_) G
  obtain ⟨T', h', X', e', E, A, D, -, r⟩ := newO X C.1 hZ hown wl wi wz e (g := mkF K.m pc L st) rfl (hb C.2.1 d1) (by rw [hR]; exact hc) (by rw [hR]; exact hl)
  exact ⟨T', h', X', e', E, ⟨A, D⟩, r⟩
theorem putF_ (C : Cx w K Z a0 EL own code ml rt mn (Rm rf rc rs rl)) {i kk : Nat} {O f D O' : String} {a : Addr} {v v' old : Value} {ty : FieldType} (wl : (Cond.fieldLink own i O f D).before a0 Z = true) (F : Fld Z h a O f D old) (E : Exa Z h a O') (Ly : (Cond.lays O' O f D).before a0 Z = true ∨ ((Cond.laysFinal O' O f D).before a0 Z = true ∧ own = O ∧ mn = "<init>")) (wi : (Cond.instantiable O' kk).before a0 Z = true)
    (hty : parseFieldDescriptor D = some ty) (hn : narrow ty v = v') (hf : fits ty v' = true) (ha : a ∈ ss) (d : Dc code pc (.putfield i) 3 pc')
    (G : ∀ h', Wr h h' a (RoadKit.slotOf Z O f D) v' → Go w K Z EL n0 ss0 Q pc' L st h' ss k n) : Go w K Z EL n0 ss0 Q pc L (v :: .ref a :: st) h ss k n := by
  obtain ⟨d1, rfl⟩ := d
  have hm : K.meth.name = mn := C.2.2.2.2.2.2.1
  exact Go.write C ha (fun X eT hZ hown => putFN X C.1 hZ hown wl Via.refl eT F E (Ly.imp id fun q => ⟨q.1, q.2.1, hm.trans q.2.2⟩) wi hty hn hf (g := mkF K.m pc L (v :: .ref a :: st)) rfl rfl (hb C.2.1 d1)) G
theorem initO_ (C : Cx w K Z a0 EL own code ml rt mn (Rm rf rc rs rl)) {i : Nat} {a : Addr} (w1 : (Cond.methodLink own i Lib.objectInit).before a0 Z = true) (w2 : (Cond.instanceMethod Lib.objectInit).before a0 Z = true) (w3 : (Cond.code Lib.objectInit ⟨#[0xb1]⟩ 1 none).before a0 Z = true) (hL : L.size = ml) (hf : 1 ≤ rf) (hlo : (st.map fun v => v.category).sum + 12 ≤ rl) (d : Dc code pc (.invokespecial i) 3 pc') (G : Go w K Z EL n0 ss0 Q pc' L st h ss k n) : Go w K Z EL n0 ss0 Q pc L (.ref a :: st) h ss k n := by
  obtain ⟨d1, rfl⟩ := d
  have hR : K.R = Rm rf rc rs rl := C.2.2.2.2.2.2.2.1
  exact Go.same C (fun X e hZ hown _ => initO X C.1 hZ hown w1 w2 w3 e (g := mkF K.m pc L (.ref a :: st)) rfl (hL.trans C.2.2.1.symm) rfl (hb C.2.1 d1) (by rw [hR]; exact hf) (W := (st.map fun v => v.category).sum) (by show 2 * 0 + _ ≤ _; omega) (by rw [hR]; exact hlo)) G
theorem retZ (C : Cx w K Z a0 EL own code ml (some .boolean) mn (Rm rf rc rs rl)) {z : Int32} {gs : List Addr} (d : Dc code pc .ireturn 1 pc') (hc : k ≤ rc) (hn : n ≤ rs) (hg : ∀ x ∈ gs, x ∈ ss) (hQ : Q (some (.int (nar .boolean z))) h gs) : Go w K Z EL n0 ss0 Q pc L (.int z :: st) h ss k n := by
  obtain ⟨d1, rfl⟩ := d
  exact Go.leave C nofun (fun X _ r => retN X C.1 (t := .boolean) C.2.2.2.2.1 (by simp) (hb C.2.1 d1) r) hQ hg hc hn
theorem retB (C : Cx w K Z a0 EL own code ml (some .byte) mn (Rm rf rc rs rl)) {z : Int32} {gs : List Addr} (d : Dc code pc .ireturn 1 pc') (hc : k ≤ rc) (hn : n ≤ rs) (hg : ∀ x ∈ gs, x ∈ ss) (hQ : Q (some (.int (nar .byte z))) h gs) : Go w K Z EL n0 ss0 Q pc L (.int z :: st) h ss k n := by
  obtain ⟨d1, rfl⟩ := d
  exact Go.leave C nofun (fun X _ r => retN X C.1 (t := .byte) C.2.2.2.2.1 (by simp) (hb C.2.1 d1) r) hQ hg hc hn
theorem retC (C : Cx w K Z a0 EL own code ml (some .char) mn (Rm rf rc rs rl)) {z : Int32} {gs : List Addr} (d : Dc code pc .ireturn 1 pc') (hc : k ≤ rc) (hn : n ≤ rs) (hg : ∀ x ∈ gs, x ∈ ss) (hQ : Q (some (.int (nar .char z))) h gs) : Go w K Z EL n0 ss0 Q pc L (.int z :: st) h ss k n := by
  obtain ⟨d1, rfl⟩ := d
  exact Go.leave C nofun (fun X _ r => retN X C.1 (t := .char) C.2.2.2.2.1 (by simp) (hb C.2.1 d1) r) hQ hg hc hn
theorem retS (C : Cx w K Z a0 EL own code ml (some .short) mn (Rm rf rc rs rl)) {z : Int32} {gs : List Addr} (d : Dc code pc .ireturn 1 pc') (hc : k ≤ rc) (hn : n ≤ rs) (hg : ∀ x ∈ gs, x ∈ ss) (hQ : Q (some (.int (nar .short z))) h gs) : Go w K Z EL n0 ss0 Q pc L (.int z :: st) h ss k n := by
  obtain ⟨d1, rfl⟩ := d
  exact Go.leave C nofun (fun X _ r => retN X C.1 (t := .short) C.2.2.2.2.1 (by simp) (hb C.2.1 d1) r) hQ hg hc hn
theorem retI_ (C : Cx w K Z a0 EL own code ml (some .int) mn (Rm rf rc rs rl)) {z : Int32} {gs : List Addr} (d : Dc code pc .ireturn 1 pc') (hc : k ≤ rc) (hn : n ≤ rs) (hg : ∀ x ∈ gs, x ∈ ss) (hQ : Q (some (.int z)) h gs) : Go w K Z EL n0 ss0 Q pc L (.int z :: st) h ss k n := by
  obtain ⟨d1, rfl⟩ := d
  refine Go.leave C nofun (fun {T vm0 locs} X {fs} hr => ?_) hQ hg hc hn
  have hret : K.meth.sig.returnType = some .int := C.2.2.2.2.1
  have hx := C.1
  have hm' := X.method'
  have hnn : narrow .int (.int z) = .int z := rfl
  have hd := hb C.2.1 d1
  show Steps K.p.tables K.e K.below (T.setTop { method := K.m, pc := pc, locals := L, stack := _ :: st, locked := none }) _
  jvm_step X.here [X.here.top, hx, hd, hm', hret, hnn]
  first | (intro acts; rw [hr _ acts rfl rfl rfl]) | rw [hr _ _ rfl rfl rfl]
  exact Steps.refl _
theorem retA {ty : FieldType} (C : Cx w K Z a0 EL own code ml (some ty) mn (Rm rf rc rs rl)) {v : Value} {gs : List Addr} (hty : ty.isReference = true) (hv : v.isRef = true) (d : Dc code pc .areturn 1 pc') (hc : k ≤ rc) (hn : n ≤ rs) (hg : ∀ x ∈ gs, x ∈ ss) (hQ : Q (some v) h gs) : Go w K Z EL n0 ss0 Q pc L (v :: st) h ss k n := by
  obtain ⟨d1, rfl⟩ := d
  refine Go.leave C nofun (fun {T vm0 locs} X {fs} hr => ?_) hQ hg hc hn
  have hret : K.meth.sig.returnType = some ty := C.2.2.2.2.1
  have hx := C.1
  have hm' := X.method'
  have hd := hb C.2.1 d1
  show Steps K.p.tables K.e K.below (T.setTop { method := K.m, pc := pc, locals := L, stack := _ :: st, locked := none }) _
  jvm_step X.here [X.here.top, hx, hd, hm', hret, hv, hty]
  first | (intro acts; rw [hr _ acts rfl rfl rfl]) | rw [hr _ _ rfl rfl rfl]
  exact Steps.refl _
theorem retV (C : Cx w K Z a0 EL own code ml none mn (Rm rf rc rs rl)) {gs : List Addr} (d : Dc code pc .return_ 1 pc') (hc : k ≤ rc) (hn : n ≤ rs) (hg : ∀ x ∈ gs, x ∈ ss) (hQ : Q none h gs) : Go w K Z EL n0 ss0 Q pc L [] h ss k n := by
  obtain ⟨d1, rfl⟩ := d
  exact Go.leave C (fun _ => rfl) (fun X _ r => X.returnOut C.1 C.2.2.2.2.1 (hb C.2.1 d1) r) hQ hg hc hn
end Ops
end Jvm.Own
namespace Jvm.Own
open Jvm Jvm.ClassFile Sem Op Lib Jvm.Free Jvm.Stand Jvm.LawKit Jvm.RoadKit
section Calls
variable {w : Bool} {K : IV} {Z : State} {a0 : Array Value} {EL : List (String × Nat)} {n0 : Nat} {ss0 ss : List Addr} {Q : Option Value → Heap → List Addr → Prop} {pc pc' pcT : Nat} {L L' : Array Slot} {st st' stk : List Value} {h h' : Heap} {k n : Nat} {own : String} {code : ByteArray} {ml : Nat} {rt : Option FieldType} {mn : String} {R : Room}
variable {y : MethodName} {bytes : ByteArray} {maxL : Nat} {ret : Option FieldType} {rm : Room} {as : List Value} {ssc : List Addr} {Qc : Option Value → Heap → List Addr → Prop}
def PreC (Z : State) (EL : List (String × Nat)) (n0 : Nat) (R rm : Room) (as : List Value) (h : Heap) (ssc : List Addr) (A : Pt) (a : Array Value) : Prop := a = as.toArray ∧ A.U.heap = h ∧ A.cells + rm.cells ≤ R.cells ∧ A.slots + rm.slots ≤ R.slots ∧ CHv Z EL A.U.vm h ∧ ∀ x ∈ ssc, n0 ≤ x ∧ x < h.size ∧ Safe Z EL A.U.vm h x
def PostC (Z : State) (EL : List (String × Nat)) (n0 : Nat) (rm : Room) (h : Heap) (ssc : List Addr) (Qc : Option Value → Heap → List Addr → Prop) (A : Pt) (_ : Array Value) (v : Option Value) (B : Pt) : Prop := ∃ (L : List Loc) (gs : List Addr), Qc v B.U.heap gs ∧ Fr n0 L ∧ CHr Z EL A.U.vm h B.U.vm B.U.heap ∧ Keep h B.U.heap ssc ∧ Sf Z EL n0 B.U.vm B.U.heap ssc h gs ∧ Old Z n0 B.U.heap ∧ B.locs = A.locs ++ L ∧ B.cells = A.cells + rm.cells ∧ B.slots = A.slots + rm.slots
theorem conBack {p : Program} {l : Launch} {e : Env} {below : List Frame} {s : State} {args : Array Value} {len W : Nat} (M : Con false Z EL n0 y bytes maxL ret rm as h ssc Qc) (hZ : Z.Warmed39 s.vm) (wc : (Cond.code y bytes maxL ret).before a0 Z = true) (wz : (Cond.initialized y.cls).before a0 Z = true) (hf : rm.frames + 1 ≤ R.frames) (hl : W + (maxL + 11) + rm.locals ≤ R.locals) :
    Back l R p e below s args y len W (PreC Z EL n0 R rm as h ssc) (PostC Z EL n0 rm h ssc Qc) :=
  Back.of_free (bytes := bytes) (maxL := maxL) (ret := ret) (E := fun _ first o t L k n => k = rm.cells ∧ n = rm.slots ∧ ∃ v gs, o = .returned v ∧ Qc v t.heap gs ∧ Fr n0 L ∧ CHr Z EL first.vm h t.vm t.heap ∧ Keep h t.heap ssc ∧ Sf Z EL n0 t.vm t.heap ssc h gs ∧ Old Z n0 t.heap) (M l []) hf hl
    (fun m meth c A a Y hp => have hU : Z.Warmed39 A.U.vm := wtrans hZ Y.warmed
      ⟨by show (Cond.and _ .tt).before a A.U = true; rw [Cond.before_and, mv hU wc]; rfl, mv hU wc, mv hU wz, hp.2.2.1, hp.2.2.2.1⟩)
    (fun m meth c A a g mk Y hp => ⟨hp.1, wtrans hZ Y.warmed, hp.2.1, hp.2.2.2.2.1, hp.2.2.2.2.2⟩) (fun _ _ _ _ _ _ _ _ _ => trivial)
    (fun _ _ _ _ ⟨v, L, gs, h1, h2, h3, h4, h5, h6, h7, h8⟩ => ⟨L, _, _, h8, rfl, rfl, v, gs, h1, h2, h3, h4, h5, h6, h7⟩)
    (fun m meth c A a g mk v t L k n Y hp _ _ ⟨e1, e2, v', gs, e3, r⟩ => by cases e3; subst e1 e2; exact ⟨L, gs, r.1, r.2.1, r.2.2.1, r.2.2.2.1, r.2.2.2.2.1, r.2.2.2.2.2, rfl, rfl, rfl⟩)
theorem conBackS {p : Program} {l : Launch} {e : Env} {below : List Frame} {s : State} {args : Array Value} {len W : Nat} (M : Con true Z EL n0 y bytes maxL ret rm as h ssc Qc) (hZ : Z.Warmed39 s.vm) (wc : (Cond.code y bytes maxL ret).before a0 Z = true) (wz : (Cond.initialized y.cls).before a0 Z = true) (hf : rm.frames + 1 ≤ R.frames) (hl : W + (maxL + 11) + rm.locals ≤ R.locals) :
    BackS l R p e below s args y len W (PreC Z EL n0 R rm as h ssc) (PostC Z EL n0 rm h ssc Qc) :=
  BackS.of_freeW (bytes := bytes) (maxL := maxL) (ret := ret) (E := fun _ first o t L k n => k = rm.cells ∧ n = rm.slots ∧ ∃ v gs, o = .returned v ∧ Qc v t.heap gs ∧ Fr n0 L ∧ CHr Z EL first.vm h t.vm t.heap ∧ Keep h t.heap ssc ∧ Sf Z EL n0 t.vm t.heap ssc h gs ∧ Old Z n0 t.heap) (M l []) hf hl
    (fun m meth c A a Y hp => have hU : Z.Warmed39 A.U.vm := wtrans hZ Y.warmed
      ⟨by show (Cond.and _ .tt).before a A.U = true; rw [Cond.before_and, mv hU wc]; rfl, mv hU wc, mv hU wz, hp.2.2.1, hp.2.2.2.1⟩)
    (fun m meth c A a g mk Y hp => ⟨hp.1, wtrans hZ Y.warmed, hp.2.1, hp.2.2.2.2.1, hp.2.2.2.2.2⟩) (fun _ _ _ _ _ _ _ _ _ => trivial)
    (fun _ _ _ _ ⟨v, L, gs, h1, h2, h3, h4, h5, h6, h7, h8⟩ => ⟨L, _, _, h8, rfl, rfl, v, gs, h1, h2, h3, h4, h5, h6, h7⟩)
    (fun m meth c A a g mk v t L k n Y hp _ _ ⟨e1, e2, v', gs, e3, r⟩ => by cases e3; subst e1 e2; exact ⟨L, gs, r.1, r.2.1, r.2.2.1, r.2.2.2.1, r.2.2.2.2.1, r.2.2.2.2.2, rfl, rfl, rfl⟩)
theorem warm1 {vm0 vm₁ : Vm} {s : State} (hZ : Z.Warmed39 vm0) (hE : EW Z a0 EL) (hW : (s.setVm vm0).WarmedH vm₁) (H : CHv Z EL vm0 h) : CHr Z EL vm0 h vm₁ h := by
  have q := CHv.later (h' := h) hZ (hW := (show (Wst Z vm0 h).Warmed39 vm₁ from hW.wide)) hE ⟨Nat.le_refl _, fun _ _ q => q⟩ (Or.inl hW.interned_eq) H
  exact ⟨q.1, Nat.le_refl _, q.2⟩
/-- behind a call -/
theorem after {T : State} {vm0 vm₁ : Vm} {locs : List Loc} {k0 : Nat} (C : Cx w K Z a0 EL own code ml rt mn R) (N : Fr n0 locs) (hS : K.s.Since vm0 k0) (hk : k0 ≤ h.size) (hZ : Z.Warmed39 vm0) (hv : w = false → vm0 = K.s.vm) (hC : CHr Z EL K.s.vm K.s.heap vm0 h) (hF : Sf Z EL n0 vm0 h ss0 K.s.heap ss) (hK : Keep K.s.heap h ss0)
    (hsub : ∀ x ∈ ssc, x ∈ ss) (hW : (K.s.setVm vm0).WarmedH vm₁) {B : Pt} {a : Array Value} {v : Option Value} (hp : PostC Z EL n0 rm h ssc Qc ⟨T.setVm vm₁, locs, k, n⟩ a v B)
    (hX : (w = false ∧ Stand K.p K.l K.e K.R (K.s.setVm vm0) K.m K.args K.below K.meth K.c B.U B.locs B.cells B.slots) ∨ (w = true ∧ Stand K.p K.l K.e K.R (K.s.setVm B.U.vm) K.m K.args K.below K.meth K.c B.U B.locs B.cells B.slots ∧ (K.s.setVm vm0).Since B.U.vm B.U.heap.size)) :
    ∃ gs, Here w K Z EL n0 ss0 B.U B.U.heap (gs ++ ss) (k + rm.cells) (n + rm.slots) ∧ Qc v B.U.heap gs ∧ Keep h B.U.heap ssc := by
  obtain ⟨Lc, gs, hQ, N', hC', hK', hF', hO', l1, l2, l3⟩ := hp
  obtain ⟨U, Ls, kk, nn⟩ := B
  dsimp only [Pt.U, Pt.locs, Pt.cells, Pt.slots] at *
  subst l1 l2 l3
  have D1 := warm1 hZ C.2.2.2.2.2.2.2.2.1 hW hC.1
  have D := D1.trans hC'
  have hKs : Keep K.s.heap U.heap ss0 := hK.trans hK' fun x hx => (hF x (hsub x hx)).2.2.2
  have hFa : Sf Z EL n0 U.vm U.heap ss0 K.s.heap (gs ++ ss) := fun x hx => by
    rcases List.mem_append.mp hx with hx | hx
    · obtain ⟨g1, g2, g3, g4⟩ := hF' x hx
      exact ⟨g1, g2, g3, g4.elim (fun q => (hF x (hsub x q)).2.2.2) fun q => Or.inr (Nat.le_trans hK.1 q)⟩
    · obtain ⟨g1, g2, g3, g4⟩ := hF x hx
      exact ⟨g1, Nat.lt_of_lt_of_le g2 hK'.1, D.safe g2 g3, g4⟩
  refine ⟨gs, ?_, hQ, hK'⟩
  rcases hX with ⟨hw, X⟩ | ⟨hw, X, hS'⟩
  · have hEL : EL = [] := C.2.2.2.2.2.2.2.2.2 hw
    subst hEL
    refine ⟨vm0, _, k0, X, N.app N', rfl, hS, Nat.le_trans hk hK'.1, hZ, hv, chr_nil (Nat.le_trans hK.1 hK'.1), fun x hx => ?_, hO', hKs⟩
    obtain ⟨g1, g2, g3, g4⟩ := hFa x hx
    exact ⟨g1, g2, fun ⟨p, hp, _⟩ => by (cases hp), g4⟩
  · exact ⟨U.vm, _, U.heap.size, X, N.app N', rfl, hS.trans hS' (Nat.le_trans hk hK'.1), Nat.le_refl _, State.Warmed39.trans (t := K.s.setVm vm0) hZ hS'.1, (fun q => by rw [hw] at q; cases q), hC.trans D, hFa, hO', hKs⟩
theorem pre {T : State} {vm0 vm₁ : Vm} {locs : List Loc} (C : Cx w K Z a0 EL own code ml rt mn R) (eT : T.heap = h) (hZ : Z.Warmed39 vm0) (hC : CHr Z EL K.s.vm K.s.heap vm0 h) (hF : Sf Z EL n0 vm0 h ss0 K.s.heap ss) (hsub : ∀ x ∈ ssc, x ∈ ss) (hW : (K.s.setVm vm0).WarmedH vm₁) (hc : k + rm.cells ≤ R.cells) (hn : n + rm.slots ≤ R.slots) :
    PreC Z EL n0 K.R rm as h ssc ⟨T.setVm vm₁, locs, k, n⟩ as.toArray := by
  have hR : K.R = R := C.2.2.2.2.2.2.2.1
  have D1 := warm1 hZ C.2.2.2.2.2.2.2.2.1 hW hC.1
  exact ⟨rfl, eT, by rw [hR]; exact hc, by rw [hR]; exact hn, D1.1, fun x hx => by
    obtain ⟨g1, g2, g3, g4⟩ := hF x (hsub x hx)
    exact ⟨g1, g2, D1.safe g2 g3⟩⟩
theorem callS_ {rf rc rs rl cf cc cs cl : Nat} (C : Cx w K Z a0 EL own code ml rt mn (Rm rf rc rs rl)) {i : Nat} {ps : List FieldType} {r : Option FieldType} (wl : (Cond.methodLink own i y).before a0 Z = true) (ws : (Cond.static y).before a0 Z = true) (wi : (Cond.initialized y.cls).before a0 Z = true) (wc : (Cond.code y bytes maxL ret).before a0 Z = true) (hy : y.cls ≠ "java/lang/invoke/MethodHandle" ∧ y.cls ≠ "java/lang/invoke/VarHandle") (pd : parseMethodDescriptor y.desc = some ⟨ps, r⟩) (hl : as.length = ps.length) (M : Old Z n0 h → Con w Z EL n0 y bytes maxL ret (Rm cf cc cs cl) as h ssc Qc) (hsub : ∀ x ∈ ssc, x ∈ ss) (hL : L.size = ml) (hfr : cf + 1 ≤ rf) (hlo : (st.map fun v => v.category).sum + (maxL + 11) + cl ≤ rl) (hc : k + cc ≤ rc) (hn : n + cs ≤ rs) (d : Dc code pc (.invokestatic i) 3 pc') (hst : stk = as.reverse ++ st) (G : ∀ v h' gs, Keep h h' ssc → Qc v h' gs → Go w K Z EL n0 ss0 Q pc' L (v.toList ++ st) h' (gs ++ ss) (k + cc) (n + cs)) : Go w K Z EL n0 ss0 Q pc L stk h ss k n := by
  obtain ⟨d1, rfl⟩ := d
  subst hst
  intro T H
  obtain ⟨vm0, locs, k0, X, N, eT, hS, hk, hZ, hv, hC, hF, hO, hK⟩ := H
  have hR : K.R = Rm rf rc rs rl := C.2.2.2.2.2.2.2.1
  have hown : (K.s.setVm vm0).vm.findClass own = some K.m.cls := fcl C hS
  have hZ' : Z.Warmed39 (K.s.setVm vm0).vm := hZ
  have hsz : L.size = K.c.maxLocals := hL.trans C.2.2.1.symm
  cases w with
  | false =>
    obtain ⟨v, vm₁, B, hW, X', hp, stp⟩ := Jvm.LawKit.callS X C.1 (y := y) hown (mvT hZ' wl) (mvT hZ' ws) (mvT hZ' wi) (mvT hZ' wc) hy (conBack (W := (st.map fun v => v.category).sum) (M hO) hZ' wc wi (by rw [hR]; exact hfr) (by rw [hR]; exact hlo)) (g := mkF K.m pc L (as.reverse ++ st)) rfl hsz (argsL := as) (rest := st) (lenOf pd hl) rfl (by show 2 * 0 + _ ≤ _; omega) (hb C.2.1 d1) (fun vm₁ hW => pre C eT hZ hC hF hsub hW hc hn)
    obtain ⟨gs, H', hQ, hKe⟩ := after C N hS hk hZ hv hC hF hK hsub hW hp (Or.inl ⟨rfl, X'⟩)
    exact Fns.steps stp (G v _ gs hKe hQ _ H')
  | true =>
    obtain ⟨v, vm₁, B, hW, X', hS', -, hp, stp⟩ := callSS X C.1 (y := y) hown (mvT hZ' wl) (mvT hZ' ws) (mvT hZ' wi) (mvT hZ' wc) hy (conBackS (W := (st.map fun v => v.category).sum) (M hO) hZ' wc wi (by rw [hR]; exact hfr) (by rw [hR]; exact hlo)) (g := mkF K.m pc L (as.reverse ++ st)) rfl hsz (argsL := as) (rest := st) (lenOf pd hl) rfl (by show 2 * 0 + _ ≤ _; omega) (hb C.2.1 d1) (fun vm₁ hW => pre C eT hZ hC hF hsub hW hc hn)
    obtain ⟨gs, H', hQ, hKe⟩ := after C N hS hk hZ hv hC hF hK hsub hW hp (Or.inr ⟨rfl, X', hS'⟩)
    exact Fns.steps (fun t r => stp.trans r) (G v _ gs hKe hQ _ H')
theorem callI_ {rf rc rs rl cf cc cs cl : Nat} (C : Cx w K Z a0 EL own code ml rt mn (Rm rf rc rs rl)) {i : Nat} {ps : List FieldType} {r : Option FieldType} {a : Addr} {as' : List Value} (hy1 : y.name = "<init>") (wl : (Cond.methodLink own i y).before a0 Z = true) (wm : (Cond.instanceMethod y).before a0 Z = true) (wi : (Cond.initialized y.cls).before a0 Z = true) (wc : (Cond.code y bytes maxL none).before a0 Z = true) (hy : y.cls ≠ "java/lang/invoke/MethodHandle" ∧ y.cls ≠ "java/lang/invoke/VarHandle") (pd : parseMethodDescriptor y.desc = some ⟨ps, r⟩) (hl : as'.length = ps.length) (M : Old Z n0 h → Con w Z EL n0 y bytes maxL none (Rm cf cc cs cl) (.ref a :: as') h ssc Qc) (hsub : ∀ x ∈ ssc, x ∈ ss) (hL : L.size = ml) (hfr : cf + 1 ≤ rf) (hlo : (st.map fun v => v.category).sum + (maxL + 11) + cl ≤ rl) (hc : k + cc ≤ rc) (hn : n + cs ≤ rs) (d : Dc code pc (.invokespecial i) 3 pc') (hst : stk = as'.reverse ++ .ref a :: st) (G : ∀ v h' gs, Keep h h' ssc → Qc v h' gs → Go w K Z EL n0 ss0 Q pc' L (v.toList ++ st) h' (gs ++ ss) (k + cc) (n + cs)) : Go w K Z EL n0 ss0 Q pc L stk h ss k n := by
  obtain ⟨d1, rfl⟩ := d
  subst hst
  intro T H
  obtain ⟨vm0, locs, k0, X, N, eT, hS, hk, hZ, hv, hC, hF, hO, hK⟩ := H
  have hR : K.R = Rm rf rc rs rl := C.2.2.2.2.2.2.2.1
  have hown : (K.s.setVm vm0).vm.findClass own = some K.m.cls := fcl C hS
  have hZ' : Z.Warmed39 (K.s.setVm vm0).vm := hZ
  have hsz : L.size = K.c.maxLocals := hL.trans C.2.2.1.symm
  cases w with
  | false =>
    obtain ⟨v, vm₁, B, hW, X', hp, stp⟩ := X.specialBack C.1 (y := y) hy1 hown (mvT hZ' wl) (mvT hZ' wm) (mvT hZ' wc) hy (conBack (W := (st.map fun v => v.category).sum) (M hO) hZ' wc wi (by rw [hR]; exact hfr) (by rw [hR]; exact hlo)) (g := mkF K.m pc L (as'.reverse ++ .ref a :: st)) rfl hsz (Steps.refl _) (a := a) (argsL := as') (rest := st) (lenOf pd hl) rfl (by show 2 * 0 + _ ≤ _; omega) (hb C.2.1 d1) (fun vm₁ hW => pre C eT hZ hC hF hsub hW hc hn)
    obtain ⟨gs, H', hQ, hKe⟩ := after C N hS hk hZ hv hC hF hK hsub hW hp (Or.inl ⟨rfl, X'⟩)
    exact Fns.steps (fun t r => stp.trans r) (G v _ gs hKe hQ _ H')
  | true =>
    obtain ⟨v, vm₁, B, hW, X', hS', -, hp, stp⟩ := X.specialBackS C.1 (y := y) hy1 hown (mvT hZ' wl) (mvT hZ' wm) (mvT hZ' wc) hy (conBackS (W := (st.map fun v => v.category).sum) (M hO) hZ' wc wi (by rw [hR]; exact hfr) (by rw [hR]; exact hlo)) (g := mkF K.m pc L (as'.reverse ++ .ref a :: st)) rfl hsz (Steps.refl _) (a := a) (argsL := as') (rest := st) (lenOf pd hl) rfl (by show 2 * 0 + _ ≤ _; omega) (hb C.2.1 d1) (fun vm₁ hW => pre C eT hZ hC hF hsub hW hc hn)
    obtain ⟨gs, H', hQ, hKe⟩ := after C N hS hk hZ hv hC hF hK hsub hW hp (Or.inr ⟨rfl, X', hS'⟩)
    exact Fns.steps (fun t r => stp.trans r) (G v _ gs hKe hQ _ H')
theorem callV_ {rf rc rs rl cf cc cs cl : Nat} (C : Cx w K Z a0 EL own code ml rt mn (Rm rf rc rs rl)) {i : Nat} {ps : List FieldType} {r : Option FieldType} {a : Addr} {as' : List Value} {O : String} {x : MethodName} (wl : (Cond.methodLink own i x).before a0 Z = true) (wd : (Cond.declares x).before a0 Z = true) (hnf : ∀ s : State, Z.Warmed39 s.vm → NotFace s x) (wse : (Cond.selects O x y).before a0 Z = true) (wm : (Cond.instanceMethod y).before a0 Z = true) (wi : (Cond.initialized y.cls).before a0 Z = true) (wc : (Cond.code y bytes maxL ret).before a0 Z = true) (hy : x.cls ≠ "java/lang/invoke/MethodHandle" ∧ x.cls ≠ "java/lang/invoke/VarHandle") (E : Exa Z h a O) (pd : parseMethodDescriptor x.desc = some ⟨ps, r⟩) (hl : as'.length = ps.length) (M : Old Z n0 h → Con w Z EL n0 y bytes maxL ret (Rm cf cc cs cl) (.ref a :: as') h ssc Qc) (hsub : ∀ x ∈ ssc, x ∈ ss) (hL : L.size = ml) (hfr : cf + 1 ≤ rf) (hlo : (st.map fun v => v.category).sum + (maxL + 11) + cl ≤ rl) (hc : k + cc ≤ rc) (hn : n + cs ≤ rs) (d : Dc code pc (.invokevirtual i) 3 pc') (hst : stk = as'.reverse ++ .ref a :: st) (G : ∀ v h' gs, Keep h h' ssc → Qc v h' gs → Go w K Z EL n0 ss0 Q pc' L (v.toList ++ st) h' (gs ++ ss) (k + cc) (n + cs)) : Go w K Z EL n0 ss0 Q pc L stk h ss k n := by
  obtain ⟨d1, rfl⟩ := d
  subst hst
  intro T H
  obtain ⟨vm0, locs, k0, X, N, eT, hS, hk, hZ, hv, hC, hF, hO, hK⟩ := H
  have hR : K.R = Rm rf rc rs rl := C.2.2.2.2.2.2.2.1
  have hown : (K.s.setVm vm0).vm.findClass own = some K.m.cls := fcl C hS
  have hZ' : Z.Warmed39 (K.s.setVm vm0).vm := hZ
  have hsz : L.size = K.c.maxLocals := hL.trans C.2.2.1.symm
  obtain ⟨cq, kq, qa, qb, qc⟩ := isOf (T := T) hZ' eT E
  cases w with
  | false =>
    obtain ⟨v, vm₁, B, hW, X', hp, stp⟩ := X.virtualBack C.1 (y := x) (z := y) hown (mvT hZ' wl) (mvT hZ' wd) (hnf _ hZ') (mvT hZ' wse) (mvT hZ' wm) hy (conBack (W := (st.map fun v => v.category).sum) (M hO) hZ' wc wi (by rw [hR]; exact hfr) (by rw [hR]; exact hlo)) qa qc (g := mkF K.m pc L (as'.reverse ++ .ref a :: st)) rfl hsz (Steps.refl _) (argsL := as') (rest := st) (lenOf pd hl) rfl (by show 2 * 0 + _ ≤ _; omega) (hb C.2.1 d1) (fun vm₁ hW => pre C eT hZ hC hF hsub hW hc hn)
    obtain ⟨gs, H', hQ, hKe⟩ := after C N hS hk hZ hv hC hF hK hsub hW hp (Or.inl ⟨rfl, X'⟩)
    exact Fns.steps (fun t r => stp.trans r) (G v _ gs hKe hQ _ H')
  | true =>
    obtain ⟨v, vm₁, B, hW, X', hS', -, hp, stp⟩ := X.virtualBackS C.1 (y := x) (z := y) hown (mvT hZ' wl) (mvT hZ' wd) (hnf _ hZ') (mvT hZ' wse) (mvT hZ' wm) hy (conBackS (W := (st.map fun v => v.category).sum) (M hO) hZ' wc wi (by rw [hR]; exact hfr) (by rw [hR]; exact hlo)) qa qc (g := mkF K.m pc L (as'.reverse ++ .ref a :: st)) rfl hsz (Steps.refl _) (argsL := as') (rest := st) (lenOf pd hl) rfl (by show 2 * 0 + _ ≤ _; omega) (hb C.2.1 d1) (fun vm₁ hW => pre C eT hZ hC hF hsub hW hc hn)
    obtain ⟨gs, H', hQ, hKe⟩ := after C N hS hk hZ hv hC hF hK hsub hW hp (Or.inr ⟨rfl, X', hS'⟩)
    exact Fns.steps (fun t r => stp.trans r) (G v _ gs hKe hQ _ H')
theorem callP_ {rf rc rs rl cf cc cs cl : Nat} (C : Cx w K Z a0 EL own code ml rt mn (Rm rf rc rs rl)) {i : Nat} {ps : List FieldType} {r : Option FieldType} {a : Addr} {as' : List Value} {O : String} (wl : (Cond.methodLink own i y).before a0 Z = true) (wm : (Cond.instanceMethod y).before a0 Z = true) (wse : (Cond.selects y.cls y y).before a0 Z = true) (wp : (Cond.privateMethod y).before a0 Z = true) (wi : (Cond.initialized y.cls).before a0 Z = true) (wc : (Cond.code y bytes maxL ret).before a0 Z = true) (hy : y.cls ≠ "java/lang/invoke/MethodHandle" ∧ y.cls ≠ "java/lang/invoke/VarHandle") (E : Exa Z h a O) (pd : parseMethodDescriptor y.desc = some ⟨ps, r⟩) (hl : as'.length = ps.length) (M : Old Z n0 h → Con w Z EL n0 y bytes maxL ret (Rm cf cc cs cl) (.ref a :: as') h ssc Qc) (hsub : ∀ x ∈ ssc, x ∈ ss) (hL : L.size = ml) (hfr : cf + 1 ≤ rf) (hlo : (st.map fun v => v.category).sum + (maxL + 11) + cl ≤ rl) (hc : k + cc ≤ rc) (hn : n + cs ≤ rs) (d : Dc code pc (.invokevirtual i) 3 pc') (hst : stk = as'.reverse ++ .ref a :: st) (G : ∀ v h' gs, Keep h h' ssc → Qc v h' gs → Go w K Z EL n0 ss0 Q pc' L (v.toList ++ st) h' (gs ++ ss) (k + cc) (n + cs)) : Go w K Z EL n0 ss0 Q pc L stk h ss k n := by
  obtain ⟨d1, rfl⟩ := d
  subst hst
  intro T H
  obtain ⟨vm0, locs, k0, X, N, eT, hS, hk, hZ, hv, hC, hF, hO, hK⟩ := H
  have hR : K.R = Rm rf rc rs rl := C.2.2.2.2.2.2.2.1
  have hown : (K.s.setVm vm0).vm.findClass own = some K.m.cls := fcl C hS
  have hZ' : Z.Warmed39 (K.s.setVm vm0).vm := hZ
  have hsz : L.size = K.c.maxLocals := hL.trans C.2.2.1.symm
  obtain ⟨cq, q1, q2⟩ := E.cell
  cases w with
  | false =>
    obtain ⟨v, vm₁, B, hW, X', hp, stp⟩ := X.privateBack C.1 (y := y) hown (mvT hZ' wl) (mvT hZ' wm) (mvT hZ' wse) (Cond.privateMethod_at (mvP hZ' wp (args := #[]))) (mvT hZ' wc) hy (conBack (W := (st.map fun v => v.category).sum) (M hO) hZ' wc wi (by rw [hR]; exact hfr) (by rw [hR]; exact hlo)) (g := mkF K.m pc L (as'.reverse ++ .ref a :: st)) rfl hsz (Steps.refl _) (a := a) (by rw [eT]; exact q1) q2 (argsL := as') (rest := st) (lenOf pd hl) rfl (by show 2 * 0 + _ ≤ _; omega) (hb C.2.1 d1) (fun vm₁ hW => pre C eT hZ hC hF hsub hW hc hn)
    obtain ⟨gs, H', hQ, hKe⟩ := after C N hS hk hZ hv hC hF hK hsub hW hp (Or.inl ⟨rfl, X'⟩)
    exact Fns.steps (fun t r => stp.trans r) (G v _ gs hKe hQ _ H')
  | true =>
    obtain ⟨v, vm₁, B, hW, X', hS', -, hp, stp⟩ := X.privateBackS C.1 (y := y) hown (mvT hZ' wl) (mvT hZ' wm) (mvT hZ' wse) (Cond.privateMethod_at (mvP hZ' wp (args := #[]))) (mvT hZ' wc) hy (conBackS (W := (st.map fun v => v.category).sum) (M hO) hZ' wc wi (by rw [hR]; exact hfr) (by rw [hR]; exact hlo)) (g := mkF K.m pc L (as'.reverse ++ .ref a :: st)) rfl hsz (Steps.refl _) (a := a) (by rw [eT]; exact q1) q2 (argsL := as') (rest := st) (lenOf pd hl) rfl (by show 2 * 0 + _ ≤ _; omega) (hb C.2.1 d1) (fun vm₁ hW => pre C eT hZ hC hF hsub hW hc hn)
    obtain ⟨gs, H', hQ, hKe⟩ := after C N hS hk hZ hv hC hF hK hsub hW hp (Or.inr ⟨rfl, X', hS'⟩)
    exact Fns.steps (fun t r => stp.trans r) (G v _ gs hKe hQ _ H')
theorem Ary.ofArv {b : Addr} {kc : ClassId} {ty : FieldType} {z : Int32} {vs : List Value} {dv : Value} (F : Arv Z h b kc ty z vs dv) (hl : z.toNatClampNeg = vs.length) : Ary Z h b ty vs := by
  obtain ⟨c, A, -, e2, -, H, -⟩ := F
  have hlt := rng32 z
  refine ⟨c, A, ?_, by rw [← hl]; simp only [Int32.toNatClampNeg]; omega⟩
  apply Array.ext_getElem?
  intro j
  by_cases q : j < c.slots.size
  · rw [H j q]
    have q' : j < vs.length := by omega
    simp [q']
  · have q' : ¬ j < vs.length := by omega
    rw [Array.getElem?_eq_none (by omega)]
    simp; omega
theorem ldcS_ {w : Bool} {rf rc rs rl : Nat} (hw : w = true) (C : Cx w K Z a0 EL own code ml rt mn (Rm rf rc rs rl)) {i : Nat} {text : String} (wl : (Cond.stringLink own i text).before a0 Z = true) (wS : ∀ a ∈ Bundle.stringAtoms, a.before a0 Z = true) (hmem : (own, i) ∈ EL)
    {vs : List Value} {z : Int32} (ht : (∀ c ∈ text.toList, c.toNat < 256) ∧ text.toList.map (fun c => Value.int (Jvm.Lit.byteI c.toNat.toUInt16)) = vs) (hz : ¬ z < 0) (hl : z.toNatClampNeg = vs.length) {nn : Nat} (hnn : 4 * text.toList.length ≤ nn) (hbig : nn ≤ 536870912) (hc : k + 2 ≤ rc) (hn : n + (nn + 4) ≤ rs)
    (d : Dc code pc (.ldc i) 2 pc') (G : ∀ h' a b, Keep h h' [] → Exa Z h' a "java/lang/String" → Fld Z h' a "java/lang/String" "coder" "B" (.int 0) → Fld Z h' a "java/lang/String" "value" "[B" (.ref b) → Ary Z h' b .byte vs → (∀ x ∈ ss, x ≠ a ∧ x ≠ b) → Go w K Z EL n0 ss0 Q pc' L (.ref a :: st) h' ss (k + 2) (n + (nn + 4))) : Go w K Z EL n0 ss0 Q pc L st h ss k n := by
  obtain ⟨d1, rfl⟩ := d
  intro T H
  obtain ⟨vm0, locs, k0, X, N, eT, hS, hk, hZ, hv, hC, hF, hO, hK⟩ := H
  have hR : K.R = Rm rf rc rs rl := C.2.2.2.2.2.2.2.1
  have hown : vm0.findClass own = some K.m.cls := fcl C hS
  obtain ⟨a, T', h', k1, b, kb, X', e', E, hS', hk', hZ', -, g1, g2, g3, g4, -, -, hCr, -, hSf, stp⟩ := ldcCH X C.1 hZ hown wl wS eT hS hk C.2.2.2.2.2.2.2.2.1 hmem hC.1 ht hz hl (g := mkF K.m pc L st) rfl (hb C.2.1 d1) hnn hbig (by rw [hR]; exact hc) (by rw [hR]; exact hn)
  have hF' : Sf Z EL n0 T'.vm h' ss0 K.s.heap ss := fun x hx => by
    obtain ⟨f1, f2, f3, f4⟩ := hF x hx
    exact ⟨f1, Nat.lt_of_lt_of_le f2 E.1, hCr.safe f2 f3, f4⟩
  exact Fns.steps stp (G h' a b ((Keep.refl h []).ext E) g1 g2 g3 (Ary.ofArv g4 hl) (fun x hx => hSf x (hF' x hx).2.2.1) T' ⟨T'.vm, locs, k1, X', N, e', hS', hk', hZ', (fun q => by rw [hw] at q; cases q), hC.trans hCr, hF', hO.ext E, hK.ext E⟩)
end Calls
end Jvm.Own
namespace Jvm.Own
open Jvm Jvm.ClassFile Sem Op Lib Jvm.Free Jvm.Stand Jvm.LawKit Jvm.RoadKit
/-- two roads that meet again with an int on the stack -/
theorem Go.join {w : Bool} {K : IV} {Z : State} {EL : List (String × Nat)} {n0 : Nat} {ss0 ss : List Addr} {Q : Option Value → Heap → List Addr → Prop} {pc pcJ : Nat} {L LJ : Array Slot} {st stJ : List Value} {h : Heap} {k n : Nat} {c : Prop} [Decidable c] {x y : Int32}
    (B : (c → Go w K Z EL n0 ss0 Q pcJ LJ (.int x :: stJ) h ss k n) → (¬ c → Go w K Z EL n0 ss0 Q pcJ LJ (.int y :: stJ) h ss k n) → Go w K Z EL n0 ss0 Q pc L st h ss k n) (G : Go w K Z EL n0 ss0 Q pcJ LJ (.int (if c then x else y) :: stJ) h ss k n) : Go w K Z EL n0 ss0 Q pc L st h ss k n :=
  B (fun q => by rw [if_pos q] at G; exact G) (fun q => by rw [if_neg q] at G; exact G)
end Jvm.Own
namespace Jvm.Own
open Jvm Jvm.ClassFile Sem Op Lib Jvm.Free Jvm.Stand Jvm.LawKit Jvm.RoadKit
/-! OWN KIT 4: Strings, plain facts on chars and indices -/
theorem catR {v : Value} (h : v.isRef = true) : v.category = 1 := by cases v <;> simp_all [Value.isRef, Value.category]
theorem st1 {L L' : Array Slot} {j : Nat} {v : Value} {o : Slot} (hold : L[j]? = some o) (ho : o = .unset ∨ ∃ w, o = .val w ∧ w.category = 1) (hv : v.category = 1) (e : L.setIfInBounds j (.val v) = L') : storeLocals L j v = some L' := e ▸ XS.store1 hold ho hv
def isCh (c : Int32) : Prop := 0 ≤ c.toInt ∧ c.toInt < 65536
def chs (cs : List Int32) : List Value := cs.map Value.int
def lat (cs : List Int32) : List Value := cs.map fun c => Value.int (nar .byte c)
def utf (cs : List Int32) : List Value := cs.flatMap fun c => [Value.int (nar .byte c), Value.int (nar .byte (c >>> 8))]
theorem chs_len (cs : List Int32) : (chs cs).length = cs.length := by simp [chs]
theorem lat_len (cs : List Int32) : (lat cs).length = cs.length := by simp [lat]
theorem utf_len (cs : List Int32) : (utf cs).length = 2 * cs.length := by
  induction cs with
  | nil => rfl
  | cons c r ih => simp [utf] at ih ⊢; omega
theorem i32e {x y : Int32} (h : x.toInt = y.toInt) : x = y := Int32.toInt_inj.mp h
theorem lt32 (x y : Int32) : x < y ↔ x.toInt < y.toInt := Int32.lt_iff_toInt_lt
theorem narc (x : Int32) : ((nar .char x).toInt - x.toInt) % 65536 = 0 ∧ 0 ≤ (nar .char x).toInt ∧ (nar .char x).toInt < 65536 := c_i2c x
theorem narb (x : Int32) : ((nar .byte x).toInt - x.toInt) % 256 = 0 ∧ -128 ≤ (nar .byte x).toInt ∧ (nar .byte x).toInt < 128 := c_i2b x
theorem narc_id {x : Int32} (h : isCh x) : nar .char x = x := i32e (by have := narc x; have := h.1; have := h.2; omega)
theorem narc_ch (x : Int32) : isCh (nar .char x) := (narc x).2
theorem narb_id {x : Int32} (h : -128 ≤ x.toInt ∧ x.toInt < 128) : nar .byte x = x := i32e (by have := narb x; omega)
theorem narb_idem (x : Int32) : nar .byte (nar .byte x) = nar .byte x := narb_id (narb x).2
theorem narc_idem (x : Int32) : nar .char (nar .char x) = nar .char x := narc_id (narc_ch x)
theorem mask8 (x : Int32) : (x &&& 255).toInt = x.toInt % 256 := c_mask x 255 8 (by decide) (by decide)
theorem lat_char {c : Int32} (h : 0 ≤ c.toInt ∧ c.toInt < 256) : nar .char (nar .byte c &&& 255) = c := by
  have e := mask8 (nar .byte c)
  have := narb c
  rw [narc_id (by unfold isCh; omega)]
  exact i32e (by omega)
theorem narb_inj {x y : Int32} (hx : 0 ≤ x.toInt ∧ x.toInt < 256) (hy : 0 ≤ y.toInt ∧ y.toInt < 256) (h : nar .byte x = nar .byte y) : x = y := i32e (by
  have a := narb x; have b := narb y; rw [h] at a; omega)
def natI (i : Nat) : Int32 := Nat.toInt32 i
theorem natI_toInt {i : Nat} (h : i < 2 ^ 31) : (natI i).toInt = i := len_toInt h
theorem natI_clamp {i : Nat} (h : i < 2 ^ 31) : (natI i).toNatClampNeg = i := by
  show (natI i).toInt.toNat = i
  rw [natI_toInt h]; rfl
theorem natI_succ {i : Nat} (h : i + 1 < 2 ^ 31) : natI i + 1 = natI (i + 1) := i32e (by
  have a := c_iadd (natI i) 1
  have b := natI_toInt (i := i) (by omega)
  have c := natI_toInt h
  have d : (1 : Int32).toInt = 1 := rfl
  have := rng32 (natI i + 1)
  omega)
/-- the bytes of a String that spells cs -/
def Byt (cs : List Int32) (z : Int32) (vs : List Value) : Prop := ((∀ c ∈ cs, c.toInt < 256) ∧ z = 0 ∧ vs = lat cs) ∨ ((∃ c ∈ cs, 256 ≤ c.toInt) ∧ z = 1 ∧ vs = utf cs)
abbrev sS : String := "java/lang/String"
/-- at a lies a String that spells cs -/
def Str (Z : State) (h : Heap) (a : Addr) (cs : List Int32) : Prop := Exa Z h a "java/lang/String" ∧ (∀ c ∈ cs, isCh c) ∧ cs.length ≤ 4096 ∧ ∃ (b : Addr) (z : Int32) (vs : List Value), Fld Z h a "java/lang/String" "value" "[B" (.ref b) ∧ Fld Z h a "java/lang/String" "coder" "B" (.int z) ∧ Ary Z h b .byte vs ∧ Byt cs z vs
section Facts
variable {Z : State} {h h' : Heap} {a b x : Addr} {cs cs' : List Int32} {a0 : Array Value}
theorem Str.keep (F : Str Z h a cs) (K : Keep h h' []) : Str Z h' a cs := by
  obtain ⟨E, h1, h2, b, z, vs, F1, F2, A, B⟩ := F
  exact ⟨E.keep K, h1, h2, b, z, vs, F1.keep K nin0, F2.keep K nin0, A.keep K nin0, B⟩
theorem Str.keepX {C : String} {kk : Nat} (F : Str Z h a cs) (K : Keep h h' [x]) (E : Exa Z h x C) (hC : "java/lang/String" ≠ C) (wi : (Cond.instantiable C kk).before a0 Z = true) : Str Z h' a cs := by
  obtain ⟨E0, h1, h2, b, z, vs, F1, F2, A, B⟩ := F
  have n1 : a ∉ [x] := ninS (ne_exa E0 E hC) nin0
  have n2 : b ∉ [x] := ninS (by obtain ⟨c, A', -⟩ := A; exact (ne_arr E wi A').symm) nin0
  exact ⟨E0.keep K, h1, h2, b, z, vs, F1.keep K n1, F2.keep K n1, A.keep K n2, B⟩
theorem Str.lt (F : Str Z h a cs) : a < h.size := F.1.lt
theorem Fld.fn {C n d : String} {v w : Value} (F : Fld Z h a C n d v) (G : Fld Z h a C n d w) : v = w := by
  by_cases q : v = w
  · exact q
  · exact absurd rfl (F.ne G q)
theorem Ary.fn {ty : FieldType} {vs ws : List Value} (F : Ary Z h a ty vs) (G : Ary Z h a ty ws) : vs = ws := by
  obtain ⟨c, A, e, -⟩ := F
  obtain ⟨c', A', e', -⟩ := G
  cases A.1.symm.trans A'.1
  rw [e] at e'
  simpa using e'
theorem lat_inj {cs cs' : List Int32} (h : ∀ c ∈ cs, 0 ≤ c.toInt ∧ c.toInt < 256) (h' : ∀ c ∈ cs', 0 ≤ c.toInt ∧ c.toInt < 256) (e : lat cs = lat cs') : cs = cs' := by
  induction cs generalizing cs' with
  | nil => cases cs' with
    | nil => rfl
    | cons _ _ => simp [lat] at e
  | cons c r ih => cases cs' with
    | nil => simp [lat] at e
    | cons c' r' =>
      simp only [lat, List.map_cons, List.cons.injEq, Value.int.injEq] at e
      rw [narb_inj (h c (by simp)) (h' c' (by simp)) e.1, ih (fun x hx => h x (by simp [hx])) (fun x hx => h' x (by simp [hx])) e.2]
theorem utf1_inj {x y : Int32} (hx : isCh x) (hy : isCh y) (h : nar .byte x = nar .byte y) (h' : nar .byte (x >>> 8) = nar .byte (y >>> 8)) : x = y := i32e (by
  have a := narb x; have b := narb y; rw [h] at a
  have a' := narb (x >>> 8); have b' := narb (y >>> 8); rw [h'] at a'
  have e1 : (x >>> 8).toInt = x.toInt / 256 := c_ishr x 8 8 (by decide)
  have e2 : (y >>> 8).toInt = y.toInt / 256 := c_ishr y 8 8 (by decide)
  have := hx.1; have := hx.2; have := hy.1; have := hy.2
  omega)
theorem utf_inj {cs cs' : List Int32} (h : ∀ c ∈ cs, isCh c) (h' : ∀ c ∈ cs', isCh c) (e : utf cs = utf cs') : cs = cs' := by
  induction cs generalizing cs' with
  | nil => cases cs' with
    | nil => rfl
    | cons _ _ => simp [utf] at e
  | cons c r ih => cases cs' with
    | nil => simp [utf] at e
    | cons c' r' =>
      simp only [utf, List.flatMap_cons, List.cons_append, List.nil_append, List.cons.injEq, Value.int.injEq] at e
      rw [utf1_inj (h c (by simp)) (h' c' (by simp)) e.1 e.2.1, ih (fun x hx => h x (by simp [hx])) (fun x hx => h' x (by simp [hx])) e.2.2]
theorem Byt.iff {z z' : Int32} {vs vs' : List Value} (h : ∀ c ∈ cs, isCh c) (h' : ∀ c ∈ cs', isCh c) (B : Byt cs z vs) (B' : Byt cs' z' vs') : (z = z' ∧ vs = vs') ↔ cs = cs' := by
  constructor
  · rintro ⟨rfl, rfl⟩
    rcases B with ⟨q, rfl, rfl⟩ | ⟨q, rfl, rfl⟩ <;> rcases B' with ⟨q', e1, e2⟩ | ⟨q', e1, e2⟩
    · exact lat_inj (fun c hc => ⟨(h c hc).1, q c hc⟩) (fun c hc => ⟨(h' c hc).1, q' c hc⟩) e2
    · exact absurd e1 (by decide)
    · exact absurd e1 (by decide)
    · exact utf_inj h h' e2
  · rintro rfl
    rcases B with ⟨q, rfl, rfl⟩ | ⟨⟨c, hc, q⟩, rfl, rfl⟩ <;> rcases B' with ⟨q', e1, e2⟩ | ⟨⟨c', hc', q'⟩, e1, e2⟩
    · exact ⟨e1.symm, e2.symm⟩
    · have := q c' hc'; omega
    · have := q' c hc; omega
    · exact ⟨e1.symm, e2.symm⟩
theorem Str.fn (F : Str Z h a cs) (G : Str Z h a cs') : cs = cs' := by
  obtain ⟨-, h1, -, b, z, vs, F1, F2, A, B⟩ := F
  obtain ⟨-, h1', -, b', z', vs', F1', F2', A', B'⟩ := G
  have e1 := Fld.fn F1 F1'
  have e2 := Fld.fn F2 F2'
  simp only [Value.ref.injEq, Value.int.injEq] at e1 e2
  subst e1
  exact (Byt.iff h1 h1' B B').mp ⟨e2, A.fn A'⟩
end Facts
end Jvm.Own
namespace Jvm.Own
open Jvm Jvm.ClassFile Sem Op Lib Jvm.Free Jvm.Stand Jvm.LawKit Jvm.RoadKit
section Facts2
variable {Z : State} {h h' : Heap} {a b x : Addr} {cs cs' : List Int32} {a0 : Array Value}
theorem Ary.ne {ty ty' : FieldType} {vs ws : List Value} (F : Ary Z h a ty vs) (G : Ary Z h b ty' ws) (q : ty ≠ ty') : a ≠ b := fun e => by
  subst e
  obtain ⟨c, A, -⟩ := F
  obtain ⟨c', A', -⟩ := G
  cases A.1.symm.trans A'.1
  obtain ⟨-, k, hk, comp, hkind⟩ := A.2.1
  obtain ⟨-, k', hk', comp', hkind'⟩ := A'.2.1
  cases hk.symm.trans hk'
  have := hkind.symm.trans hkind'
  injection this with _ e
  exact q e
theorem Ary.neX {ty : FieldType} {vs : List Value} {C : String} {kk : Nat} (F : Ary Z h a ty vs) (E : Exa Z h x C) (wi : (Cond.instantiable C kk).before a0 Z = true) : a ≠ x := by
  obtain ⟨c, A, -⟩ := F
  exact (ne_arr E wi A).symm
theorem Ary.other {ty : FieldType} {vs : List Value} {sl : Nat} {v : Value} (F : Ary Z h a ty vs) (W : Wr h h' b sl v) (q : a ≠ b) : Ary Z h' a ty vs := F.keep (Keep.of_wr W) (ninS q nin0)
/-- how many chars ahead of the first above 255 -/
def pfx (cs : List Int32) : Nat := (cs.takeWhile fun c => decide (c.toInt < 256)).length
theorem pfx_all (h : ∀ c ∈ cs, c.toInt < 256) : pfx cs = cs.length := by
  induction cs with
  | nil => rfl
  | cons x r ih =>
    have e := ih (fun c hc => h c (by simp [hc]))
    have hx := h x (by simp)
    simp only [pfx] at e
    simp [pfx, List.takeWhile_cons, hx, e]
theorem pfx_at {i : Nat} {c : Int32} (h : ∀ c ∈ cs.take i, c.toInt < 256) (hc : cs[i]? = some c) (q : 256 ≤ c.toInt) : pfx cs = i := by
  induction cs generalizing i with
  | nil => simp at hc
  | cons x r ih =>
    cases i with
    | zero =>
      simp at hc; subst hc
      simp [pfx, List.takeWhile_cons, show ¬ x.toInt < 256 by omega]
    | succ i =>
      have hx : x.toInt < 256 := h x (by simp)
      have := ih (i := i) (fun c hc => h c (by simp [hc])) (by simpa using hc)
      simp only [pfx] at this
      simp [pfx, List.takeWhile_cons, hx, this]
theorem lat_set {i m : Nat} {c : Int32} (hm : i + (m + 1) = cs.length) (hc : cs[i]? = some c) : (lat (cs.take i) ++ List.replicate (m + 1) (Value.int 0)).set i (.int (nar .byte (nar .byte c))) = lat (cs.take (i + 1)) ++ List.replicate m (Value.int 0) := by
  have hi : i < cs.length := by omega
  have hl : (lat (cs.take i)).length = i := by rw [lat_len, List.length_take]; omega
  rw [List.set_append_right _ _ (by omega), hl, Nat.sub_self, List.replicate_succ, List.set_cons_zero, narb_idem]
  have e : cs.take (i + 1) = cs.take i ++ [c] := by
    rw [List.take_add_one, hc]; rfl
  rw [e]
  simp [lat]
theorem take_lt {i : Nat} {c : Int32} (h : ∀ c ∈ cs.take i, c.toInt < 256) (hc : cs[i]? = some c) (q : c.toInt < 256) : ∀ c ∈ cs.take (i + 1), c.toInt < 256 := by
  have e : cs.take (i + 1) = cs.take i ++ [c] := by
    rw [List.take_add_one, hc]; rfl
  rw [e]
  intro x hx
  rcases List.mem_append.mp hx with hx | hx
  · exact h x hx
  · simp at hx; subst hx; exact q
theorem chs_at {i : Nat} {c : Int32} (hc : cs[i]? = some c) : (chs cs)[i]? = some (.int c) := by simp [chs, hc]
theorem lat_at {i : Nat} {c : Int32} (hc : cs[i]? = some c) : (lat cs)[i]? = some (.int (nar .byte c)) := by simp [lat, hc]
theorem utf_at {i : Nat} {c : Int32} (hc : cs[i]? = some c) : (utf cs)[2 * i]? = some (.int (nar .byte c)) ∧ (utf cs)[2 * i + 1]? = some (.int (nar .byte (c >>> 8))) := by
  induction cs generalizing i with
  | nil => simp at hc
  | cons x r ih =>
    cases i with
    | zero => simp at hc; subst hc; simp [utf]
    | succ i =>
      have := ih (i := i) (by simpa using hc)
      simp only [utf] at this ⊢
      simp only [List.flatMap_cons, List.cons_append, List.nil_append]
      have e1 : 2 * (i + 1) = (2 * i) + 1 + 1 := by omega
      have e2 : 2 * (i + 1) + 1 = (2 * i + 1) + 1 + 1 := by omega
      rw [e2, e1]
      simpa using this
end Facts2
end Jvm.Own
namespace Jvm.Own
open Jvm Jvm.ClassFile Sem Op Lib Jvm.Free Jvm.Stand Jvm.LawKit Jvm.RoadKit
section Facts3
variable {cs cs' : List Int32}
theorem pfx_le (cs : List Int32) : pfx cs ≤ cs.length := (List.takeWhile_sublist _).length_le
theorem pfx_take (cs : List Int32) : ∀ c ∈ cs.take (pfx cs), c.toInt < 256 := by
  induction cs with
  | nil => simp
  | cons x r ih =>
    by_cases hx : x.toInt < 256
    · intro c hc
      have e : pfx (x :: r) = pfx r + 1 := by simp [pfx, List.takeWhile_cons, hx]
      rw [e, List.take_succ_cons] at hc
      rcases List.mem_cons.mp hc with rfl | hc
      · exact hx
      · exact ih c hc
    · intro c hc
      have e : pfx (x :: r) = 0 := by simp [pfx, List.takeWhile_cons, hx]
      rw [e] at hc; simp at hc
theorem pfx_full (h : pfx cs = cs.length) : ∀ c ∈ cs, c.toInt < 256 := by
  have := pfx_take cs; rw [h, List.take_length] at this; exact this
theorem pfx_next (h : pfx cs < cs.length) : ∃ c, cs[pfx cs]? = some c ∧ 256 ≤ c.toInt := by
  induction cs with
  | nil => simp at h
  | cons x r ih =>
    by_cases hx : x.toInt < 256
    · have e : pfx (x :: r) = pfx r + 1 := by simp [pfx, List.takeWhile_cons, hx]
      obtain ⟨c, h1, h2⟩ := ih (by rw [e] at h; simpa using h)
      exact ⟨c, by rw [e]; simpa using h1, h2⟩
    · have e : pfx (x :: r) = 0 := by simp [pfx, List.takeWhile_cons, hx]
      exact ⟨x, by rw [e]; simp, by omega⟩
theorem Byt.length {z : Int32} {vs : List Value} (B : Byt cs z vs) : (z = 0 ∧ vs.length = cs.length) ∨ (z = 1 ∧ vs.length = 2 * cs.length) := by
  rcases B with ⟨-, rfl, rfl⟩ | ⟨-, rfl, rfl⟩
  · exact Or.inl ⟨rfl, lat_len _⟩
  · exact Or.inr ⟨rfl, utf_len _⟩
theorem Byt.len_lt {z : Int32} {vs : List Value} (B : Byt cs z vs) (hl : cs.length ≤ 4096) : vs.length < 2 ^ 31 := by rcases B.length with ⟨-, e⟩ | ⟨-, e⟩ <;> omega
theorem Byt.coder {z y : Int32} {vs : List Value} (B : Byt cs z vs) (h1 : 1 ≤ cs.length) (hl : cs.length ≤ 4096) (hy : y.toInt = vs.length) : nar .byte (nar .byte (ushr (natI cs.length - y) 31)) = z := by
  have e1 := natI_toInt (i := cs.length) (by omega)
  have e2 := c_isub (natI cs.length) y
  have e3 := rng32 (natI cs.length - y)
  have e4 : (ushr (natI cs.length - y) 31).toInt = ((natI cs.length - y).toInt % 4294967296) / (2 ^ 31 : Nat) := c_iushr _ 31 31 (by decide) (by decide)
  have e6 : ((2 ^ 31 : Nat) : Int) = 2147483648 := by decide
  rw [e6] at e4
  have e5 : (ushr (natI cs.length - y) 31) = z := i32e (by
    rcases B.length with ⟨rfl, e⟩ | ⟨rfl, e⟩
    · have : (0 : Int32).toInt = 0 := rfl; omega
    · have : (1 : Int32).toInt = 1 := rfl; omega)
  rw [e5]
  rcases B.length with ⟨rfl, e⟩ | ⟨rfl, e⟩ <;> rfl
theorem Byt.ints {z : Int32} {vs : List Value} (B : Byt cs z vs) (hl : cs.length ≤ 4096) : ∃ xs : List Int32, vs = xs.map Value.int ∧ xs.length ≤ 8192 := by
  rcases B with ⟨-, -, rfl⟩ | ⟨-, -, rfl⟩
  · exact ⟨cs.map (nar .byte), by simp [lat], by simp; omega⟩
  · refine ⟨cs.flatMap fun c => [nar .byte c, nar .byte (c >>> 8)], by simp [utf, List.map_flatMap], ?_⟩
    have := utf_len cs
    have e : (utf cs).length = (cs.flatMap fun c => [nar .byte c, nar .byte (c >>> 8)]).length := by
      rw [← List.length_map Value.int]; simp [utf, List.map_flatMap]
    omega
end Facts3
end Jvm.Own
namespace Jvm.Own
open Jvm Jvm.ClassFile Sem Op Lib Jvm.Free Jvm.Stand Jvm.LawKit Jvm.RoadKit
section Facts4
variable {cs : List Int32}
theorem shl1 {x : Int32} {i : Nat} (h : x.toInt = i) (hi : i < 2 ^ 30) : (x <<< (1 &&& 31)).toInt = (2 * i : Nat) := by
  have a := c_ishl x 1 1 (by decide)
  have b := rng32 (x <<< (1 &&& 31))
  have e : ((2 ^ 1 : Nat) : Int) = 2 := by decide
  rw [e] at a
  have c : (x <<< (1 &&& 31)).toInt = 2 * i := by omega
  rw [c]; rfl
theorem shr1 {x : Int32} {m : Nat} (h : x.toInt = (2 * m : Nat)) : (x >>> (1 &&& 31)).toInt = m := by
  have a := c_ishr x 1 1 (by decide)
  have e : ((2 ^ 1 : Nat) : Int) = 2 := by decide
  rw [e] at a
  omega
theorem shr0 (x : Int32) : x >>> (0 &&& 31) = x := i32e (by
  have a := c_ishr x 0 0 (by decide)
  have e : ((2 ^ 0 : Nat) : Int) = 1 := by decide
  rw [e] at a; omega)
theorem utf_char {c : Int32} (h : isCh c) : nar .char (((nar .byte c &&& 255) <<< (0 &&& 31)) ||| ((nar .byte (c >>> 8) &&& 255) <<< (8 &&& 31))) = c := by
  obtain ⟨h1, h2⟩ := h
  have e8 : (c >>> 8).toInt = c.toInt / 256 := c_ishr c 8 8 (by decide)
  have m1 := mask8 (nar .byte c)
  have m2 := mask8 (nar .byte (c >>> 8))
  have n1 := narb c
  have n2 := narb (c >>> 8)
  have s1 := c_ishl (nar .byte c &&& 255) 0 0 (by decide)
  have s2 := c_ishl (nar .byte (c >>> 8) &&& 255) 8 8 (by decide)
  have r1 := rng32 ((nar .byte c &&& 255) <<< (0 &&& 31))
  have r2 := rng32 ((nar .byte (c >>> 8) &&& 255) <<< (8 &&& 31))
  have z0 : ((2 ^ 0 : Nat) : Int) = 1 := by decide
  have z8 : ((2 ^ 8 : Nat) : Int) = 256 := by decide
  rw [z0] at s1
  rw [z8] at s2
  have f1 : ((nar .byte c &&& 255) <<< (0 &&& 31)).toInt = c.toInt % 256 := by omega
  have f2 : ((nar .byte (c >>> 8) &&& 255) <<< (8 &&& 31)).toInt = c.toInt / 256 * 256 := by omega
  have o := c_or' ((nar .byte c &&& 255) <<< (0 &&& 31)) ((nar .byte (c >>> 8) &&& 255) <<< (8 &&& 31)) 8 (by decide) 256 z8.symm (by rw [f2]; omega) (by rw [f1]; omega) (by rw [f1]; omega)
  have r3 := rng32 (((nar .byte c &&& 255) <<< (0 &&& 31)) ||| ((nar .byte (c >>> 8) &&& 255) <<< (8 &&& 31)))
  have f3 : (((nar .byte c &&& 255) <<< (0 &&& 31)) ||| ((nar .byte (c >>> 8) &&& 255) <<< (8 &&& 31))) = c := i32e (by omega)
  rw [f3, narc_id ⟨h1, h2⟩]
theorem utf_set {i m : Nat} {c : Int32} (hm : i + (m + 1) = cs.length) (hc : cs[i]? = some c) : ((utf (cs.take i) ++ List.replicate (2 * (m + 1)) (Value.int 0)).set (2 * i) (.int (nar .byte c))).set (2 * i + 1) (.int (nar .byte (c >>> 8))) = utf (cs.take (i + 1)) ++ List.replicate (2 * m) (Value.int 0) := by
  have hi : i < cs.length := by omega
  have hl : (utf (cs.take i)).length = 2 * i := by rw [utf_len, List.length_take]; omega
  rw [List.set_append_right _ _ (by omega), hl, Nat.sub_self, List.set_append_right _ _ (by omega), hl, show 2 * (m + 1) = 2 * m + 1 + 1 by omega, List.replicate_succ, List.replicate_succ, List.set_cons_zero, show 2 * i + 1 - 2 * i = 1 by omega, List.set_cons_succ, List.set_cons_zero]
  have e : cs.take (i + 1) = cs.take i ++ [c] := by
    rw [List.take_add_one, hc]; rfl
  rw [e]
  simp [utf]
theorem Byt.isr {z y : Int32} {vs : List Value} (B : Byt cs z vs) (hl : cs.length ≤ 4096) (hy : y.toInt = vs.length) : y >>> (z &&& 31) = natI cs.length := i32e (by
  rw [natI_toInt (by omega)]
  rcases B.length with ⟨rfl, e⟩ | ⟨rfl, e⟩
  · rw [shr0, hy, e]
  · exact shr1 (by rw [hy, e]))
theorem Byt.z01 {z : Int32} {vs : List Value} (B : Byt cs z vs) : z = 0 ∨ z = 1 := B.length.imp (·.1) (·.1)
theorem Byt.nb {z : Int32} {vs : List Value} (B : Byt cs z vs) : nar .byte z = z := by rcases B.z01 with rfl | rfl <;> rfl
theorem Byt.zero {vs : List Value} (B : Byt cs 0 vs) : (∀ c ∈ cs, c.toInt < 256) ∧ vs = lat cs := by
  rcases B with ⟨q, -, e⟩ | ⟨-, q, -⟩
  · exact ⟨q, e⟩
  · exact absurd q (by decide)
theorem Byt.one {vs : List Value} (B : Byt cs 1 vs) : vs = utf cs := by
  rcases B with ⟨-, q, -⟩ | ⟨-, -, e⟩
  · exact absurd q (by decide)
  · exact e
end Facts4
end Jvm.Own
namespace Jvm.Own
open Jvm Jvm.ClassFile Sem Op Lib Jvm.Free Jvm.Stand Jvm.LawKit Jvm.RoadKit
theorem eq_val {args : Array Value} {first s : State} {o : Option Outcome} {idx : List Nat} {t : Term} {q : Int32} (h : (Jvm.Cond.eq t (.int q)).value args first o s idx = some true) : t.eval args first o idx s = some (.int q) := by
  obtain ⟨x, y, h1, h2, k1, k2⟩ := cmp_v (Or.inl h)
  cases (Term.int_eval q).symm.trans h2
  obtain ⟨z, rfl⟩ := k2
  have := gotT (Cond.eq_ints h1 h2) h
  rw [h1, this]
end Jvm.Own
namespace Jvm.Own
open Jvm Jvm.ClassFile Sem Op Lib Jvm.Free Jvm.Stand Jvm.LawKit Jvm.RoadKit
theorem Ary.fill {Z : State} {h : Heap} {b : Addr} {ty : FieldType} {v w : Value} {i j m n : Nat} (F : Ary Z h b ty ((List.replicate i v ++ List.replicate m w).set i v)) (hm : m = n + 1) (hj : j = i + 1) : Ary Z h b ty (List.replicate j v ++ List.replicate n w) := by
  subst hm hj
  have e : (List.replicate i v ++ List.replicate (n + 1) w).set i v = List.replicate (i + 1) v ++ List.replicate n w := by
    rw [List.set_append_right _ _ (by simp), List.length_replicate, Nat.sub_self, List.replicate_succ, List.set_cons_zero, List.replicate_succ', List.append_assoc]; rfl
  rw [e] at F; exact F
end Jvm.Own
namespace Jvm.Pilot.@@N@@
open Jvm Jvm.ClassFile Sem Op Lib Jvm.Free Jvm.Stand Jvm.LawKit Jvm.RoadKit Jvm.Own Jvm.Pilot.@@N@@.Jvm.D
abbrev WD : Bool := true
abbrev EL0 : List (String × Nat) := [("java/lang/String", 7)]
theorem hWE : WD = false → EL0 = [] := fun h => by cases h
theorem hEL {Z : State} {a0 : Array Value} (hw : ∀ d ∈ tables_1, d.before a0 Z = true) : EW Z a0 EL0 := EW.cons (hw _ (List.mem_of_getElem? (i := 117) rfl)) (by decide +kernel) (EW.nil)
theorem wS {Z : State} {a0 : Array Value} (hw : ∀ d ∈ tables_1, d.before a0 Z = true) : ∀ a ∈ Bundle.stringAtoms, a.before a0 Z = true := by
  intro d hd
  simp only [Bundle.stringAtoms, List.mem_cons, List.not_mem_nil, or_false] at hd
  rcases hd with rfl | rfl | rfl | rfl | rfl | rfl | rfl
  · exact (hw _ (List.mem_of_getElem? (i := 11) rfl))
  · exact (hw _ (List.mem_of_getElem? (i := 10) rfl))
  · exact (hw _ (List.mem_of_getElem? (i := 27) rfl))
  · exact (hw _ (List.mem_of_getElem? (i := 37) rfl))
  · exact (hw _ (List.mem_of_getElem? (i := 35) rfl))
  · exact (hw _ (List.mem_of_getElem? (i := 118) rfl))
  · exact (hw _ (List.mem_of_getElem? (i := 119) rfl))
def Stt (Z : State) : Prop := (∃ cv : Int32, ¬ cv = 0 ∧ Sta Z Z.heap "java/lang/String" "COMPACT_STRINGS" "Z" (.int cv)) ∧ (∃ v : Value, v.isRef = true ∧ Sta Z Z.heap "jdk/internal/util/Preconditions" "SIOOBE_FORMATTER" "Ljava/util/function/BiFunction;" v) ∧ Sta Z Z.heap "java/lang/StringUTF16" "$assertionsDisabled" "Z" (.int 1) ∧ Sta Z Z.heap "java/lang/StringUTF16" "HI_BYTE_SHIFT" "I" (.int 0) ∧ Sta Z Z.heap "java/lang/StringUTF16" "LO_BYTE_SHIFT" "I" (.int 8) ∧ True
theorem st_c {Z : State} (hs : Stt Z) : (∃ cv : Int32, ¬ cv = 0 ∧ Sta Z Z.heap "java/lang/String" "COMPACT_STRINGS" "Z" (.int cv)) := hs.1
theorem st_f {Z : State} (hs : Stt Z) : (∃ v : Value, v.isRef = true ∧ Sta Z Z.heap "jdk/internal/util/Preconditions" "SIOOBE_FORMATTER" "Ljava/util/function/BiFunction;" v) := hs.2.1
theorem st_a {Z : State} (hs : Stt Z) : Sta Z Z.heap "java/lang/StringUTF16" "$assertionsDisabled" "Z" (.int 1) := hs.2.2.1
theorem st_hi {Z : State} (hs : Stt Z) : Sta Z Z.heap "java/lang/StringUTF16" "HI_BYTE_SHIFT" "I" (.int 0) := hs.2.2.2.1
theorem st_lo {Z : State} (hs : Stt Z) : Sta Z Z.heap "java/lang/StringUTF16" "LO_BYTE_SHIFT" "I" (.int 8) := hs.2.2.2.2.1
theorem d0_0 : Dc prog_10_method_2_code 0 (.aload_n 0) 1 1 := ⟨by decide +kernel, rfl⟩
theorem d0_1 : Db prog_10_method_2_code 1 (.ifnull 20) 3 4 (20) 21 := ⟨by decide +kernel, rfl, by decide, by decide⟩
theorem d0_4 : Dc prog_10_method_2_code 4 (.aload_n 0) 1 5 := ⟨by decide +kernel, rfl⟩
theorem d0_5 : Dc prog_10_method_2_code 5 (.invokevirtual 7) 3 8 := ⟨by decide +kernel, rfl⟩
theorem d0_8 : Db prog_10_method_2_code 8 (.ifCond .ne 13) 3 11 (13) 21 := ⟨by decide +kernel, rfl, by decide, by decide⟩
theorem d0_11 : Dc prog_10_method_2_code 11 (.aload_n 0) 1 12 := ⟨by decide +kernel, rfl⟩
theorem d0_12 : Dc prog_10_method_2_code 12 (.invokevirtual 13) 3 15 := ⟨by decide +kernel, rfl⟩
theorem d0_15 : Dc prog_10_method_2_code 15 (.sipush 128) 3 18 := ⟨by decide +kernel, rfl⟩
theorem d0_18 : Db prog_10_method_2_code 18 (.if_icmp .le 5) 3 21 (5) 23 := ⟨by decide +kernel, rfl, by decide, by decide⟩
theorem d0_21 : Dc prog_10_method_2_code 21 (.iconst 0) 1 22 := ⟨by decide +kernel, rfl⟩
theorem d0_22 : Dc prog_10_method_2_code 22 (.ireturn) 1 23 := ⟨by decide +kernel, rfl⟩
theorem d0_23 : Dc prog_10_method_2_code 23 (.aload_n 0) 1 24 := ⟨by decide +kernel, rfl⟩
theorem d0_24 : Dc prog_10_method_2_code 24 (.iconst 0) 1 25 := ⟨by decide +kernel, rfl⟩
theorem d0_25 : Dc prog_10_method_2_code 25 (.invokevirtual 19) 3 28 := ⟨by decide +kernel, rfl⟩
theorem d0_28 : Dc prog_10_method_2_code 28 (.invokestatic 23) 3 31 := ⟨by decide +kernel, rfl⟩
theorem d0_31 : Dc prog_10_method_2_code 31 (.istore_n 1) 1 32 := ⟨by decide +kernel, rfl⟩
theorem d0_32 : Dc prog_10_method_2_code 32 (.iconst 1) 1 33 := ⟨by decide +kernel, rfl⟩
theorem d0_33 : Dc prog_10_method_2_code 33 (.istore_n 2) 1 34 := ⟨by decide +kernel, rfl⟩
theorem d0_34 : Dc prog_10_method_2_code 34 (.iload_n 2) 1 35 := ⟨by decide +kernel, rfl⟩
theorem d0_35 : Dc prog_10_method_2_code 35 (.aload_n 0) 1 36 := ⟨by decide +kernel, rfl⟩
theorem d0_36 : Dc prog_10_method_2_code 36 (.invokevirtual 13) 3 39 := ⟨by decide +kernel, rfl⟩
theorem d0_39 : Db prog_10_method_2_code 39 (.if_icmp .ge 48) 3 42 (48) 87 := ⟨by decide +kernel, rfl, by decide, by decide⟩
theorem d0_42 : Dc prog_10_method_2_code 42 (.aload_n 0) 1 43 := ⟨by decide +kernel, rfl⟩
theorem d0_43 : Dc prog_10_method_2_code 43 (.iload_n 2) 1 44 := ⟨by decide +kernel, rfl⟩
theorem d0_44 : Dc prog_10_method_2_code 44 (.invokevirtual 19) 3 47 := ⟨by decide +kernel, rfl⟩
theorem d0_47 : Dc prog_10_method_2_code 47 (.istore_n 3) 1 48 := ⟨by decide +kernel, rfl⟩
theorem d0_48 : Dc prog_10_method_2_code 48 (.iload_n 1) 1 49 := ⟨by decide +kernel, rfl⟩
theorem d0_49 : Dc prog_10_method_2_code 49 (.iload_n 3) 1 50 := ⟨by decide +kernel, rfl⟩
theorem d0_50 : Dc prog_10_method_2_code 50 (.invokestatic 23) 3 53 := ⟨by decide +kernel, rfl⟩
theorem d0_53 : Db prog_10_method_2_code 53 (.ifCond .ne 21) 3 56 (21) 74 := ⟨by decide +kernel, rfl, by decide, by decide⟩
theorem d0_56 : Dc prog_10_method_2_code 56 (.iload_n 3) 1 57 := ⟨by decide +kernel, rfl⟩
theorem d0_57 : Dc prog_10_method_2_code 57 (.bipush 46) 2 59 := ⟨by decide +kernel, rfl⟩
theorem d0_59 : Db prog_10_method_2_code 59 (.if_icmp .eq 15) 3 62 (15) 74 := ⟨by decide +kernel, rfl, by decide, by decide⟩
theorem d0_62 : Dc prog_10_method_2_code 62 (.iload_n 3) 1 63 := ⟨by decide +kernel, rfl⟩
theorem d0_63 : Dc prog_10_method_2_code 63 (.bipush 95) 2 65 := ⟨by decide +kernel, rfl⟩
theorem d0_65 : Db prog_10_method_2_code 65 (.if_icmp .eq 9) 3 68 (9) 74 := ⟨by decide +kernel, rfl, by decide, by decide⟩
theorem d0_68 : Dc prog_10_method_2_code 68 (.iload_n 3) 1 69 := ⟨by decide +kernel, rfl⟩
theorem d0_69 : Dc prog_10_method_2_code 69 (.bipush 45) 2 71 := ⟨by decide +kernel, rfl⟩
theorem d0_71 : Db prog_10_method_2_code 71 (.if_icmp .ne 7) 3 74 (7) 78 := ⟨by decide +kernel, rfl, by decide, by decide⟩
theorem d0_74 : Dc prog_10_method_2_code 74 (.iconst 1) 1 75 := ⟨by decide +kernel, rfl⟩
theorem d0_75 : Db prog_10_method_2_code 75 (.goto 4) 3 78 (4) 79 := ⟨by decide +kernel, rfl, by decide, by decide⟩
theorem d0_78 : Dc prog_10_method_2_code 78 (.iconst 0) 1 79 := ⟨by decide +kernel, rfl⟩
theorem d0_79 : Dc prog_10_method_2_code 79 (.iand) 1 80 := ⟨by decide +kernel, rfl⟩
theorem d0_80 : Dc prog_10_method_2_code 80 (.istore_n 1) 1 81 := ⟨by decide +kernel, rfl⟩
theorem d0_81 : Dc prog_10_method_2_code 81 (.iinc 2 1) 3 84 := ⟨by decide +kernel, rfl⟩
theorem d0_84 : Db prog_10_method_2_code 84 (.goto (-50)) 3 87 (-50) 34 := ⟨by decide +kernel, rfl, by decide, by decide⟩
theorem d0_87 : Dc prog_10_method_2_code 87 (.iload_n 1) 1 88 := ⟨by decide +kernel, rfl⟩
theorem d0_88 : Dc prog_10_method_2_code 88 (.ireturn) 1 89 := ⟨by decide +kernel, rfl⟩
theorem d1_0 : Dc method_2_code 0 (.iload_n 0) 1 1 := ⟨by decide +kernel, rfl⟩
theorem d1_1 : Dc method_2_code 1 (.bipush 97) 2 3 := ⟨by decide +kernel, rfl⟩
theorem d1_3 : Db method_2_code 3 (.if_icmp .lt 9) 3 6 (9) 12 := ⟨by decide +kernel, rfl, by decide, by decide⟩
theorem d1_6 : Dc method_2_code 6 (.iload_n 0) 1 7 := ⟨by decide +kernel, rfl⟩
theorem d1_7 : Dc method_2_code 7 (.bipush 122) 2 9 := ⟨by decide +kernel, rfl⟩
theorem d1_9 : Db method_2_code 9 (.if_icmp .le 15) 3 12 (15) 24 := ⟨by decide +kernel, rfl, by decide, by decide⟩
theorem d1_12 : Dc method_2_code 12 (.iload_n 0) 1 13 := ⟨by decide +kernel, rfl⟩
theorem d1_13 : Dc method_2_code 13 (.bipush 48) 2 15 := ⟨by decide +kernel, rfl⟩
theorem d1_15 : Db method_2_code 15 (.if_icmp .lt 13) 3 18 (13) 28 := ⟨by decide +kernel, rfl, by decide, by decide⟩
theorem d1_18 : Dc method_2_code 18 (.iload_n 0) 1 19 := ⟨by decide +kernel, rfl⟩
theorem d1_19 : Dc method_2_code 19 (.bipush 57) 2 21 := ⟨by decide +kernel, rfl⟩
theorem d1_21 : Db method_2_code 21 (.if_icmp .gt 7) 3 24 (7) 28 := ⟨by decide +kernel, rfl, by decide, by decide⟩
theorem d1_24 : Dc method_2_code 24 (.iconst 1) 1 25 := ⟨by decide +kernel, rfl⟩
theorem d1_25 : Db method_2_code 25 (.goto 4) 3 28 (4) 29 := ⟨by decide +kernel, rfl, by decide, by decide⟩
theorem d1_28 : Dc method_2_code 28 (.iconst 0) 1 29 := ⟨by decide +kernel, rfl⟩
theorem d1_29 : Dc method_2_code 29 (.ireturn) 1 30 := ⟨by decide +kernel, rfl⟩
theorem d2_0 : Dc jdk_42_method_3_code 0 (.aload_n 0) 1 1 := ⟨by decide +kernel, rfl⟩
theorem d2_1 : Dc jdk_42_method_3_code 1 (.aload_n 1) 1 2 := ⟨by decide +kernel, rfl⟩
theorem d2_2 : Dc jdk_42_method_3_code 2 (.iconst 0) 1 3 := ⟨by decide +kernel, rfl⟩
theorem d2_3 : Dc jdk_42_method_3_code 3 (.aload_n 1) 1 4 := ⟨by decide +kernel, rfl⟩
theorem d2_4 : Dc jdk_42_method_3_code 4 (.arraylength) 1 5 := ⟨by decide +kernel, rfl⟩
theorem d2_5 : Dc jdk_42_method_3_code 5 (.aconst_null) 1 6 := ⟨by decide +kernel, rfl⟩
theorem d2_6 : Dc jdk_42_method_3_code 6 (.invokespecial 27) 3 9 := ⟨by decide +kernel, rfl⟩
theorem d2_9 : Dc jdk_42_method_3_code 9 (.return_) 1 10 := ⟨by decide +kernel, rfl⟩
theorem d3_0 : Dc jdk_42_method_149_code 0 (.aload_n 0) 1 1 := ⟨by decide +kernel, rfl⟩
theorem d3_1 : Dc jdk_42_method_149_code 1 (.invokespecial 1) 3 4 := ⟨by decide +kernel, rfl⟩
theorem d3_4 : Dc jdk_42_method_149_code 4 (.iload_n 3) 1 5 := ⟨by decide +kernel, rfl⟩
theorem d3_5 : Db jdk_42_method_149_code 5 (.ifCond .ne 22) 3 8 (22) 27 := ⟨by decide +kernel, rfl, by decide, by decide⟩
theorem d3_8 : Dc jdk_42_method_149_code 8 (.aload_n 0) 1 9 := ⟨by decide +kernel, rfl⟩
theorem d3_9 : Dc jdk_42_method_149_code 9 (.ldc 7) 2 11 := ⟨by decide +kernel, rfl⟩
theorem d3_11 : Dc jdk_42_method_149_code 11 (.getfield 9) 3 14 := ⟨by decide +kernel, rfl⟩
theorem d3_14 : Dc jdk_42_method_149_code 14 (.putfield 9) 3 17 := ⟨by decide +kernel, rfl⟩
theorem d3_17 : Dc jdk_42_method_149_code 17 (.aload_n 0) 1 18 := ⟨by decide +kernel, rfl⟩
theorem d3_18 : Dc jdk_42_method_149_code 18 (.ldc 7) 2 20 := ⟨by decide +kernel, rfl⟩
theorem d3_20 : Dc jdk_42_method_149_code 20 (.getfield 15) 3 23 := ⟨by decide +kernel, rfl⟩
theorem d3_23 : Dc jdk_42_method_149_code 23 (.putfield 15) 3 26 := ⟨by decide +kernel, rfl⟩
theorem d3_26 : Dc jdk_42_method_149_code 26 (.return_) 1 27 := ⟨by decide +kernel, rfl⟩
theorem d3_27 : Dc jdk_42_method_149_code 27 (.getstatic 38) 3 30 := ⟨by decide +kernel, rfl⟩
theorem d3_30 : Db jdk_42_method_149_code 30 (.ifCond .eq 28) 3 33 (28) 58 := ⟨by decide +kernel, rfl, by decide, by decide⟩
theorem d3_33 : Dc jdk_42_method_149_code 33 (.aload_n 1) 1 34 := ⟨by decide +kernel, rfl⟩
theorem d3_34 : Dc jdk_42_method_149_code 34 (.iload_n 2) 1 35 := ⟨by decide +kernel, rfl⟩
theorem d3_35 : Dc jdk_42_method_149_code 35 (.iload_n 3) 1 36 := ⟨by decide +kernel, rfl⟩
theorem d3_36 : Dc jdk_42_method_149_code 36 (.invokestatic 177) 3 39 := ⟨by decide +kernel, rfl⟩
theorem d3_39 : Dc jdk_42_method_149_code 39 (.astore 5) 2 41 := ⟨by decide +kernel, rfl⟩
theorem d3_41 : Dc jdk_42_method_149_code 41 (.aload_n 0) 1 42 := ⟨by decide +kernel, rfl⟩
theorem d3_42 : Dc jdk_42_method_149_code 42 (.aload 5) 2 44 := ⟨by decide +kernel, rfl⟩
theorem d3_44 : Dc jdk_42_method_149_code 44 (.iload_n 3) 1 45 := ⟨by decide +kernel, rfl⟩
theorem d3_45 : Dc jdk_42_method_149_code 45 (.invokestatic 47) 3 48 := ⟨by decide +kernel, rfl⟩
theorem d3_48 : Dc jdk_42_method_149_code 48 (.putfield 15) 3 51 := ⟨by decide +kernel, rfl⟩
theorem d3_51 : Dc jdk_42_method_149_code 51 (.aload_n 0) 1 52 := ⟨by decide +kernel, rfl⟩
theorem d3_52 : Dc jdk_42_method_149_code 52 (.aload 5) 2 54 := ⟨by decide +kernel, rfl⟩
theorem d3_54 : Dc jdk_42_method_149_code 54 (.putfield 9) 3 57 := ⟨by decide +kernel, rfl⟩
theorem d3_57 : Dc jdk_42_method_149_code 57 (.return_) 1 58 := ⟨by decide +kernel, rfl⟩
theorem d5_0 : Dc jdk_52_method_16_code 0 (.iload_n 2) 1 1 := ⟨by decide +kernel, rfl⟩
theorem d5_1 : Dc jdk_52_method_16_code 1 (.newarray .byte) 2 3 := ⟨by decide +kernel, rfl⟩
theorem d5_3 : Dc jdk_52_method_16_code 3 (.astore_n 3) 1 4 := ⟨by decide +kernel, rfl⟩
theorem d5_4 : Dc jdk_52_method_16_code 4 (.aload_n 0) 1 5 := ⟨by decide +kernel, rfl⟩
theorem d5_5 : Dc jdk_52_method_16_code 5 (.iload_n 1) 1 6 := ⟨by decide +kernel, rfl⟩
theorem d5_6 : Dc jdk_52_method_16_code 6 (.aload_n 3) 1 7 := ⟨by decide +kernel, rfl⟩
theorem d5_7 : Dc jdk_52_method_16_code 7 (.iconst 0) 1 8 := ⟨by decide +kernel, rfl⟩
theorem d5_8 : Dc jdk_52_method_16_code 8 (.iload_n 2) 1 9 := ⟨by decide +kernel, rfl⟩
theorem d5_9 : Dc jdk_52_method_16_code 9 (.invokestatic 115) 3 12 := ⟨by decide +kernel, rfl⟩
theorem d5_12 : Dc jdk_52_method_16_code 12 (.istore 4) 2 14 := ⟨by decide +kernel, rfl⟩
theorem d5_14 : Dc jdk_52_method_16_code 14 (.iload 4) 2 16 := ⟨by decide +kernel, rfl⟩
theorem d5_16 : Dc jdk_52_method_16_code 16 (.iload_n 2) 1 17 := ⟨by decide +kernel, rfl⟩
theorem d5_17 : Db jdk_52_method_16_code 17 (.if_icmp .eq 40) 3 20 (40) 57 := ⟨by decide +kernel, rfl, by decide, by decide⟩
theorem d5_20 : Dc jdk_52_method_16_code 20 (.aload_n 0) 1 21 := ⟨by decide +kernel, rfl⟩
theorem d5_21 : Dc jdk_52_method_16_code 21 (.iload_n 1) 1 22 := ⟨by decide +kernel, rfl⟩
theorem d5_22 : Dc jdk_52_method_16_code 22 (.iload_n 2) 1 23 := ⟨by decide +kernel, rfl⟩
theorem d5_23 : Dc jdk_52_method_16_code 23 (.invokestatic 119) 3 26 := ⟨by decide +kernel, rfl⟩
theorem d5_26 : Dc jdk_52_method_16_code 26 (.astore 5) 2 28 := ⟨by decide +kernel, rfl⟩
theorem d5_28 : Dc jdk_52_method_16_code 28 (.aload 5) 2 30 := ⟨by decide +kernel, rfl⟩
theorem d5_30 : Dc jdk_52_method_16_code 30 (.iload 4) 2 32 := ⟨by decide +kernel, rfl⟩
theorem d5_32 : Dc jdk_52_method_16_code 32 (.invokestatic 71) 3 35 := ⟨by decide +kernel, rfl⟩
theorem d5_35 : Dc jdk_52_method_16_code 35 (.sipush 255) 3 38 := ⟨by decide +kernel, rfl⟩
theorem d5_38 : Db jdk_52_method_16_code 38 (.if_icmp .gt 16) 3 41 (16) 54 := ⟨by decide +kernel, rfl, by decide, by decide⟩
theorem d5_54 : Dc jdk_52_method_16_code 54 (.aload 5) 2 56 := ⟨by decide +kernel, rfl⟩
theorem d5_56 : Dc jdk_52_method_16_code 56 (.areturn) 1 57 := ⟨by decide +kernel, rfl⟩
theorem d5_57 : Dc jdk_52_method_16_code 57 (.aload_n 3) 1 58 := ⟨by decide +kernel, rfl⟩
theorem d5_58 : Dc jdk_52_method_16_code 58 (.areturn) 1 59 := ⟨by decide +kernel, rfl⟩
theorem d6_0 : Dc jdk_52_method_21_code 0 (.iconst 0) 1 1 := ⟨by decide +kernel, rfl⟩
theorem d6_1 : Dc jdk_52_method_21_code 1 (.istore 5) 2 3 := ⟨by decide +kernel, rfl⟩
theorem d6_3 : Dc jdk_52_method_21_code 3 (.iload 5) 2 5 := ⟨by decide +kernel, rfl⟩
theorem d6_5 : Dc jdk_52_method_21_code 5 (.iload 4) 2 7 := ⟨by decide +kernel, rfl⟩
theorem d6_7 : Db jdk_52_method_21_code 7 (.if_icmp .ge 37) 3 10 (37) 44 := ⟨by decide +kernel, rfl, by decide, by decide⟩
theorem d6_10 : Dc jdk_52_method_21_code 10 (.aload_n 0) 1 11 := ⟨by decide +kernel, rfl⟩
theorem d6_11 : Dc jdk_52_method_21_code 11 (.iload_n 1) 1 12 := ⟨by decide +kernel, rfl⟩
theorem d6_12 : Dc jdk_52_method_21_code 12 (.caload) 1 13 := ⟨by decide +kernel, rfl⟩
theorem d6_13 : Dc jdk_52_method_21_code 13 (.istore 6) 2 15 := ⟨by decide +kernel, rfl⟩
theorem d6_15 : Dc jdk_52_method_21_code 15 (.iload 6) 2 17 := ⟨by decide +kernel, rfl⟩
theorem d6_17 : Dc jdk_52_method_21_code 17 (.sipush 255) 3 20 := ⟨by decide +kernel, rfl⟩
theorem d6_20 : Db jdk_52_method_21_code 20 (.if_icmp .le 6) 3 23 (6) 26 := ⟨by decide +kernel, rfl, by decide, by decide⟩
theorem d6_23 : Dc jdk_52_method_21_code 23 (.iload 5) 2 25 := ⟨by decide +kernel, rfl⟩
theorem d6_25 : Dc jdk_52_method_21_code 25 (.ireturn) 1 26 := ⟨by decide +kernel, rfl⟩
theorem d6_26 : Dc jdk_52_method_21_code 26 (.aload_n 2) 1 27 := ⟨by decide +kernel, rfl⟩
theorem d6_27 : Dc jdk_52_method_21_code 27 (.iload_n 3) 1 28 := ⟨by decide +kernel, rfl⟩
theorem d6_28 : Dc jdk_52_method_21_code 28 (.iload 6) 2 30 := ⟨by decide +kernel, rfl⟩
theorem d6_30 : Dc jdk_52_method_21_code 30 (.i2b) 1 31 := ⟨by decide +kernel, rfl⟩
theorem d6_31 : Dc jdk_52_method_21_code 31 (.bastore) 1 32 := ⟨by decide +kernel, rfl⟩
theorem d6_32 : Dc jdk_52_method_21_code 32 (.iinc 1 1) 3 35 := ⟨by decide +kernel, rfl⟩
theorem d6_35 : Dc jdk_52_method_21_code 35 (.iinc 3 1) 3 38 := ⟨by decide +kernel, rfl⟩
theorem d6_38 : Dc jdk_52_method_21_code 38 (.iinc 5 1) 3 41 := ⟨by decide +kernel, rfl⟩
theorem d6_41 : Db jdk_52_method_21_code 41 (.goto (-38)) 3 44 (-38) 3 := ⟨by decide +kernel, rfl, by decide, by decide⟩
theorem d6_44 : Dc jdk_52_method_21_code 44 (.iload 4) 2 46 := ⟨by decide +kernel, rfl⟩
theorem d6_46 : Dc jdk_52_method_21_code 46 (.ireturn) 1 47 := ⟨by decide +kernel, rfl⟩
theorem d7_0 : Dc jdk_52_method_15_code 0 (.iload_n 1) 1 1 := ⟨by decide +kernel, rfl⟩
theorem d7_1 : Dc jdk_52_method_15_code 1 (.aload_n 0) 1 2 := ⟨by decide +kernel, rfl⟩
theorem d7_2 : Dc jdk_52_method_15_code 2 (.arraylength) 1 3 := ⟨by decide +kernel, rfl⟩
theorem d7_3 : Dc jdk_52_method_15_code 3 (.isub) 1 4 := ⟨by decide +kernel, rfl⟩
theorem d7_4 : Dc jdk_52_method_15_code 4 (.bipush 31) 2 6 := ⟨by decide +kernel, rfl⟩
theorem d7_6 : Dc jdk_52_method_15_code 6 (.iushr) 1 7 := ⟨by decide +kernel, rfl⟩
theorem d7_7 : Dc jdk_52_method_15_code 7 (.i2b) 1 8 := ⟨by decide +kernel, rfl⟩
theorem d7_8 : Dc jdk_52_method_15_code 8 (.ireturn) 1 9 := ⟨by decide +kernel, rfl⟩
theorem d8_0 : Dc jdk_42_method_55_code 0 (.aload_n 0) 1 1 := ⟨by decide +kernel, rfl⟩
theorem d8_1 : Dc jdk_42_method_55_code 1 (.getfield 9) 3 4 := ⟨by decide +kernel, rfl⟩
theorem d8_4 : Dc jdk_42_method_55_code 4 (.arraylength) 1 5 := ⟨by decide +kernel, rfl⟩
theorem d8_5 : Db jdk_42_method_55_code 5 (.ifCond .ne 7) 3 8 (7) 12 := ⟨by decide +kernel, rfl, by decide, by decide⟩
theorem d8_8 : Dc jdk_42_method_55_code 8 (.iconst 1) 1 9 := ⟨by decide +kernel, rfl⟩
theorem d8_9 : Db jdk_42_method_55_code 9 (.goto 4) 3 12 (4) 13 := ⟨by decide +kernel, rfl, by decide, by decide⟩
theorem d8_12 : Dc jdk_42_method_55_code 12 (.iconst 0) 1 13 := ⟨by decide +kernel, rfl⟩
theorem d8_13 : Dc jdk_42_method_55_code 13 (.ireturn) 1 14 := ⟨by decide +kernel, rfl⟩
theorem d9_0 : Dc jdk_42_method_54_code 0 (.aload_n 0) 1 1 := ⟨by decide +kernel, rfl⟩
theorem d9_1 : Dc jdk_42_method_54_code 1 (.getfield 9) 3 4 := ⟨by decide +kernel, rfl⟩
theorem d9_4 : Dc jdk_42_method_54_code 4 (.arraylength) 1 5 := ⟨by decide +kernel, rfl⟩
theorem d9_5 : Dc jdk_42_method_54_code 5 (.aload_n 0) 1 6 := ⟨by decide +kernel, rfl⟩
theorem d9_6 : Dc jdk_42_method_54_code 6 (.invokevirtual 335) 3 9 := ⟨by decide +kernel, rfl⟩
theorem d9_9 : Dc jdk_42_method_54_code 9 (.ishr) 1 10 := ⟨by decide +kernel, rfl⟩
theorem d9_10 : Dc jdk_42_method_54_code 10 (.ireturn) 1 11 := ⟨by decide +kernel, rfl⟩
theorem d10_0 : Dc jdk_42_method_152_code 0 (.getstatic 38) 3 3 := ⟨by decide +kernel, rfl⟩
theorem d10_3 : Db jdk_42_method_152_code 3 (.ifCond .eq 10) 3 6 (10) 13 := ⟨by decide +kernel, rfl, by decide, by decide⟩
theorem d10_6 : Dc jdk_42_method_152_code 6 (.aload_n 0) 1 7 := ⟨by decide +kernel, rfl⟩
theorem d10_7 : Dc jdk_42_method_152_code 7 (.getfield 15) 3 10 := ⟨by decide +kernel, rfl⟩
theorem d10_10 : Db jdk_42_method_152_code 10 (.goto 4) 3 13 (4) 14 := ⟨by decide +kernel, rfl, by decide, by decide⟩
theorem d10_14 : Dc jdk_42_method_152_code 14 (.ireturn) 1 15 := ⟨by decide +kernel, rfl⟩
theorem d11_0 : Dc jdk_42_method_56_code 0 (.aload_n 0) 1 1 := ⟨by decide +kernel, rfl⟩
theorem d11_1 : Dc jdk_42_method_56_code 1 (.invokevirtual 492) 3 4 := ⟨by decide +kernel, rfl⟩
theorem d11_4 : Db jdk_42_method_56_code 4 (.ifCond .eq 12) 3 7 (12) 16 := ⟨by decide +kernel, rfl, by decide, by decide⟩
theorem d11_7 : Dc jdk_42_method_56_code 7 (.aload_n 0) 1 8 := ⟨by decide +kernel, rfl⟩
theorem d11_8 : Dc jdk_42_method_56_code 8 (.getfield 9) 3 11 := ⟨by decide +kernel, rfl⟩
theorem d11_11 : Dc jdk_42_method_56_code 11 (.iload_n 1) 1 12 := ⟨by decide +kernel, rfl⟩
theorem d11_12 : Dc jdk_42_method_56_code 12 (.invokestatic 495) 3 15 := ⟨by decide +kernel, rfl⟩
theorem d11_15 : Dc jdk_42_method_56_code 15 (.ireturn) 1 16 := ⟨by decide +kernel, rfl⟩
theorem d11_16 : Dc jdk_42_method_56_code 16 (.aload_n 0) 1 17 := ⟨by decide +kernel, rfl⟩
theorem d11_17 : Dc jdk_42_method_56_code 17 (.getfield 9) 3 20 := ⟨by decide +kernel, rfl⟩
theorem d11_20 : Dc jdk_42_method_56_code 20 (.iload_n 1) 1 21 := ⟨by decide +kernel, rfl⟩
theorem d11_21 : Dc jdk_42_method_56_code 21 (.invokestatic 498) 3 24 := ⟨by decide +kernel, rfl⟩
theorem d11_24 : Dc jdk_42_method_56_code 24 (.ireturn) 1 25 := ⟨by decide +kernel, rfl⟩
theorem d12_0 : Dc jdk_42_method_154_code 0 (.getstatic 38) 3 3 := ⟨by decide +kernel, rfl⟩
theorem d12_3 : Db jdk_42_method_154_code 3 (.ifCond .eq 14) 3 6 (14) 17 := ⟨by decide +kernel, rfl, by decide, by decide⟩
theorem d12_6 : Dc jdk_42_method_154_code 6 (.aload_n 0) 1 7 := ⟨by decide +kernel, rfl⟩
theorem d12_7 : Dc jdk_42_method_154_code 7 (.getfield 15) 3 10 := ⟨by decide +kernel, rfl⟩
theorem d12_10 : Db jdk_42_method_154_code 10 (.ifCond .ne 7) 3 13 (7) 17 := ⟨by decide +kernel, rfl, by decide, by decide⟩
theorem d12_13 : Dc jdk_42_method_154_code 13 (.iconst 1) 1 14 := ⟨by decide +kernel, rfl⟩
theorem d12_14 : Db jdk_42_method_154_code 14 (.goto 4) 3 17 (4) 18 := ⟨by decide +kernel, rfl, by decide, by decide⟩
theorem d12_17 : Dc jdk_42_method_154_code 17 (.iconst 0) 1 18 := ⟨by decide +kernel, rfl⟩
theorem d12_18 : Dc jdk_42_method_154_code 18 (.ireturn) 1 19 := ⟨by decide +kernel, rfl⟩
theorem d13_0 : Dc jdk_43_method_2_code 0 (.iload_n 1) 1 1 := ⟨by decide +kernel, rfl⟩
theorem d13_1 : Dc jdk_43_method_2_code 1 (.aload_n 0) 1 2 := ⟨by decide +kernel, rfl⟩
theorem d13_2 : Dc jdk_43_method_2_code 2 (.arraylength) 1 3 := ⟨by decide +kernel, rfl⟩
theorem d13_3 : Dc jdk_43_method_2_code 3 (.invokestatic 9) 3 6 := ⟨by decide +kernel, rfl⟩
theorem d13_6 : Dc jdk_43_method_2_code 6 (.aload_n 0) 1 7 := ⟨by decide +kernel, rfl⟩
theorem d13_7 : Dc jdk_43_method_2_code 7 (.iload_n 1) 1 8 := ⟨by decide +kernel, rfl⟩
theorem d13_8 : Dc jdk_43_method_2_code 8 (.baload) 1 9 := ⟨by decide +kernel, rfl⟩
theorem d13_9 : Dc jdk_43_method_2_code 9 (.sipush 255) 3 12 := ⟨by decide +kernel, rfl⟩
theorem d13_12 : Dc jdk_43_method_2_code 12 (.iand) 1 13 := ⟨by decide +kernel, rfl⟩
theorem d13_13 : Dc jdk_43_method_2_code 13 (.i2c) 1 14 := ⟨by decide +kernel, rfl⟩
theorem d13_14 : Dc jdk_43_method_2_code 14 (.ireturn) 1 15 := ⟨by decide +kernel, rfl⟩
theorem d14_0 : Dc jdk_42_method_155_code 0 (.iload_n 0) 1 1 := ⟨by decide +kernel, rfl⟩
theorem d14_1 : Dc jdk_42_method_155_code 1 (.iload_n 1) 1 2 := ⟨by decide +kernel, rfl⟩
theorem d14_2 : Dc jdk_42_method_155_code 2 (.getstatic 1053) 3 5 := ⟨by decide +kernel, rfl⟩
theorem d14_5 : Dc jdk_42_method_155_code 5 (.invokestatic 1059) 3 8 := ⟨by decide +kernel, rfl⟩
theorem d14_8 : Dc jdk_42_method_155_code 8 (.pop) 1 9 := ⟨by decide +kernel, rfl⟩
theorem d14_9 : Dc jdk_42_method_155_code 9 (.return_) 1 10 := ⟨by decide +kernel, rfl⟩
theorem d15_0 : Dc jdk_41_method_11_code 0 (.iload_n 0) 1 1 := ⟨by decide +kernel, rfl⟩
theorem d15_1 : Db jdk_41_method_11_code 1 (.ifCond .lt 8) 3 4 (8) 9 := ⟨by decide +kernel, rfl, by decide, by decide⟩
theorem d15_4 : Dc jdk_41_method_11_code 4 (.iload_n 0) 1 5 := ⟨by decide +kernel, rfl⟩
theorem d15_5 : Dc jdk_41_method_11_code 5 (.iload_n 1) 1 6 := ⟨by decide +kernel, rfl⟩
theorem d15_6 : Db jdk_41_method_11_code 6 (.if_icmp .lt 10) 3 9 (10) 16 := ⟨by decide +kernel, rfl, by decide, by decide⟩
theorem d15_16 : Dc jdk_41_method_11_code 16 (.iload_n 0) 1 17 := ⟨by decide +kernel, rfl⟩
theorem d15_17 : Dc jdk_41_method_11_code 17 (.ireturn) 1 18 := ⟨by decide +kernel, rfl⟩
theorem d16_0 : Dc prog_10_method_3_code 0 (.iload_n 0) 1 1 := ⟨by decide +kernel, rfl⟩
theorem d16_1 : Dc prog_10_method_3_code 1 (.bipush 97) 2 3 := ⟨by decide +kernel, rfl⟩
theorem d16_3 : Db prog_10_method_3_code 3 (.if_icmp .lt 9) 3 6 (9) 12 := ⟨by decide +kernel, rfl, by decide, by decide⟩
theorem d16_6 : Dc prog_10_method_3_code 6 (.iload_n 0) 1 7 := ⟨by decide +kernel, rfl⟩
theorem d16_7 : Dc prog_10_method_3_code 7 (.bipush 122) 2 9 := ⟨by decide +kernel, rfl⟩
theorem d16_9 : Db prog_10_method_3_code 9 (.if_icmp .le 15) 3 12 (15) 24 := ⟨by decide +kernel, rfl, by decide, by decide⟩
theorem d16_12 : Dc prog_10_method_3_code 12 (.iload_n 0) 1 13 := ⟨by decide +kernel, rfl⟩
theorem d16_13 : Dc prog_10_method_3_code 13 (.bipush 48) 2 15 := ⟨by decide +kernel, rfl⟩
theorem d16_15 : Db prog_10_method_3_code 15 (.if_icmp .lt 13) 3 18 (13) 28 := ⟨by decide +kernel, rfl, by decide, by decide⟩
theorem d16_18 : Dc prog_10_method_3_code 18 (.iload_n 0) 1 19 := ⟨by decide +kernel, rfl⟩
theorem d16_19 : Dc prog_10_method_3_code 19 (.bipush 57) 2 21 := ⟨by decide +kernel, rfl⟩
theorem d16_21 : Db prog_10_method_3_code 21 (.if_icmp .gt 7) 3 24 (7) 28 := ⟨by decide +kernel, rfl, by decide, by decide⟩
theorem d16_24 : Dc prog_10_method_3_code 24 (.iconst 1) 1 25 := ⟨by decide +kernel, rfl⟩
theorem d16_25 : Db prog_10_method_3_code 25 (.goto 4) 3 28 (4) 29 := ⟨by decide +kernel, rfl, by decide, by decide⟩
theorem d16_28 : Dc prog_10_method_3_code 28 (.iconst 0) 1 29 := ⟨by decide +kernel, rfl⟩
theorem d16_29 : Dc prog_10_method_3_code 29 (.ireturn) 1 30 := ⟨by decide +kernel, rfl⟩
theorem d17_0 : Dc jdk_52_method_14_code 0 (.iload_n 2) 1 1 := ⟨by decide +kernel, rfl⟩
theorem d17_1 : Dc jdk_52_method_14_code 1 (.invokestatic 107) 3 4 := ⟨by decide +kernel, rfl⟩
theorem d17_4 : Dc jdk_52_method_14_code 4 (.astore_n 3) 1 5 := ⟨by decide +kernel, rfl⟩
theorem d17_5 : Dc jdk_52_method_14_code 5 (.iconst 0) 1 6 := ⟨by decide +kernel, rfl⟩
theorem d17_6 : Dc jdk_52_method_14_code 6 (.istore 4) 2 8 := ⟨by decide +kernel, rfl⟩
theorem d17_8 : Dc jdk_52_method_14_code 8 (.iload 4) 2 10 := ⟨by decide +kernel, rfl⟩
theorem d17_10 : Dc jdk_52_method_14_code 10 (.iload_n 2) 1 11 := ⟨by decide +kernel, rfl⟩
theorem d17_11 : Db jdk_52_method_14_code 11 (.if_icmp .ge 21) 3 14 (21) 32 := ⟨by decide +kernel, rfl, by decide, by decide⟩
theorem d17_14 : Dc jdk_52_method_14_code 14 (.aload_n 3) 1 15 := ⟨by decide +kernel, rfl⟩
theorem d17_15 : Dc jdk_52_method_14_code 15 (.iload 4) 2 17 := ⟨by decide +kernel, rfl⟩
theorem d17_17 : Dc jdk_52_method_14_code 17 (.aload_n 0) 1 18 := ⟨by decide +kernel, rfl⟩
theorem d17_18 : Dc jdk_52_method_14_code 18 (.iload_n 1) 1 19 := ⟨by decide +kernel, rfl⟩
theorem d17_19 : Dc jdk_52_method_14_code 19 (.caload) 1 20 := ⟨by decide +kernel, rfl⟩
theorem d17_20 : Dc jdk_52_method_14_code 20 (.invokestatic 111) 3 23 := ⟨by decide +kernel, rfl⟩
theorem d17_23 : Dc jdk_52_method_14_code 23 (.iinc 1 1) 3 26 := ⟨by decide +kernel, rfl⟩
theorem d17_26 : Dc jdk_52_method_14_code 26 (.iinc 4 1) 3 29 := ⟨by decide +kernel, rfl⟩
theorem d17_29 : Db jdk_52_method_14_code 29 (.goto (-21)) 3 32 (-21) 8 := ⟨by decide +kernel, rfl, by decide, by decide⟩
theorem d17_32 : Dc jdk_52_method_14_code 32 (.aload_n 3) 1 33 := ⟨by decide +kernel, rfl⟩
theorem d17_33 : Dc jdk_52_method_14_code 33 (.areturn) 1 34 := ⟨by decide +kernel, rfl⟩
theorem d18_0 : Dc jdk_52_method_2_code 0 (.iload_n 0) 1 1 := ⟨by decide +kernel, rfl⟩
theorem d18_1 : Dc jdk_52_method_2_code 1 (.invokestatic 11) 3 4 := ⟨by decide +kernel, rfl⟩
theorem d18_4 : Dc jdk_52_method_2_code 4 (.newarray .byte) 2 6 := ⟨by decide +kernel, rfl⟩
theorem d18_6 : Dc jdk_52_method_2_code 6 (.areturn) 1 7 := ⟨by decide +kernel, rfl⟩
theorem d19_0 : Dc jdk_52_method_3_code 0 (.iload_n 0) 1 1 := ⟨by decide +kernel, rfl⟩
theorem d19_1 : Db jdk_52_method_3_code 1 (.ifCond .ge 11) 3 4 (11) 12 := ⟨by decide +kernel, rfl, by decide, by decide⟩
theorem d19_12 : Dc jdk_52_method_3_code 12 (.iload_n 0) 1 13 := ⟨by decide +kernel, rfl⟩
theorem d19_13 : Dc jdk_52_method_3_code 13 (.ldc 20) 2 15 := ⟨by decide +kernel, rfl⟩
theorem d19_15 : Db jdk_52_method_3_code 15 (.if_icmp .lt 40) 3 18 (40) 55 := ⟨by decide +kernel, rfl, by decide, by decide⟩
theorem d19_55 : Dc jdk_52_method_3_code 55 (.iload_n 0) 1 56 := ⟨by decide +kernel, rfl⟩
theorem d19_56 : Dc jdk_52_method_3_code 56 (.iconst 1) 1 57 := ⟨by decide +kernel, rfl⟩
theorem d19_57 : Dc jdk_52_method_3_code 57 (.ishl) 1 58 := ⟨by decide +kernel, rfl⟩
theorem d19_58 : Dc jdk_52_method_3_code 58 (.ireturn) 1 59 := ⟨by decide +kernel, rfl⟩
theorem d20_0 : Dc jdk_52_method_4_code 0 (.getstatic 44) 3 3 := ⟨by decide +kernel, rfl⟩
theorem d20_3 : Db jdk_52_method_4_code 3 (.ifCond .ne 25) 3 6 (25) 28 := ⟨by decide +kernel, rfl, by decide, by decide⟩
theorem d20_28 : Dc jdk_52_method_4_code 28 (.iload_n 1) 1 29 := ⟨by decide +kernel, rfl⟩
theorem d20_29 : Dc jdk_52_method_4_code 29 (.iconst 1) 1 30 := ⟨by decide +kernel, rfl⟩
theorem d20_30 : Dc jdk_52_method_4_code 30 (.ishl) 1 31 := ⟨by decide +kernel, rfl⟩
theorem d20_31 : Dc jdk_52_method_4_code 31 (.istore_n 1) 1 32 := ⟨by decide +kernel, rfl⟩
theorem d20_32 : Dc jdk_52_method_4_code 32 (.aload_n 0) 1 33 := ⟨by decide +kernel, rfl⟩
theorem d20_33 : Dc jdk_52_method_4_code 33 (.iload_n 1) 1 34 := ⟨by decide +kernel, rfl⟩
theorem d20_34 : Dc jdk_52_method_4_code 34 (.iinc 1 1) 3 37 := ⟨by decide +kernel, rfl⟩
theorem d20_37 : Dc jdk_52_method_4_code 37 (.iload_n 2) 1 38 := ⟨by decide +kernel, rfl⟩
theorem d20_38 : Dc jdk_52_method_4_code 38 (.getstatic 59) 3 41 := ⟨by decide +kernel, rfl⟩
theorem d20_41 : Dc jdk_52_method_4_code 41 (.ishr) 1 42 := ⟨by decide +kernel, rfl⟩
theorem d20_42 : Dc jdk_52_method_4_code 42 (.i2b) 1 43 := ⟨by decide +kernel, rfl⟩
theorem d20_43 : Dc jdk_52_method_4_code 43 (.bastore) 1 44 := ⟨by decide +kernel, rfl⟩
theorem d20_44 : Dc jdk_52_method_4_code 44 (.aload_n 0) 1 45 := ⟨by decide +kernel, rfl⟩
theorem d20_45 : Dc jdk_52_method_4_code 45 (.iload_n 1) 1 46 := ⟨by decide +kernel, rfl⟩
theorem d20_46 : Dc jdk_52_method_4_code 46 (.iload_n 2) 1 47 := ⟨by decide +kernel, rfl⟩
theorem d20_47 : Dc jdk_52_method_4_code 47 (.getstatic 63) 3 50 := ⟨by decide +kernel, rfl⟩
theorem d20_50 : Dc jdk_52_method_4_code 50 (.ishr) 1 51 := ⟨by decide +kernel, rfl⟩
theorem d20_51 : Dc jdk_52_method_4_code 51 (.i2b) 1 52 := ⟨by decide +kernel, rfl⟩
theorem d20_52 : Dc jdk_52_method_4_code 52 (.bastore) 1 53 := ⟨by decide +kernel, rfl⟩
theorem d20_53 : Dc jdk_52_method_4_code 53 (.return_) 1 54 := ⟨by decide +kernel, rfl⟩
theorem d21_0 : Dc jdk_52_method_5_code 0 (.getstatic 44) 3 3 := ⟨by decide +kernel, rfl⟩
theorem d21_3 : Db jdk_52_method_5_code 3 (.ifCond .ne 25) 3 6 (25) 28 := ⟨by decide +kernel, rfl, by decide, by decide⟩
theorem d21_28 : Dc jdk_52_method_5_code 28 (.iload_n 1) 1 29 := ⟨by decide +kernel, rfl⟩
theorem d21_29 : Dc jdk_52_method_5_code 29 (.iconst 1) 1 30 := ⟨by decide +kernel, rfl⟩
theorem d21_30 : Dc jdk_52_method_5_code 30 (.ishl) 1 31 := ⟨by decide +kernel, rfl⟩
theorem d21_31 : Dc jdk_52_method_5_code 31 (.istore_n 1) 1 32 := ⟨by decide +kernel, rfl⟩
theorem d21_32 : Dc jdk_52_method_5_code 32 (.aload_n 0) 1 33 := ⟨by decide +kernel, rfl⟩
theorem d21_33 : Dc jdk_52_method_5_code 33 (.iload_n 1) 1 34 := ⟨by decide +kernel, rfl⟩
theorem d21_34 : Dc jdk_52_method_5_code 34 (.iinc 1 1) 3 37 := ⟨by decide +kernel, rfl⟩
theorem d21_37 : Dc jdk_52_method_5_code 37 (.baload) 1 38 := ⟨by decide +kernel, rfl⟩
theorem d21_38 : Dc jdk_52_method_5_code 38 (.sipush 255) 3 41 := ⟨by decide +kernel, rfl⟩
theorem d21_41 : Dc jdk_52_method_5_code 41 (.iand) 1 42 := ⟨by decide +kernel, rfl⟩
theorem d21_42 : Dc jdk_52_method_5_code 42 (.getstatic 59) 3 45 := ⟨by decide +kernel, rfl⟩
theorem d21_45 : Dc jdk_52_method_5_code 45 (.ishl) 1 46 := ⟨by decide +kernel, rfl⟩
theorem d21_46 : Dc jdk_52_method_5_code 46 (.aload_n 0) 1 47 := ⟨by decide +kernel, rfl⟩
theorem d21_47 : Dc jdk_52_method_5_code 47 (.iload_n 1) 1 48 := ⟨by decide +kernel, rfl⟩
theorem d21_48 : Dc jdk_52_method_5_code 48 (.baload) 1 49 := ⟨by decide +kernel, rfl⟩
theorem d21_49 : Dc jdk_52_method_5_code 49 (.sipush 255) 3 52 := ⟨by decide +kernel, rfl⟩
theorem d21_52 : Dc jdk_52_method_5_code 52 (.iand) 1 53 := ⟨by decide +kernel, rfl⟩
theorem d21_53 : Dc jdk_52_method_5_code 53 (.getstatic 63) 3 56 := ⟨by decide +kernel, rfl⟩
theorem d21_56 : Dc jdk_52_method_5_code 56 (.ishl) 1 57 := ⟨by decide +kernel, rfl⟩
theorem d21_57 : Dc jdk_52_method_5_code 57 (.ior) 1 58 := ⟨by decide +kernel, rfl⟩
theorem d21_58 : Dc jdk_52_method_5_code 58 (.i2c) 1 59 := ⟨by decide +kernel, rfl⟩
theorem d21_59 : Dc jdk_52_method_5_code 59 (.ireturn) 1 60 := ⟨by decide +kernel, rfl⟩
theorem d22_0 : Dc jdk_52_method_83_code 0 (.iload_n 1) 1 1 := ⟨by decide +kernel, rfl⟩
theorem d22_1 : Dc jdk_52_method_83_code 1 (.aload_n 0) 1 2 := ⟨by decide +kernel, rfl⟩
theorem d22_2 : Dc jdk_52_method_83_code 2 (.invokestatic 67) 3 5 := ⟨by decide +kernel, rfl⟩
theorem d22_5 : Dc jdk_52_method_83_code 5 (.aload_n 0) 1 6 := ⟨by decide +kernel, rfl⟩
theorem d22_6 : Dc jdk_52_method_83_code 6 (.iload_n 1) 1 7 := ⟨by decide +kernel, rfl⟩
theorem d22_7 : Dc jdk_52_method_83_code 7 (.invokestatic 71) 3 10 := ⟨by decide +kernel, rfl⟩
theorem d22_10 : Dc jdk_52_method_83_code 10 (.ireturn) 1 11 := ⟨by decide +kernel, rfl⟩
theorem d23_0 : Dc jdk_52_method_91_code 0 (.iload_n 0) 1 1 := ⟨by decide +kernel, rfl⟩
theorem d23_1 : Dc jdk_52_method_91_code 1 (.aload_n 1) 1 2 := ⟨by decide +kernel, rfl⟩
theorem d23_2 : Dc jdk_52_method_91_code 2 (.invokestatic 48) 3 5 := ⟨by decide +kernel, rfl⟩
theorem d23_5 : Dc jdk_52_method_91_code 5 (.invokestatic 414) 3 8 := ⟨by decide +kernel, rfl⟩
theorem d23_8 : Dc jdk_52_method_91_code 8 (.return_) 1 9 := ⟨by decide +kernel, rfl⟩
theorem d24_0 : Dc jdk_52_method_6_code 0 (.aload_n 0) 1 1 := ⟨by decide +kernel, rfl⟩
theorem d24_1 : Dc jdk_52_method_6_code 1 (.arraylength) 1 2 := ⟨by decide +kernel, rfl⟩
theorem d24_2 : Dc jdk_52_method_6_code 2 (.iconst 1) 1 3 := ⟨by decide +kernel, rfl⟩
theorem d24_3 : Dc jdk_52_method_6_code 3 (.ishr) 1 4 := ⟨by decide +kernel, rfl⟩
theorem d24_4 : Dc jdk_52_method_6_code 4 (.ireturn) 1 5 := ⟨by decide +kernel, rfl⟩
theorem d25_0 : Dc method_5_code 0 (.sipush 129) 3 3 := ⟨by decide +kernel, rfl⟩
theorem d25_3 : Dc method_5_code 3 (.newarray .char) 2 5 := ⟨by decide +kernel, rfl⟩
theorem d25_5 : Dc method_5_code 5 (.dup) 1 6 := ⟨by decide +kernel, rfl⟩
theorem d25_6 : Dc method_5_code 6 (.iconst 0) 1 7 := ⟨by decide +kernel, rfl⟩
theorem d25_7 : Dc method_5_code 7 (.iload_n 0) 1 8 := ⟨by decide +kernel, rfl⟩
theorem d25_8 : Dc method_5_code 8 (.castore) 1 9 := ⟨by decide +kernel, rfl⟩
theorem d25_9 : Dc method_5_code 9 (.dup) 1 10 := ⟨by decide +kernel, rfl⟩
theorem d25_10 : Dc method_5_code 10 (.iconst 1) 1 11 := ⟨by decide +kernel, rfl⟩
theorem d25_11 : Dc method_5_code 11 (.iload_n 0) 1 12 := ⟨by decide +kernel, rfl⟩
theorem d25_12 : Dc method_5_code 12 (.castore) 1 13 := ⟨by decide +kernel, rfl⟩
theorem d25_13 : Dc method_5_code 13 (.dup) 1 14 := ⟨by decide +kernel, rfl⟩
theorem d25_14 : Dc method_5_code 14 (.iconst 2) 1 15 := ⟨by decide +kernel, rfl⟩
theorem d25_15 : Dc method_5_code 15 (.iload_n 0) 1 16 := ⟨by decide +kernel, rfl⟩
theorem d25_16 : Dc method_5_code 16 (.castore) 1 17 := ⟨by decide +kernel, rfl⟩
theorem d25_17 : Dc method_5_code 17 (.dup) 1 18 := ⟨by decide +kernel, rfl⟩
theorem d25_18 : Dc method_5_code 18 (.iconst 3) 1 19 := ⟨by decide +kernel, rfl⟩
theorem d25_19 : Dc method_5_code 19 (.iload_n 0) 1 20 := ⟨by decide +kernel, rfl⟩
theorem d25_20 : Dc method_5_code 20 (.castore) 1 21 := ⟨by decide +kernel, rfl⟩
theorem d25_21 : Dc method_5_code 21 (.dup) 1 22 := ⟨by decide +kernel, rfl⟩
theorem d25_22 : Dc method_5_code 22 (.iconst 4) 1 23 := ⟨by decide +kernel, rfl⟩
theorem d25_23 : Dc method_5_code 23 (.iload_n 0) 1 24 := ⟨by decide +kernel, rfl⟩
theorem d25_24 : Dc method_5_code 24 (.castore) 1 25 := ⟨by decide +kernel, rfl⟩
theorem d25_25 : Dc method_5_code 25 (.dup) 1 26 := ⟨by decide +kernel, rfl⟩
theorem d25_26 : Dc method_5_code 26 (.iconst 5) 1 27 := ⟨by decide +kernel, rfl⟩
theorem d25_27 : Dc method_5_code 27 (.iload_n 0) 1 28 := ⟨by decide +kernel, rfl⟩
theorem d25_28 : Dc method_5_code 28 (.castore) 1 29 := ⟨by decide +kernel, rfl⟩
theorem d25_29 : Dc method_5_code 29 (.dup) 1 30 := ⟨by decide +kernel, rfl⟩
theorem d25_30 : Dc method_5_code 30 (.bipush 6) 2 32 := ⟨by decide +kernel, rfl⟩
theorem d25_32 : Dc method_5_code 32 (.iload_n 0) 1 33 := ⟨by decide +kernel, rfl⟩
theorem d25_33 : Dc method_5_code 33 (.castore) 1 34 := ⟨by decide +kernel, rfl⟩
theorem d25_34 : Dc method_5_code 34 (.dup) 1 35 := ⟨by decide +kernel, rfl⟩
theorem d25_35 : Dc method_5_code 35 (.bipush 7) 2 37 := ⟨by decide +kernel, rfl⟩
theorem d25_37 : Dc method_5_code 37 (.iload_n 0) 1 38 := ⟨by decide +kernel, rfl⟩
theorem d25_38 : Dc method_5_code 38 (.castore) 1 39 := ⟨by decide +kernel, rfl⟩
theorem d25_39 : Dc method_5_code 39 (.dup) 1 40 := ⟨by decide +kernel, rfl⟩
theorem d25_40 : Dc method_5_code 40 (.bipush 8) 2 42 := ⟨by decide +kernel, rfl⟩
theorem d25_42 : Dc method_5_code 42 (.iload_n 0) 1 43 := ⟨by decide +kernel, rfl⟩
theorem d25_43 : Dc method_5_code 43 (.castore) 1 44 := ⟨by decide +kernel, rfl⟩
theorem d25_44 : Dc method_5_code 44 (.dup) 1 45 := ⟨by decide +kernel, rfl⟩
theorem d25_45 : Dc method_5_code 45 (.bipush 9) 2 47 := ⟨by decide +kernel, rfl⟩
theorem d25_47 : Dc method_5_code 47 (.iload_n 0) 1 48 := ⟨by decide +kernel, rfl⟩
theorem d25_48 : Dc method_5_code 48 (.castore) 1 49 := ⟨by decide +kernel, rfl⟩
theorem d25_49 : Dc method_5_code 49 (.dup) 1 50 := ⟨by decide +kernel, rfl⟩
theorem d25_50 : Dc method_5_code 50 (.bipush 10) 2 52 := ⟨by decide +kernel, rfl⟩
theorem d25_52 : Dc method_5_code 52 (.iload_n 0) 1 53 := ⟨by decide +kernel, rfl⟩
theorem d25_53 : Dc method_5_code 53 (.castore) 1 54 := ⟨by decide +kernel, rfl⟩
theorem d25_54 : Dc method_5_code 54 (.dup) 1 55 := ⟨by decide +kernel, rfl⟩
theorem d25_55 : Dc method_5_code 55 (.bipush 11) 2 57 := ⟨by decide +kernel, rfl⟩
theorem d25_57 : Dc method_5_code 57 (.iload_n 0) 1 58 := ⟨by decide +kernel, rfl⟩
theorem d25_58 : Dc method_5_code 58 (.castore) 1 59 := ⟨by decide +kernel, rfl⟩
theorem d25_59 : Dc method_5_code 59 (.dup) 1 60 := ⟨by decide +kernel, rfl⟩
theorem d25_60 : Dc method_5_code 60 (.bipush 12) 2 62 := ⟨by decide +kernel, rfl⟩
theorem d25_62 : Dc method_5_code 62 (.iload_n 0) 1 63 := ⟨by decide +kernel, rfl⟩
theorem d25_63 : Dc method_5_code 63 (.castore) 1 64 := ⟨by decide +kernel, rfl⟩
theorem d25_64 : Dc method_5_code 64 (.dup) 1 65 := ⟨by decide +kernel, rfl⟩
theorem d25_65 : Dc method_5_code 65 (.bipush 13) 2 67 := ⟨by decide +kernel, rfl⟩
theorem d25_67 : Dc method_5_code 67 (.iload_n 0) 1 68 := ⟨by decide +kernel, rfl⟩
theorem d25_68 : Dc method_5_code 68 (.castore) 1 69 := ⟨by decide +kernel, rfl⟩
theorem d25_69 : Dc method_5_code 69 (.dup) 1 70 := ⟨by decide +kernel, rfl⟩
theorem d25_70 : Dc method_5_code 70 (.bipush 14) 2 72 := ⟨by decide +kernel, rfl⟩
theorem d25_72 : Dc method_5_code 72 (.iload_n 0) 1 73 := ⟨by decide +kernel, rfl⟩
theorem d25_73 : Dc method_5_code 73 (.castore) 1 74 := ⟨by decide +kernel, rfl⟩
theorem d25_74 : Dc method_5_code 74 (.dup) 1 75 := ⟨by decide +kernel, rfl⟩
theorem d25_75 : Dc method_5_code 75 (.bipush 15) 2 77 := ⟨by decide +kernel, rfl⟩
theorem d25_77 : Dc method_5_code 77 (.iload_n 0) 1 78 := ⟨by decide +kernel, rfl⟩
theorem d25_78 : Dc method_5_code 78 (.castore) 1 79 := ⟨by decide +kernel, rfl⟩
theorem d25_79 : Dc method_5_code 79 (.dup) 1 80 := ⟨by decide +kernel, rfl⟩
theorem d25_80 : Dc method_5_code 80 (.bipush 16) 2 82 := ⟨by decide +kernel, rfl⟩
theorem d25_82 : Dc method_5_code 82 (.iload_n 0) 1 83 := ⟨by decide +kernel, rfl⟩
theorem d25_83 : Dc method_5_code 83 (.castore) 1 84 := ⟨by decide +kernel, rfl⟩
theorem d25_84 : Dc method_5_code 84 (.dup) 1 85 := ⟨by decide +kernel, rfl⟩
theorem d25_85 : Dc method_5_code 85 (.bipush 17) 2 87 := ⟨by decide +kernel, rfl⟩
theorem d25_87 : Dc method_5_code 87 (.iload_n 0) 1 88 := ⟨by decide +kernel, rfl⟩
theorem d25_88 : Dc method_5_code 88 (.castore) 1 89 := ⟨by decide +kernel, rfl⟩
theorem d25_89 : Dc method_5_code 89 (.dup) 1 90 := ⟨by decide +kernel, rfl⟩
theorem d25_90 : Dc method_5_code 90 (.bipush 18) 2 92 := ⟨by decide +kernel, rfl⟩
theorem d25_92 : Dc method_5_code 92 (.iload_n 0) 1 93 := ⟨by decide +kernel, rfl⟩
theorem d25_93 : Dc method_5_code 93 (.castore) 1 94 := ⟨by decide +kernel, rfl⟩
theorem d25_94 : Dc method_5_code 94 (.dup) 1 95 := ⟨by decide +kernel, rfl⟩
theorem d25_95 : Dc method_5_code 95 (.bipush 19) 2 97 := ⟨by decide +kernel, rfl⟩
theorem d25_97 : Dc method_5_code 97 (.iload_n 0) 1 98 := ⟨by decide +kernel, rfl⟩
theorem d25_98 : Dc method_5_code 98 (.castore) 1 99 := ⟨by decide +kernel, rfl⟩
theorem d25_99 : Dc method_5_code 99 (.dup) 1 100 := ⟨by decide +kernel, rfl⟩
theorem d25_100 : Dc method_5_code 100 (.bipush 20) 2 102 := ⟨by decide +kernel, rfl⟩
theorem d25_102 : Dc method_5_code 102 (.iload_n 0) 1 103 := ⟨by decide +kernel, rfl⟩
theorem d25_103 : Dc method_5_code 103 (.castore) 1 104 := ⟨by decide +kernel, rfl⟩
theorem d25_104 : Dc method_5_code 104 (.dup) 1 105 := ⟨by decide +kernel, rfl⟩
theorem d25_105 : Dc method_5_code 105 (.bipush 21) 2 107 := ⟨by decide +kernel, rfl⟩
theorem d25_107 : Dc method_5_code 107 (.iload_n 0) 1 108 := ⟨by decide +kernel, rfl⟩
theorem d25_108 : Dc method_5_code 108 (.castore) 1 109 := ⟨by decide +kernel, rfl⟩
theorem d25_109 : Dc method_5_code 109 (.dup) 1 110 := ⟨by decide +kernel, rfl⟩
theorem d25_110 : Dc method_5_code 110 (.bipush 22) 2 112 := ⟨by decide +kernel, rfl⟩
theorem d25_112 : Dc method_5_code 112 (.iload_n 0) 1 113 := ⟨by decide +kernel, rfl⟩
theorem d25_113 : Dc method_5_code 113 (.castore) 1 114 := ⟨by decide +kernel, rfl⟩
theorem d25_114 : Dc method_5_code 114 (.dup) 1 115 := ⟨by decide +kernel, rfl⟩
theorem d25_115 : Dc method_5_code 115 (.bipush 23) 2 117 := ⟨by decide +kernel, rfl⟩
theorem d25_117 : Dc method_5_code 117 (.iload_n 0) 1 118 := ⟨by decide +kernel, rfl⟩
theorem d25_118 : Dc method_5_code 118 (.castore) 1 119 := ⟨by decide +kernel, rfl⟩
theorem d25_119 : Dc method_5_code 119 (.dup) 1 120 := ⟨by decide +kernel, rfl⟩
theorem d25_120 : Dc method_5_code 120 (.bipush 24) 2 122 := ⟨by decide +kernel, rfl⟩
theorem d25_122 : Dc method_5_code 122 (.iload_n 0) 1 123 := ⟨by decide +kernel, rfl⟩
theorem d25_123 : Dc method_5_code 123 (.castore) 1 124 := ⟨by decide +kernel, rfl⟩
theorem d25_124 : Dc method_5_code 124 (.dup) 1 125 := ⟨by decide +kernel, rfl⟩
theorem d25_125 : Dc method_5_code 125 (.bipush 25) 2 127 := ⟨by decide +kernel, rfl⟩
theorem d25_127 : Dc method_5_code 127 (.iload_n 0) 1 128 := ⟨by decide +kernel, rfl⟩
theorem d25_128 : Dc method_5_code 128 (.castore) 1 129 := ⟨by decide +kernel, rfl⟩
theorem d25_129 : Dc method_5_code 129 (.dup) 1 130 := ⟨by decide +kernel, rfl⟩
theorem d25_130 : Dc method_5_code 130 (.bipush 26) 2 132 := ⟨by decide +kernel, rfl⟩
theorem d25_132 : Dc method_5_code 132 (.iload_n 0) 1 133 := ⟨by decide +kernel, rfl⟩
theorem d25_133 : Dc method_5_code 133 (.castore) 1 134 := ⟨by decide +kernel, rfl⟩
theorem d25_134 : Dc method_5_code 134 (.dup) 1 135 := ⟨by decide +kernel, rfl⟩
theorem d25_135 : Dc method_5_code 135 (.bipush 27) 2 137 := ⟨by decide +kernel, rfl⟩
theorem d25_137 : Dc method_5_code 137 (.iload_n 0) 1 138 := ⟨by decide +kernel, rfl⟩
theorem d25_138 : Dc method_5_code 138 (.castore) 1 139 := ⟨by decide +kernel, rfl⟩
theorem d25_139 : Dc method_5_code 139 (.dup) 1 140 := ⟨by decide +kernel, rfl⟩
theorem d25_140 : Dc method_5_code 140 (.bipush 28) 2 142 := ⟨by decide +kernel, rfl⟩
theorem d25_142 : Dc method_5_code 142 (.iload_n 0) 1 143 := ⟨by decide +kernel, rfl⟩
theorem d25_143 : Dc method_5_code 143 (.castore) 1 144 := ⟨by decide +kernel, rfl⟩
theorem d25_144 : Dc method_5_code 144 (.dup) 1 145 := ⟨by decide +kernel, rfl⟩
theorem d25_145 : Dc method_5_code 145 (.bipush 29) 2 147 := ⟨by decide +kernel, rfl⟩
theorem d25_147 : Dc method_5_code 147 (.iload_n 0) 1 148 := ⟨by decide +kernel, rfl⟩
theorem d25_148 : Dc method_5_code 148 (.castore) 1 149 := ⟨by decide +kernel, rfl⟩
theorem d25_149 : Dc method_5_code 149 (.dup) 1 150 := ⟨by decide +kernel, rfl⟩
theorem d25_150 : Dc method_5_code 150 (.bipush 30) 2 152 := ⟨by decide +kernel, rfl⟩
theorem d25_152 : Dc method_5_code 152 (.iload_n 0) 1 153 := ⟨by decide +kernel, rfl⟩
theorem d25_153 : Dc method_5_code 153 (.castore) 1 154 := ⟨by decide +kernel, rfl⟩
theorem d25_154 : Dc method_5_code 154 (.dup) 1 155 := ⟨by decide +kernel, rfl⟩
theorem d25_155 : Dc method_5_code 155 (.bipush 31) 2 157 := ⟨by decide +kernel, rfl⟩
theorem d25_157 : Dc method_5_code 157 (.iload_n 0) 1 158 := ⟨by decide +kernel, rfl⟩
theorem d25_158 : Dc method_5_code 158 (.castore) 1 159 := ⟨by decide +kernel, rfl⟩
theorem d25_159 : Dc method_5_code 159 (.dup) 1 160 := ⟨by decide +kernel, rfl⟩
theorem d25_160 : Dc method_5_code 160 (.bipush 32) 2 162 := ⟨by decide +kernel, rfl⟩
theorem d25_162 : Dc method_5_code 162 (.iload_n 0) 1 163 := ⟨by decide +kernel, rfl⟩
theorem d25_163 : Dc method_5_code 163 (.castore) 1 164 := ⟨by decide +kernel, rfl⟩
theorem d25_164 : Dc method_5_code 164 (.dup) 1 165 := ⟨by decide +kernel, rfl⟩
theorem d25_165 : Dc method_5_code 165 (.bipush 33) 2 167 := ⟨by decide +kernel, rfl⟩
theorem d25_167 : Dc method_5_code 167 (.iload_n 0) 1 168 := ⟨by decide +kernel, rfl⟩
theorem d25_168 : Dc method_5_code 168 (.castore) 1 169 := ⟨by decide +kernel, rfl⟩
theorem d25_169 : Dc method_5_code 169 (.dup) 1 170 := ⟨by decide +kernel, rfl⟩
theorem d25_170 : Dc method_5_code 170 (.bipush 34) 2 172 := ⟨by decide +kernel, rfl⟩
theorem d25_172 : Dc method_5_code 172 (.iload_n 0) 1 173 := ⟨by decide +kernel, rfl⟩
theorem d25_173 : Dc method_5_code 173 (.castore) 1 174 := ⟨by decide +kernel, rfl⟩
theorem d25_174 : Dc method_5_code 174 (.dup) 1 175 := ⟨by decide +kernel, rfl⟩
theorem d25_175 : Dc method_5_code 175 (.bipush 35) 2 177 := ⟨by decide +kernel, rfl⟩
theorem d25_177 : Dc method_5_code 177 (.iload_n 0) 1 178 := ⟨by decide +kernel, rfl⟩
theorem d25_178 : Dc method_5_code 178 (.castore) 1 179 := ⟨by decide +kernel, rfl⟩
theorem d25_179 : Dc method_5_code 179 (.dup) 1 180 := ⟨by decide +kernel, rfl⟩
theorem d25_180 : Dc method_5_code 180 (.bipush 36) 2 182 := ⟨by decide +kernel, rfl⟩
theorem d25_182 : Dc method_5_code 182 (.iload_n 0) 1 183 := ⟨by decide +kernel, rfl⟩
theorem d25_183 : Dc method_5_code 183 (.castore) 1 184 := ⟨by decide +kernel, rfl⟩
theorem d25_184 : Dc method_5_code 184 (.dup) 1 185 := ⟨by decide +kernel, rfl⟩
theorem d25_185 : Dc method_5_code 185 (.bipush 37) 2 187 := ⟨by decide +kernel, rfl⟩
theorem d25_187 : Dc method_5_code 187 (.iload_n 0) 1 188 := ⟨by decide +kernel, rfl⟩
theorem d25_188 : Dc method_5_code 188 (.castore) 1 189 := ⟨by decide +kernel, rfl⟩
theorem d25_189 : Dc method_5_code 189 (.dup) 1 190 := ⟨by decide +kernel, rfl⟩
theorem d25_190 : Dc method_5_code 190 (.bipush 38) 2 192 := ⟨by decide +kernel, rfl⟩
theorem d25_192 : Dc method_5_code 192 (.iload_n 0) 1 193 := ⟨by decide +kernel, rfl⟩
theorem d25_193 : Dc method_5_code 193 (.castore) 1 194 := ⟨by decide +kernel, rfl⟩
theorem d25_194 : Dc method_5_code 194 (.dup) 1 195 := ⟨by decide +kernel, rfl⟩
theorem d25_195 : Dc method_5_code 195 (.bipush 39) 2 197 := ⟨by decide +kernel, rfl⟩
theorem d25_197 : Dc method_5_code 197 (.iload_n 0) 1 198 := ⟨by decide +kernel, rfl⟩
theorem d25_198 : Dc method_5_code 198 (.castore) 1 199 := ⟨by decide +kernel, rfl⟩
theorem d25_199 : Dc method_5_code 199 (.dup) 1 200 := ⟨by decide +kernel, rfl⟩
theorem d25_200 : Dc method_5_code 200 (.bipush 40) 2 202 := ⟨by decide +kernel, rfl⟩
theorem d25_202 : Dc method_5_code 202 (.iload_n 0) 1 203 := ⟨by decide +kernel, rfl⟩
theorem d25_203 : Dc method_5_code 203 (.castore) 1 204 := ⟨by decide +kernel, rfl⟩
theorem d25_204 : Dc method_5_code 204 (.dup) 1 205 := ⟨by decide +kernel, rfl⟩
theorem d25_205 : Dc method_5_code 205 (.bipush 41) 2 207 := ⟨by decide +kernel, rfl⟩
theorem d25_207 : Dc method_5_code 207 (.iload_n 0) 1 208 := ⟨by decide +kernel, rfl⟩
theorem d25_208 : Dc method_5_code 208 (.castore) 1 209 := ⟨by decide +kernel, rfl⟩
theorem d25_209 : Dc method_5_code 209 (.dup) 1 210 := ⟨by decide +kernel, rfl⟩
theorem d25_210 : Dc method_5_code 210 (.bipush 42) 2 212 := ⟨by decide +kernel, rfl⟩
theorem d25_212 : Dc method_5_code 212 (.iload_n 0) 1 213 := ⟨by decide +kernel, rfl⟩
theorem d25_213 : Dc method_5_code 213 (.castore) 1 214 := ⟨by decide +kernel, rfl⟩
theorem d25_214 : Dc method_5_code 214 (.dup) 1 215 := ⟨by decide +kernel, rfl⟩
theorem d25_215 : Dc method_5_code 215 (.bipush 43) 2 217 := ⟨by decide +kernel, rfl⟩
theorem d25_217 : Dc method_5_code 217 (.iload_n 0) 1 218 := ⟨by decide +kernel, rfl⟩
theorem d25_218 : Dc method_5_code 218 (.castore) 1 219 := ⟨by decide +kernel, rfl⟩
theorem d25_219 : Dc method_5_code 219 (.dup) 1 220 := ⟨by decide +kernel, rfl⟩
theorem d25_220 : Dc method_5_code 220 (.bipush 44) 2 222 := ⟨by decide +kernel, rfl⟩
theorem d25_222 : Dc method_5_code 222 (.iload_n 0) 1 223 := ⟨by decide +kernel, rfl⟩
theorem d25_223 : Dc method_5_code 223 (.castore) 1 224 := ⟨by decide +kernel, rfl⟩
theorem d25_224 : Dc method_5_code 224 (.dup) 1 225 := ⟨by decide +kernel, rfl⟩
theorem d25_225 : Dc method_5_code 225 (.bipush 45) 2 227 := ⟨by decide +kernel, rfl⟩
theorem d25_227 : Dc method_5_code 227 (.iload_n 0) 1 228 := ⟨by decide +kernel, rfl⟩
theorem d25_228 : Dc method_5_code 228 (.castore) 1 229 := ⟨by decide +kernel, rfl⟩
theorem d25_229 : Dc method_5_code 229 (.dup) 1 230 := ⟨by decide +kernel, rfl⟩
theorem d25_230 : Dc method_5_code 230 (.bipush 46) 2 232 := ⟨by decide +kernel, rfl⟩
theorem d25_232 : Dc method_5_code 232 (.iload_n 0) 1 233 := ⟨by decide +kernel, rfl⟩
theorem d25_233 : Dc method_5_code 233 (.castore) 1 234 := ⟨by decide +kernel, rfl⟩
theorem d25_234 : Dc method_5_code 234 (.dup) 1 235 := ⟨by decide +kernel, rfl⟩
theorem d25_235 : Dc method_5_code 235 (.bipush 47) 2 237 := ⟨by decide +kernel, rfl⟩
theorem d25_237 : Dc method_5_code 237 (.iload_n 0) 1 238 := ⟨by decide +kernel, rfl⟩
theorem d25_238 : Dc method_5_code 238 (.castore) 1 239 := ⟨by decide +kernel, rfl⟩
theorem d25_239 : Dc method_5_code 239 (.dup) 1 240 := ⟨by decide +kernel, rfl⟩
theorem d25_240 : Dc method_5_code 240 (.bipush 48) 2 242 := ⟨by decide +kernel, rfl⟩
theorem d25_242 : Dc method_5_code 242 (.iload_n 0) 1 243 := ⟨by decide +kernel, rfl⟩
theorem d25_243 : Dc method_5_code 243 (.castore) 1 244 := ⟨by decide +kernel, rfl⟩
theorem d25_244 : Dc method_5_code 244 (.dup) 1 245 := ⟨by decide +kernel, rfl⟩
theorem d25_245 : Dc method_5_code 245 (.bipush 49) 2 247 := ⟨by decide +kernel, rfl⟩
theorem d25_247 : Dc method_5_code 247 (.iload_n 0) 1 248 := ⟨by decide +kernel, rfl⟩
theorem d25_248 : Dc method_5_code 248 (.castore) 1 249 := ⟨by decide +kernel, rfl⟩
theorem d25_249 : Dc method_5_code 249 (.dup) 1 250 := ⟨by decide +kernel, rfl⟩
theorem d25_250 : Dc method_5_code 250 (.bipush 50) 2 252 := ⟨by decide +kernel, rfl⟩
theorem d25_252 : Dc method_5_code 252 (.iload_n 0) 1 253 := ⟨by decide +kernel, rfl⟩
theorem d25_253 : Dc method_5_code 253 (.castore) 1 254 := ⟨by decide +kernel, rfl⟩
theorem d25_254 : Dc method_5_code 254 (.dup) 1 255 := ⟨by decide +kernel, rfl⟩
theorem d25_255 : Dc method_5_code 255 (.bipush 51) 2 257 := ⟨by decide +kernel, rfl⟩
theorem d25_257 : Dc method_5_code 257 (.iload_n 0) 1 258 := ⟨by decide +kernel, rfl⟩
theorem d25_258 : Dc method_5_code 258 (.castore) 1 259 := ⟨by decide +kernel, rfl⟩
theorem d25_259 : Dc method_5_code 259 (.dup) 1 260 := ⟨by decide +kernel, rfl⟩
theorem d25_260 : Dc method_5_code 260 (.bipush 52) 2 262 := ⟨by decide +kernel, rfl⟩
theorem d25_262 : Dc method_5_code 262 (.iload_n 0) 1 263 := ⟨by decide +kernel, rfl⟩
theorem d25_263 : Dc method_5_code 263 (.castore) 1 264 := ⟨by decide +kernel, rfl⟩
theorem d25_264 : Dc method_5_code 264 (.dup) 1 265 := ⟨by decide +kernel, rfl⟩
theorem d25_265 : Dc method_5_code 265 (.bipush 53) 2 267 := ⟨by decide +kernel, rfl⟩
theorem d25_267 : Dc method_5_code 267 (.iload_n 0) 1 268 := ⟨by decide +kernel, rfl⟩
theorem d25_268 : Dc method_5_code 268 (.castore) 1 269 := ⟨by decide +kernel, rfl⟩
theorem d25_269 : Dc method_5_code 269 (.dup) 1 270 := ⟨by decide +kernel, rfl⟩
theorem d25_270 : Dc method_5_code 270 (.bipush 54) 2 272 := ⟨by decide +kernel, rfl⟩
theorem d25_272 : Dc method_5_code 272 (.iload_n 0) 1 273 := ⟨by decide +kernel, rfl⟩
theorem d25_273 : Dc method_5_code 273 (.castore) 1 274 := ⟨by decide +kernel, rfl⟩
theorem d25_274 : Dc method_5_code 274 (.dup) 1 275 := ⟨by decide +kernel, rfl⟩
theorem d25_275 : Dc method_5_code 275 (.bipush 55) 2 277 := ⟨by decide +kernel, rfl⟩
theorem d25_277 : Dc method_5_code 277 (.iload_n 0) 1 278 := ⟨by decide +kernel, rfl⟩
theorem d25_278 : Dc method_5_code 278 (.castore) 1 279 := ⟨by decide +kernel, rfl⟩
theorem d25_279 : Dc method_5_code 279 (.dup) 1 280 := ⟨by decide +kernel, rfl⟩
theorem d25_280 : Dc method_5_code 280 (.bipush 56) 2 282 := ⟨by decide +kernel, rfl⟩
theorem d25_282 : Dc method_5_code 282 (.iload_n 0) 1 283 := ⟨by decide +kernel, rfl⟩
theorem d25_283 : Dc method_5_code 283 (.castore) 1 284 := ⟨by decide +kernel, rfl⟩
theorem d25_284 : Dc method_5_code 284 (.dup) 1 285 := ⟨by decide +kernel, rfl⟩
theorem d25_285 : Dc method_5_code 285 (.bipush 57) 2 287 := ⟨by decide +kernel, rfl⟩
theorem d25_287 : Dc method_5_code 287 (.iload_n 0) 1 288 := ⟨by decide +kernel, rfl⟩
theorem d25_288 : Dc method_5_code 288 (.castore) 1 289 := ⟨by decide +kernel, rfl⟩
theorem d25_289 : Dc method_5_code 289 (.dup) 1 290 := ⟨by decide +kernel, rfl⟩
theorem d25_290 : Dc method_5_code 290 (.bipush 58) 2 292 := ⟨by decide +kernel, rfl⟩
theorem d25_292 : Dc method_5_code 292 (.iload_n 0) 1 293 := ⟨by decide +kernel, rfl⟩
theorem d25_293 : Dc method_5_code 293 (.castore) 1 294 := ⟨by decide +kernel, rfl⟩
theorem d25_294 : Dc method_5_code 294 (.dup) 1 295 := ⟨by decide +kernel, rfl⟩
theorem d25_295 : Dc method_5_code 295 (.bipush 59) 2 297 := ⟨by decide +kernel, rfl⟩
theorem d25_297 : Dc method_5_code 297 (.iload_n 0) 1 298 := ⟨by decide +kernel, rfl⟩
theorem d25_298 : Dc method_5_code 298 (.castore) 1 299 := ⟨by decide +kernel, rfl⟩
theorem d25_299 : Dc method_5_code 299 (.dup) 1 300 := ⟨by decide +kernel, rfl⟩
theorem d25_300 : Dc method_5_code 300 (.bipush 60) 2 302 := ⟨by decide +kernel, rfl⟩
theorem d25_302 : Dc method_5_code 302 (.iload_n 0) 1 303 := ⟨by decide +kernel, rfl⟩
theorem d25_303 : Dc method_5_code 303 (.castore) 1 304 := ⟨by decide +kernel, rfl⟩
theorem d25_304 : Dc method_5_code 304 (.dup) 1 305 := ⟨by decide +kernel, rfl⟩
theorem d25_305 : Dc method_5_code 305 (.bipush 61) 2 307 := ⟨by decide +kernel, rfl⟩
theorem d25_307 : Dc method_5_code 307 (.iload_n 0) 1 308 := ⟨by decide +kernel, rfl⟩
theorem d25_308 : Dc method_5_code 308 (.castore) 1 309 := ⟨by decide +kernel, rfl⟩
theorem d25_309 : Dc method_5_code 309 (.dup) 1 310 := ⟨by decide +kernel, rfl⟩
theorem d25_310 : Dc method_5_code 310 (.bipush 62) 2 312 := ⟨by decide +kernel, rfl⟩
theorem d25_312 : Dc method_5_code 312 (.iload_n 0) 1 313 := ⟨by decide +kernel, rfl⟩
theorem d25_313 : Dc method_5_code 313 (.castore) 1 314 := ⟨by decide +kernel, rfl⟩
theorem d25_314 : Dc method_5_code 314 (.dup) 1 315 := ⟨by decide +kernel, rfl⟩
theorem d25_315 : Dc method_5_code 315 (.bipush 63) 2 317 := ⟨by decide +kernel, rfl⟩
theorem d25_317 : Dc method_5_code 317 (.iload_n 0) 1 318 := ⟨by decide +kernel, rfl⟩
theorem d25_318 : Dc method_5_code 318 (.castore) 1 319 := ⟨by decide +kernel, rfl⟩
theorem d25_319 : Dc method_5_code 319 (.dup) 1 320 := ⟨by decide +kernel, rfl⟩
theorem d25_320 : Dc method_5_code 320 (.bipush 64) 2 322 := ⟨by decide +kernel, rfl⟩
theorem d25_322 : Dc method_5_code 322 (.iload_n 0) 1 323 := ⟨by decide +kernel, rfl⟩
theorem d25_323 : Dc method_5_code 323 (.castore) 1 324 := ⟨by decide +kernel, rfl⟩
theorem d25_324 : Dc method_5_code 324 (.dup) 1 325 := ⟨by decide +kernel, rfl⟩
theorem d25_325 : Dc method_5_code 325 (.bipush 65) 2 327 := ⟨by decide +kernel, rfl⟩
theorem d25_327 : Dc method_5_code 327 (.iload_n 0) 1 328 := ⟨by decide +kernel, rfl⟩
theorem d25_328 : Dc method_5_code 328 (.castore) 1 329 := ⟨by decide +kernel, rfl⟩
theorem d25_329 : Dc method_5_code 329 (.dup) 1 330 := ⟨by decide +kernel, rfl⟩
theorem d25_330 : Dc method_5_code 330 (.bipush 66) 2 332 := ⟨by decide +kernel, rfl⟩
theorem d25_332 : Dc method_5_code 332 (.iload_n 0) 1 333 := ⟨by decide +kernel, rfl⟩
theorem d25_333 : Dc method_5_code 333 (.castore) 1 334 := ⟨by decide +kernel, rfl⟩
theorem d25_334 : Dc method_5_code 334 (.dup) 1 335 := ⟨by decide +kernel, rfl⟩
theorem d25_335 : Dc method_5_code 335 (.bipush 67) 2 337 := ⟨by decide +kernel, rfl⟩
theorem d25_337 : Dc method_5_code 337 (.iload_n 0) 1 338 := ⟨by decide +kernel, rfl⟩
theorem d25_338 : Dc method_5_code 338 (.castore) 1 339 := ⟨by decide +kernel, rfl⟩
theorem d25_339 : Dc method_5_code 339 (.dup) 1 340 := ⟨by decide +kernel, rfl⟩
theorem d25_340 : Dc method_5_code 340 (.bipush 68) 2 342 := ⟨by decide +kernel, rfl⟩
theorem d25_342 : Dc method_5_code 342 (.iload_n 0) 1 343 := ⟨by decide +kernel, rfl⟩
theorem d25_343 : Dc method_5_code 343 (.castore) 1 344 := ⟨by decide +kernel, rfl⟩
theorem d25_344 : Dc method_5_code 344 (.dup) 1 345 := ⟨by decide +kernel, rfl⟩
theorem d25_345 : Dc method_5_code 345 (.bipush 69) 2 347 := ⟨by decide +kernel, rfl⟩
theorem d25_347 : Dc method_5_code 347 (.iload_n 0) 1 348 := ⟨by decide +kernel, rfl⟩
theorem d25_348 : Dc method_5_code 348 (.castore) 1 349 := ⟨by decide +kernel, rfl⟩
theorem d25_349 : Dc method_5_code 349 (.dup) 1 350 := ⟨by decide +kernel, rfl⟩
theorem d25_350 : Dc method_5_code 350 (.bipush 70) 2 352 := ⟨by decide +kernel, rfl⟩
theorem d25_352 : Dc method_5_code 352 (.iload_n 0) 1 353 := ⟨by decide +kernel, rfl⟩
theorem d25_353 : Dc method_5_code 353 (.castore) 1 354 := ⟨by decide +kernel, rfl⟩
theorem d25_354 : Dc method_5_code 354 (.dup) 1 355 := ⟨by decide +kernel, rfl⟩
theorem d25_355 : Dc method_5_code 355 (.bipush 71) 2 357 := ⟨by decide +kernel, rfl⟩
theorem d25_357 : Dc method_5_code 357 (.iload_n 0) 1 358 := ⟨by decide +kernel, rfl⟩
theorem d25_358 : Dc method_5_code 358 (.castore) 1 359 := ⟨by decide +kernel, rfl⟩
theorem d25_359 : Dc method_5_code 359 (.dup) 1 360 := ⟨by decide +kernel, rfl⟩
theorem d25_360 : Dc method_5_code 360 (.bipush 72) 2 362 := ⟨by decide +kernel, rfl⟩
theorem d25_362 : Dc method_5_code 362 (.iload_n 0) 1 363 := ⟨by decide +kernel, rfl⟩
theorem d25_363 : Dc method_5_code 363 (.castore) 1 364 := ⟨by decide +kernel, rfl⟩
theorem d25_364 : Dc method_5_code 364 (.dup) 1 365 := ⟨by decide +kernel, rfl⟩
theorem d25_365 : Dc method_5_code 365 (.bipush 73) 2 367 := ⟨by decide +kernel, rfl⟩
theorem d25_367 : Dc method_5_code 367 (.iload_n 0) 1 368 := ⟨by decide +kernel, rfl⟩
theorem d25_368 : Dc method_5_code 368 (.castore) 1 369 := ⟨by decide +kernel, rfl⟩
theorem d25_369 : Dc method_5_code 369 (.dup) 1 370 := ⟨by decide +kernel, rfl⟩
theorem d25_370 : Dc method_5_code 370 (.bipush 74) 2 372 := ⟨by decide +kernel, rfl⟩
theorem d25_372 : Dc method_5_code 372 (.iload_n 0) 1 373 := ⟨by decide +kernel, rfl⟩
theorem d25_373 : Dc method_5_code 373 (.castore) 1 374 := ⟨by decide +kernel, rfl⟩
theorem d25_374 : Dc method_5_code 374 (.dup) 1 375 := ⟨by decide +kernel, rfl⟩
theorem d25_375 : Dc method_5_code 375 (.bipush 75) 2 377 := ⟨by decide +kernel, rfl⟩
theorem d25_377 : Dc method_5_code 377 (.iload_n 0) 1 378 := ⟨by decide +kernel, rfl⟩
theorem d25_378 : Dc method_5_code 378 (.castore) 1 379 := ⟨by decide +kernel, rfl⟩
theorem d25_379 : Dc method_5_code 379 (.dup) 1 380 := ⟨by decide +kernel, rfl⟩
theorem d25_380 : Dc method_5_code 380 (.bipush 76) 2 382 := ⟨by decide +kernel, rfl⟩
theorem d25_382 : Dc method_5_code 382 (.iload_n 0) 1 383 := ⟨by decide +kernel, rfl⟩
theorem d25_383 : Dc method_5_code 383 (.castore) 1 384 := ⟨by decide +kernel, rfl⟩
theorem d25_384 : Dc method_5_code 384 (.dup) 1 385 := ⟨by decide +kernel, rfl⟩
theorem d25_385 : Dc method_5_code 385 (.bipush 77) 2 387 := ⟨by decide +kernel, rfl⟩
theorem d25_387 : Dc method_5_code 387 (.iload_n 0) 1 388 := ⟨by decide +kernel, rfl⟩
theorem d25_388 : Dc method_5_code 388 (.castore) 1 389 := ⟨by decide +kernel, rfl⟩
theorem d25_389 : Dc method_5_code 389 (.dup) 1 390 := ⟨by decide +kernel, rfl⟩
theorem d25_390 : Dc method_5_code 390 (.bipush 78) 2 392 := ⟨by decide +kernel, rfl⟩
theorem d25_392 : Dc method_5_code 392 (.iload_n 0) 1 393 := ⟨by decide +kernel, rfl⟩
theorem d25_393 : Dc method_5_code 393 (.castore) 1 394 := ⟨by decide +kernel, rfl⟩
theorem d25_394 : Dc method_5_code 394 (.dup) 1 395 := ⟨by decide +kernel, rfl⟩
theorem d25_395 : Dc method_5_code 395 (.bipush 79) 2 397 := ⟨by decide +kernel, rfl⟩
theorem d25_397 : Dc method_5_code 397 (.iload_n 0) 1 398 := ⟨by decide +kernel, rfl⟩
theorem d25_398 : Dc method_5_code 398 (.castore) 1 399 := ⟨by decide +kernel, rfl⟩
theorem d25_399 : Dc method_5_code 399 (.dup) 1 400 := ⟨by decide +kernel, rfl⟩
theorem d25_400 : Dc method_5_code 400 (.bipush 80) 2 402 := ⟨by decide +kernel, rfl⟩
theorem d25_402 : Dc method_5_code 402 (.iload_n 0) 1 403 := ⟨by decide +kernel, rfl⟩
theorem d25_403 : Dc method_5_code 403 (.castore) 1 404 := ⟨by decide +kernel, rfl⟩
theorem d25_404 : Dc method_5_code 404 (.dup) 1 405 := ⟨by decide +kernel, rfl⟩
theorem d25_405 : Dc method_5_code 405 (.bipush 81) 2 407 := ⟨by decide +kernel, rfl⟩
theorem d25_407 : Dc method_5_code 407 (.iload_n 0) 1 408 := ⟨by decide +kernel, rfl⟩
theorem d25_408 : Dc method_5_code 408 (.castore) 1 409 := ⟨by decide +kernel, rfl⟩
theorem d25_409 : Dc method_5_code 409 (.dup) 1 410 := ⟨by decide +kernel, rfl⟩
theorem d25_410 : Dc method_5_code 410 (.bipush 82) 2 412 := ⟨by decide +kernel, rfl⟩
theorem d25_412 : Dc method_5_code 412 (.iload_n 0) 1 413 := ⟨by decide +kernel, rfl⟩
theorem d25_413 : Dc method_5_code 413 (.castore) 1 414 := ⟨by decide +kernel, rfl⟩
theorem d25_414 : Dc method_5_code 414 (.dup) 1 415 := ⟨by decide +kernel, rfl⟩
theorem d25_415 : Dc method_5_code 415 (.bipush 83) 2 417 := ⟨by decide +kernel, rfl⟩
theorem d25_417 : Dc method_5_code 417 (.iload_n 0) 1 418 := ⟨by decide +kernel, rfl⟩
theorem d25_418 : Dc method_5_code 418 (.castore) 1 419 := ⟨by decide +kernel, rfl⟩
theorem d25_419 : Dc method_5_code 419 (.dup) 1 420 := ⟨by decide +kernel, rfl⟩
theorem d25_420 : Dc method_5_code 420 (.bipush 84) 2 422 := ⟨by decide +kernel, rfl⟩
theorem d25_422 : Dc method_5_code 422 (.iload_n 0) 1 423 := ⟨by decide +kernel, rfl⟩
theorem d25_423 : Dc method_5_code 423 (.castore) 1 424 := ⟨by decide +kernel, rfl⟩
theorem d25_424 : Dc method_5_code 424 (.dup) 1 425 := ⟨by decide +kernel, rfl⟩
theorem d25_425 : Dc method_5_code 425 (.bipush 85) 2 427 := ⟨by decide +kernel, rfl⟩
theorem d25_427 : Dc method_5_code 427 (.iload_n 0) 1 428 := ⟨by decide +kernel, rfl⟩
theorem d25_428 : Dc method_5_code 428 (.castore) 1 429 := ⟨by decide +kernel, rfl⟩
theorem d25_429 : Dc method_5_code 429 (.dup) 1 430 := ⟨by decide +kernel, rfl⟩
theorem d25_430 : Dc method_5_code 430 (.bipush 86) 2 432 := ⟨by decide +kernel, rfl⟩
theorem d25_432 : Dc method_5_code 432 (.iload_n 0) 1 433 := ⟨by decide +kernel, rfl⟩
theorem d25_433 : Dc method_5_code 433 (.castore) 1 434 := ⟨by decide +kernel, rfl⟩
theorem d25_434 : Dc method_5_code 434 (.dup) 1 435 := ⟨by decide +kernel, rfl⟩
theorem d25_435 : Dc method_5_code 435 (.bipush 87) 2 437 := ⟨by decide +kernel, rfl⟩
theorem d25_437 : Dc method_5_code 437 (.iload_n 0) 1 438 := ⟨by decide +kernel, rfl⟩
theorem d25_438 : Dc method_5_code 438 (.castore) 1 439 := ⟨by decide +kernel, rfl⟩
theorem d25_439 : Dc method_5_code 439 (.dup) 1 440 := ⟨by decide +kernel, rfl⟩
theorem d25_440 : Dc method_5_code 440 (.bipush 88) 2 442 := ⟨by decide +kernel, rfl⟩
theorem d25_442 : Dc method_5_code 442 (.iload_n 0) 1 443 := ⟨by decide +kernel, rfl⟩
theorem d25_443 : Dc method_5_code 443 (.castore) 1 444 := ⟨by decide +kernel, rfl⟩
theorem d25_444 : Dc method_5_code 444 (.dup) 1 445 := ⟨by decide +kernel, rfl⟩
theorem d25_445 : Dc method_5_code 445 (.bipush 89) 2 447 := ⟨by decide +kernel, rfl⟩
theorem d25_447 : Dc method_5_code 447 (.iload_n 0) 1 448 := ⟨by decide +kernel, rfl⟩
theorem d25_448 : Dc method_5_code 448 (.castore) 1 449 := ⟨by decide +kernel, rfl⟩
theorem d25_449 : Dc method_5_code 449 (.dup) 1 450 := ⟨by decide +kernel, rfl⟩
theorem d25_450 : Dc method_5_code 450 (.bipush 90) 2 452 := ⟨by decide +kernel, rfl⟩
theorem d25_452 : Dc method_5_code 452 (.iload_n 0) 1 453 := ⟨by decide +kernel, rfl⟩
theorem d25_453 : Dc method_5_code 453 (.castore) 1 454 := ⟨by decide +kernel, rfl⟩
theorem d25_454 : Dc method_5_code 454 (.dup) 1 455 := ⟨by decide +kernel, rfl⟩
theorem d25_455 : Dc method_5_code 455 (.bipush 91) 2 457 := ⟨by decide +kernel, rfl⟩
theorem d25_457 : Dc method_5_code 457 (.iload_n 0) 1 458 := ⟨by decide +kernel, rfl⟩
theorem d25_458 : Dc method_5_code 458 (.castore) 1 459 := ⟨by decide +kernel, rfl⟩
theorem d25_459 : Dc method_5_code 459 (.dup) 1 460 := ⟨by decide +kernel, rfl⟩
theorem d25_460 : Dc method_5_code 460 (.bipush 92) 2 462 := ⟨by decide +kernel, rfl⟩
theorem d25_462 : Dc method_5_code 462 (.iload_n 0) 1 463 := ⟨by decide +kernel, rfl⟩
theorem d25_463 : Dc method_5_code 463 (.castore) 1 464 := ⟨by decide +kernel, rfl⟩
theorem d25_464 : Dc method_5_code 464 (.dup) 1 465 := ⟨by decide +kernel, rfl⟩
theorem d25_465 : Dc method_5_code 465 (.bipush 93) 2 467 := ⟨by decide +kernel, rfl⟩
theorem d25_467 : Dc method_5_code 467 (.iload_n 0) 1 468 := ⟨by decide +kernel, rfl⟩
theorem d25_468 : Dc method_5_code 468 (.castore) 1 469 := ⟨by decide +kernel, rfl⟩
theorem d25_469 : Dc method_5_code 469 (.dup) 1 470 := ⟨by decide +kernel, rfl⟩
theorem d25_470 : Dc method_5_code 470 (.bipush 94) 2 472 := ⟨by decide +kernel, rfl⟩
theorem d25_472 : Dc method_5_code 472 (.iload_n 0) 1 473 := ⟨by decide +kernel, rfl⟩
theorem d25_473 : Dc method_5_code 473 (.castore) 1 474 := ⟨by decide +kernel, rfl⟩
theorem d25_474 : Dc method_5_code 474 (.dup) 1 475 := ⟨by decide +kernel, rfl⟩
theorem d25_475 : Dc method_5_code 475 (.bipush 95) 2 477 := ⟨by decide +kernel, rfl⟩
theorem d25_477 : Dc method_5_code 477 (.iload_n 0) 1 478 := ⟨by decide +kernel, rfl⟩
theorem d25_478 : Dc method_5_code 478 (.castore) 1 479 := ⟨by decide +kernel, rfl⟩
theorem d25_479 : Dc method_5_code 479 (.dup) 1 480 := ⟨by decide +kernel, rfl⟩
theorem d25_480 : Dc method_5_code 480 (.bipush 96) 2 482 := ⟨by decide +kernel, rfl⟩
theorem d25_482 : Dc method_5_code 482 (.iload_n 0) 1 483 := ⟨by decide +kernel, rfl⟩
theorem d25_483 : Dc method_5_code 483 (.castore) 1 484 := ⟨by decide +kernel, rfl⟩
theorem d25_484 : Dc method_5_code 484 (.dup) 1 485 := ⟨by decide +kernel, rfl⟩
theorem d25_485 : Dc method_5_code 485 (.bipush 97) 2 487 := ⟨by decide +kernel, rfl⟩
theorem d25_487 : Dc method_5_code 487 (.iload_n 0) 1 488 := ⟨by decide +kernel, rfl⟩
theorem d25_488 : Dc method_5_code 488 (.castore) 1 489 := ⟨by decide +kernel, rfl⟩
theorem d25_489 : Dc method_5_code 489 (.dup) 1 490 := ⟨by decide +kernel, rfl⟩
theorem d25_490 : Dc method_5_code 490 (.bipush 98) 2 492 := ⟨by decide +kernel, rfl⟩
theorem d25_492 : Dc method_5_code 492 (.iload_n 0) 1 493 := ⟨by decide +kernel, rfl⟩
theorem d25_493 : Dc method_5_code 493 (.castore) 1 494 := ⟨by decide +kernel, rfl⟩
theorem d25_494 : Dc method_5_code 494 (.dup) 1 495 := ⟨by decide +kernel, rfl⟩
theorem d25_495 : Dc method_5_code 495 (.bipush 99) 2 497 := ⟨by decide +kernel, rfl⟩
theorem d25_497 : Dc method_5_code 497 (.iload_n 0) 1 498 := ⟨by decide +kernel, rfl⟩
theorem d25_498 : Dc method_5_code 498 (.castore) 1 499 := ⟨by decide +kernel, rfl⟩
theorem d25_499 : Dc method_5_code 499 (.dup) 1 500 := ⟨by decide +kernel, rfl⟩
theorem d25_500 : Dc method_5_code 500 (.bipush 100) 2 502 := ⟨by decide +kernel, rfl⟩
theorem d25_502 : Dc method_5_code 502 (.iload_n 0) 1 503 := ⟨by decide +kernel, rfl⟩
theorem d25_503 : Dc method_5_code 503 (.castore) 1 504 := ⟨by decide +kernel, rfl⟩
theorem d25_504 : Dc method_5_code 504 (.dup) 1 505 := ⟨by decide +kernel, rfl⟩
theorem d25_505 : Dc method_5_code 505 (.bipush 101) 2 507 := ⟨by decide +kernel, rfl⟩
theorem d25_507 : Dc method_5_code 507 (.iload_n 0) 1 508 := ⟨by decide +kernel, rfl⟩
theorem d25_508 : Dc method_5_code 508 (.castore) 1 509 := ⟨by decide +kernel, rfl⟩
theorem d25_509 : Dc method_5_code 509 (.dup) 1 510 := ⟨by decide +kernel, rfl⟩
theorem d25_510 : Dc method_5_code 510 (.bipush 102) 2 512 := ⟨by decide +kernel, rfl⟩
theorem d25_512 : Dc method_5_code 512 (.iload_n 0) 1 513 := ⟨by decide +kernel, rfl⟩
theorem d25_513 : Dc method_5_code 513 (.castore) 1 514 := ⟨by decide +kernel, rfl⟩
theorem d25_514 : Dc method_5_code 514 (.dup) 1 515 := ⟨by decide +kernel, rfl⟩
theorem d25_515 : Dc method_5_code 515 (.bipush 103) 2 517 := ⟨by decide +kernel, rfl⟩
theorem d25_517 : Dc method_5_code 517 (.iload_n 0) 1 518 := ⟨by decide +kernel, rfl⟩
theorem d25_518 : Dc method_5_code 518 (.castore) 1 519 := ⟨by decide +kernel, rfl⟩
theorem d25_519 : Dc method_5_code 519 (.dup) 1 520 := ⟨by decide +kernel, rfl⟩
theorem d25_520 : Dc method_5_code 520 (.bipush 104) 2 522 := ⟨by decide +kernel, rfl⟩
theorem d25_522 : Dc method_5_code 522 (.iload_n 0) 1 523 := ⟨by decide +kernel, rfl⟩
theorem d25_523 : Dc method_5_code 523 (.castore) 1 524 := ⟨by decide +kernel, rfl⟩
theorem d25_524 : Dc method_5_code 524 (.dup) 1 525 := ⟨by decide +kernel, rfl⟩
theorem d25_525 : Dc method_5_code 525 (.bipush 105) 2 527 := ⟨by decide +kernel, rfl⟩
theorem d25_527 : Dc method_5_code 527 (.iload_n 0) 1 528 := ⟨by decide +kernel, rfl⟩
theorem d25_528 : Dc method_5_code 528 (.castore) 1 529 := ⟨by decide +kernel, rfl⟩
theorem d25_529 : Dc method_5_code 529 (.dup) 1 530 := ⟨by decide +kernel, rfl⟩
theorem d25_530 : Dc method_5_code 530 (.bipush 106) 2 532 := ⟨by decide +kernel, rfl⟩
theorem d25_532 : Dc method_5_code 532 (.iload_n 0) 1 533 := ⟨by decide +kernel, rfl⟩
theorem d25_533 : Dc method_5_code 533 (.castore) 1 534 := ⟨by decide +kernel, rfl⟩
theorem d25_534 : Dc method_5_code 534 (.dup) 1 535 := ⟨by decide +kernel, rfl⟩
theorem d25_535 : Dc method_5_code 535 (.bipush 107) 2 537 := ⟨by decide +kernel, rfl⟩
theorem d25_537 : Dc method_5_code 537 (.iload_n 0) 1 538 := ⟨by decide +kernel, rfl⟩
theorem d25_538 : Dc method_5_code 538 (.castore) 1 539 := ⟨by decide +kernel, rfl⟩
theorem d25_539 : Dc method_5_code 539 (.dup) 1 540 := ⟨by decide +kernel, rfl⟩
theorem d25_540 : Dc method_5_code 540 (.bipush 108) 2 542 := ⟨by decide +kernel, rfl⟩
theorem d25_542 : Dc method_5_code 542 (.iload_n 0) 1 543 := ⟨by decide +kernel, rfl⟩
theorem d25_543 : Dc method_5_code 543 (.castore) 1 544 := ⟨by decide +kernel, rfl⟩
theorem d25_544 : Dc method_5_code 544 (.dup) 1 545 := ⟨by decide +kernel, rfl⟩
theorem d25_545 : Dc method_5_code 545 (.bipush 109) 2 547 := ⟨by decide +kernel, rfl⟩
theorem d25_547 : Dc method_5_code 547 (.iload_n 0) 1 548 := ⟨by decide +kernel, rfl⟩
theorem d25_548 : Dc method_5_code 548 (.castore) 1 549 := ⟨by decide +kernel, rfl⟩
theorem d25_549 : Dc method_5_code 549 (.dup) 1 550 := ⟨by decide +kernel, rfl⟩
theorem d25_550 : Dc method_5_code 550 (.bipush 110) 2 552 := ⟨by decide +kernel, rfl⟩
theorem d25_552 : Dc method_5_code 552 (.iload_n 0) 1 553 := ⟨by decide +kernel, rfl⟩
theorem d25_553 : Dc method_5_code 553 (.castore) 1 554 := ⟨by decide +kernel, rfl⟩
theorem d25_554 : Dc method_5_code 554 (.dup) 1 555 := ⟨by decide +kernel, rfl⟩
theorem d25_555 : Dc method_5_code 555 (.bipush 111) 2 557 := ⟨by decide +kernel, rfl⟩
theorem d25_557 : Dc method_5_code 557 (.iload_n 0) 1 558 := ⟨by decide +kernel, rfl⟩
theorem d25_558 : Dc method_5_code 558 (.castore) 1 559 := ⟨by decide +kernel, rfl⟩
theorem d25_559 : Dc method_5_code 559 (.dup) 1 560 := ⟨by decide +kernel, rfl⟩
theorem d25_560 : Dc method_5_code 560 (.bipush 112) 2 562 := ⟨by decide +kernel, rfl⟩
theorem d25_562 : Dc method_5_code 562 (.iload_n 0) 1 563 := ⟨by decide +kernel, rfl⟩
theorem d25_563 : Dc method_5_code 563 (.castore) 1 564 := ⟨by decide +kernel, rfl⟩
theorem d25_564 : Dc method_5_code 564 (.dup) 1 565 := ⟨by decide +kernel, rfl⟩
theorem d25_565 : Dc method_5_code 565 (.bipush 113) 2 567 := ⟨by decide +kernel, rfl⟩
theorem d25_567 : Dc method_5_code 567 (.iload_n 0) 1 568 := ⟨by decide +kernel, rfl⟩
theorem d25_568 : Dc method_5_code 568 (.castore) 1 569 := ⟨by decide +kernel, rfl⟩
theorem d25_569 : Dc method_5_code 569 (.dup) 1 570 := ⟨by decide +kernel, rfl⟩
theorem d25_570 : Dc method_5_code 570 (.bipush 114) 2 572 := ⟨by decide +kernel, rfl⟩
theorem d25_572 : Dc method_5_code 572 (.iload_n 0) 1 573 := ⟨by decide +kernel, rfl⟩
theorem d25_573 : Dc method_5_code 573 (.castore) 1 574 := ⟨by decide +kernel, rfl⟩
theorem d25_574 : Dc method_5_code 574 (.dup) 1 575 := ⟨by decide +kernel, rfl⟩
theorem d25_575 : Dc method_5_code 575 (.bipush 115) 2 577 := ⟨by decide +kernel, rfl⟩
theorem d25_577 : Dc method_5_code 577 (.iload_n 0) 1 578 := ⟨by decide +kernel, rfl⟩
theorem d25_578 : Dc method_5_code 578 (.castore) 1 579 := ⟨by decide +kernel, rfl⟩
theorem d25_579 : Dc method_5_code 579 (.dup) 1 580 := ⟨by decide +kernel, rfl⟩
theorem d25_580 : Dc method_5_code 580 (.bipush 116) 2 582 := ⟨by decide +kernel, rfl⟩
theorem d25_582 : Dc method_5_code 582 (.iload_n 0) 1 583 := ⟨by decide +kernel, rfl⟩
theorem d25_583 : Dc method_5_code 583 (.castore) 1 584 := ⟨by decide +kernel, rfl⟩
theorem d25_584 : Dc method_5_code 584 (.dup) 1 585 := ⟨by decide +kernel, rfl⟩
theorem d25_585 : Dc method_5_code 585 (.bipush 117) 2 587 := ⟨by decide +kernel, rfl⟩
theorem d25_587 : Dc method_5_code 587 (.iload_n 0) 1 588 := ⟨by decide +kernel, rfl⟩
theorem d25_588 : Dc method_5_code 588 (.castore) 1 589 := ⟨by decide +kernel, rfl⟩
theorem d25_589 : Dc method_5_code 589 (.dup) 1 590 := ⟨by decide +kernel, rfl⟩
theorem d25_590 : Dc method_5_code 590 (.bipush 118) 2 592 := ⟨by decide +kernel, rfl⟩
theorem d25_592 : Dc method_5_code 592 (.iload_n 0) 1 593 := ⟨by decide +kernel, rfl⟩
theorem d25_593 : Dc method_5_code 593 (.castore) 1 594 := ⟨by decide +kernel, rfl⟩
theorem d25_594 : Dc method_5_code 594 (.dup) 1 595 := ⟨by decide +kernel, rfl⟩
theorem d25_595 : Dc method_5_code 595 (.bipush 119) 2 597 := ⟨by decide +kernel, rfl⟩
theorem d25_597 : Dc method_5_code 597 (.iload_n 0) 1 598 := ⟨by decide +kernel, rfl⟩
theorem d25_598 : Dc method_5_code 598 (.castore) 1 599 := ⟨by decide +kernel, rfl⟩
theorem d25_599 : Dc method_5_code 599 (.dup) 1 600 := ⟨by decide +kernel, rfl⟩
theorem d25_600 : Dc method_5_code 600 (.bipush 120) 2 602 := ⟨by decide +kernel, rfl⟩
theorem d25_602 : Dc method_5_code 602 (.iload_n 0) 1 603 := ⟨by decide +kernel, rfl⟩
theorem d25_603 : Dc method_5_code 603 (.castore) 1 604 := ⟨by decide +kernel, rfl⟩
theorem d25_604 : Dc method_5_code 604 (.dup) 1 605 := ⟨by decide +kernel, rfl⟩
theorem d25_605 : Dc method_5_code 605 (.bipush 121) 2 607 := ⟨by decide +kernel, rfl⟩
theorem d25_607 : Dc method_5_code 607 (.iload_n 0) 1 608 := ⟨by decide +kernel, rfl⟩
theorem d25_608 : Dc method_5_code 608 (.castore) 1 609 := ⟨by decide +kernel, rfl⟩
theorem d25_609 : Dc method_5_code 609 (.dup) 1 610 := ⟨by decide +kernel, rfl⟩
theorem d25_610 : Dc method_5_code 610 (.bipush 122) 2 612 := ⟨by decide +kernel, rfl⟩
theorem d25_612 : Dc method_5_code 612 (.iload_n 0) 1 613 := ⟨by decide +kernel, rfl⟩
theorem d25_613 : Dc method_5_code 613 (.castore) 1 614 := ⟨by decide +kernel, rfl⟩
theorem d25_614 : Dc method_5_code 614 (.dup) 1 615 := ⟨by decide +kernel, rfl⟩
theorem d25_615 : Dc method_5_code 615 (.bipush 123) 2 617 := ⟨by decide +kernel, rfl⟩
theorem d25_617 : Dc method_5_code 617 (.iload_n 0) 1 618 := ⟨by decide +kernel, rfl⟩
theorem d25_618 : Dc method_5_code 618 (.castore) 1 619 := ⟨by decide +kernel, rfl⟩
theorem d25_619 : Dc method_5_code 619 (.dup) 1 620 := ⟨by decide +kernel, rfl⟩
theorem d25_620 : Dc method_5_code 620 (.bipush 124) 2 622 := ⟨by decide +kernel, rfl⟩
theorem d25_622 : Dc method_5_code 622 (.iload_n 0) 1 623 := ⟨by decide +kernel, rfl⟩
theorem d25_623 : Dc method_5_code 623 (.castore) 1 624 := ⟨by decide +kernel, rfl⟩
theorem d25_624 : Dc method_5_code 624 (.dup) 1 625 := ⟨by decide +kernel, rfl⟩
theorem d25_625 : Dc method_5_code 625 (.bipush 125) 2 627 := ⟨by decide +kernel, rfl⟩
theorem d25_627 : Dc method_5_code 627 (.iload_n 0) 1 628 := ⟨by decide +kernel, rfl⟩
theorem d25_628 : Dc method_5_code 628 (.castore) 1 629 := ⟨by decide +kernel, rfl⟩
theorem d25_629 : Dc method_5_code 629 (.dup) 1 630 := ⟨by decide +kernel, rfl⟩
theorem d25_630 : Dc method_5_code 630 (.bipush 126) 2 632 := ⟨by decide +kernel, rfl⟩
theorem d25_632 : Dc method_5_code 632 (.iload_n 0) 1 633 := ⟨by decide +kernel, rfl⟩
theorem d25_633 : Dc method_5_code 633 (.castore) 1 634 := ⟨by decide +kernel, rfl⟩
theorem d25_634 : Dc method_5_code 634 (.dup) 1 635 := ⟨by decide +kernel, rfl⟩
theorem d25_635 : Dc method_5_code 635 (.bipush 127) 2 637 := ⟨by decide +kernel, rfl⟩
theorem d25_637 : Dc method_5_code 637 (.iload_n 0) 1 638 := ⟨by decide +kernel, rfl⟩
theorem d25_638 : Dc method_5_code 638 (.castore) 1 639 := ⟨by decide +kernel, rfl⟩
theorem d25_639 : Dc method_5_code 639 (.dup) 1 640 := ⟨by decide +kernel, rfl⟩
theorem d25_640 : Dc method_5_code 640 (.sipush 128) 3 643 := ⟨by decide +kernel, rfl⟩
theorem d25_643 : Dc method_5_code 643 (.iload_n 0) 1 644 := ⟨by decide +kernel, rfl⟩
theorem d25_644 : Dc method_5_code 644 (.castore) 1 645 := ⟨by decide +kernel, rfl⟩
theorem d25_645 : Dc method_5_code 645 (.areturn) 1 646 := ⟨by decide +kernel, rfl⟩
theorem d26_0 : Dc method_4_code 0 (.sipush 128) 3 3 := ⟨by decide +kernel, rfl⟩
theorem d26_3 : Dc method_4_code 3 (.newarray .char) 2 5 := ⟨by decide +kernel, rfl⟩
theorem d26_5 : Dc method_4_code 5 (.dup) 1 6 := ⟨by decide +kernel, rfl⟩
theorem d26_6 : Dc method_4_code 6 (.iconst 0) 1 7 := ⟨by decide +kernel, rfl⟩
theorem d26_7 : Dc method_4_code 7 (.iload_n 0) 1 8 := ⟨by decide +kernel, rfl⟩
theorem d26_8 : Dc method_4_code 8 (.castore) 1 9 := ⟨by decide +kernel, rfl⟩
theorem d26_9 : Dc method_4_code 9 (.dup) 1 10 := ⟨by decide +kernel, rfl⟩
theorem d26_10 : Dc method_4_code 10 (.iconst 1) 1 11 := ⟨by decide +kernel, rfl⟩
theorem d26_11 : Dc method_4_code 11 (.iload_n 0) 1 12 := ⟨by decide +kernel, rfl⟩
theorem d26_12 : Dc method_4_code 12 (.castore) 1 13 := ⟨by decide +kernel, rfl⟩
theorem d26_13 : Dc method_4_code 13 (.dup) 1 14 := ⟨by decide +kernel, rfl⟩
theorem d26_14 : Dc method_4_code 14 (.iconst 2) 1 15 := ⟨by decide +kernel, rfl⟩
theorem d26_15 : Dc method_4_code 15 (.iload_n 0) 1 16 := ⟨by decide +kernel, rfl⟩
theorem d26_16 : Dc method_4_code 16 (.castore) 1 17 := ⟨by decide +kernel, rfl⟩
theorem d26_17 : Dc method_4_code 17 (.dup) 1 18 := ⟨by decide +kernel, rfl⟩
theorem d26_18 : Dc method_4_code 18 (.iconst 3) 1 19 := ⟨by decide +kernel, rfl⟩
theorem d26_19 : Dc method_4_code 19 (.iload_n 0) 1 20 := ⟨by decide +kernel, rfl⟩
theorem d26_20 : Dc method_4_code 20 (.castore) 1 21 := ⟨by decide +kernel, rfl⟩
theorem d26_21 : Dc method_4_code 21 (.dup) 1 22 := ⟨by decide +kernel, rfl⟩
theorem d26_22 : Dc method_4_code 22 (.iconst 4) 1 23 := ⟨by decide +kernel, rfl⟩
theorem d26_23 : Dc method_4_code 23 (.iload_n 0) 1 24 := ⟨by decide +kernel, rfl⟩
theorem d26_24 : Dc method_4_code 24 (.castore) 1 25 := ⟨by decide +kernel, rfl⟩
theorem d26_25 : Dc method_4_code 25 (.dup) 1 26 := ⟨by decide +kernel, rfl⟩
theorem d26_26 : Dc method_4_code 26 (.iconst 5) 1 27 := ⟨by decide +kernel, rfl⟩
theorem d26_27 : Dc method_4_code 27 (.iload_n 0) 1 28 := ⟨by decide +kernel, rfl⟩
theorem d26_28 : Dc method_4_code 28 (.castore) 1 29 := ⟨by decide +kernel, rfl⟩
theorem d26_29 : Dc method_4_code 29 (.dup) 1 30 := ⟨by decide +kernel, rfl⟩
theorem d26_30 : Dc method_4_code 30 (.bipush 6) 2 32 := ⟨by decide +kernel, rfl⟩
theorem d26_32 : Dc method_4_code 32 (.iload_n 0) 1 33 := ⟨by decide +kernel, rfl⟩
theorem d26_33 : Dc method_4_code 33 (.castore) 1 34 := ⟨by decide +kernel, rfl⟩
theorem d26_34 : Dc method_4_code 34 (.dup) 1 35 := ⟨by decide +kernel, rfl⟩
theorem d26_35 : Dc method_4_code 35 (.bipush 7) 2 37 := ⟨by decide +kernel, rfl⟩
theorem d26_37 : Dc method_4_code 37 (.iload_n 0) 1 38 := ⟨by decide +kernel, rfl⟩
theorem d26_38 : Dc method_4_code 38 (.castore) 1 39 := ⟨by decide +kernel, rfl⟩
theorem d26_39 : Dc method_4_code 39 (.dup) 1 40 := ⟨by decide +kernel, rfl⟩
theorem d26_40 : Dc method_4_code 40 (.bipush 8) 2 42 := ⟨by decide +kernel, rfl⟩
theorem d26_42 : Dc method_4_code 42 (.iload_n 0) 1 43 := ⟨by decide +kernel, rfl⟩
theorem d26_43 : Dc method_4_code 43 (.castore) 1 44 := ⟨by decide +kernel, rfl⟩
theorem d26_44 : Dc method_4_code 44 (.dup) 1 45 := ⟨by decide +kernel, rfl⟩
theorem d26_45 : Dc method_4_code 45 (.bipush 9) 2 47 := ⟨by decide +kernel, rfl⟩
theorem d26_47 : Dc method_4_code 47 (.iload_n 0) 1 48 := ⟨by decide +kernel, rfl⟩
theorem d26_48 : Dc method_4_code 48 (.castore) 1 49 := ⟨by decide +kernel, rfl⟩
theorem d26_49 : Dc method_4_code 49 (.dup) 1 50 := ⟨by decide +kernel, rfl⟩
theorem d26_50 : Dc method_4_code 50 (.bipush 10) 2 52 := ⟨by decide +kernel, rfl⟩
theorem d26_52 : Dc method_4_code 52 (.iload_n 0) 1 53 := ⟨by decide +kernel, rfl⟩
theorem d26_53 : Dc method_4_code 53 (.castore) 1 54 := ⟨by decide +kernel, rfl⟩
theorem d26_54 : Dc method_4_code 54 (.dup) 1 55 := ⟨by decide +kernel, rfl⟩
theorem d26_55 : Dc method_4_code 55 (.bipush 11) 2 57 := ⟨by decide +kernel, rfl⟩
theorem d26_57 : Dc method_4_code 57 (.iload_n 0) 1 58 := ⟨by decide +kernel, rfl⟩
theorem d26_58 : Dc method_4_code 58 (.castore) 1 59 := ⟨by decide +kernel, rfl⟩
theorem d26_59 : Dc method_4_code 59 (.dup) 1 60 := ⟨by decide +kernel, rfl⟩
theorem d26_60 : Dc method_4_code 60 (.bipush 12) 2 62 := ⟨by decide +kernel, rfl⟩
theorem d26_62 : Dc method_4_code 62 (.iload_n 0) 1 63 := ⟨by decide +kernel, rfl⟩
theorem d26_63 : Dc method_4_code 63 (.castore) 1 64 := ⟨by decide +kernel, rfl⟩
theorem d26_64 : Dc method_4_code 64 (.dup) 1 65 := ⟨by decide +kernel, rfl⟩
theorem d26_65 : Dc method_4_code 65 (.bipush 13) 2 67 := ⟨by decide +kernel, rfl⟩
theorem d26_67 : Dc method_4_code 67 (.iload_n 0) 1 68 := ⟨by decide +kernel, rfl⟩
theorem d26_68 : Dc method_4_code 68 (.castore) 1 69 := ⟨by decide +kernel, rfl⟩
theorem d26_69 : Dc method_4_code 69 (.dup) 1 70 := ⟨by decide +kernel, rfl⟩
theorem d26_70 : Dc method_4_code 70 (.bipush 14) 2 72 := ⟨by decide +kernel, rfl⟩
theorem d26_72 : Dc method_4_code 72 (.iload_n 0) 1 73 := ⟨by decide +kernel, rfl⟩
theorem d26_73 : Dc method_4_code 73 (.castore) 1 74 := ⟨by decide +kernel, rfl⟩
theorem d26_74 : Dc method_4_code 74 (.dup) 1 75 := ⟨by decide +kernel, rfl⟩
theorem d26_75 : Dc method_4_code 75 (.bipush 15) 2 77 := ⟨by decide +kernel, rfl⟩
theorem d26_77 : Dc method_4_code 77 (.iload_n 0) 1 78 := ⟨by decide +kernel, rfl⟩
theorem d26_78 : Dc method_4_code 78 (.castore) 1 79 := ⟨by decide +kernel, rfl⟩
theorem d26_79 : Dc method_4_code 79 (.dup) 1 80 := ⟨by decide +kernel, rfl⟩
theorem d26_80 : Dc method_4_code 80 (.bipush 16) 2 82 := ⟨by decide +kernel, rfl⟩
theorem d26_82 : Dc method_4_code 82 (.iload_n 0) 1 83 := ⟨by decide +kernel, rfl⟩
theorem d26_83 : Dc method_4_code 83 (.castore) 1 84 := ⟨by decide +kernel, rfl⟩
theorem d26_84 : Dc method_4_code 84 (.dup) 1 85 := ⟨by decide +kernel, rfl⟩
theorem d26_85 : Dc method_4_code 85 (.bipush 17) 2 87 := ⟨by decide +kernel, rfl⟩
theorem d26_87 : Dc method_4_code 87 (.iload_n 0) 1 88 := ⟨by decide +kernel, rfl⟩
theorem d26_88 : Dc method_4_code 88 (.castore) 1 89 := ⟨by decide +kernel, rfl⟩
theorem d26_89 : Dc method_4_code 89 (.dup) 1 90 := ⟨by decide +kernel, rfl⟩
theorem d26_90 : Dc method_4_code 90 (.bipush 18) 2 92 := ⟨by decide +kernel, rfl⟩
theorem d26_92 : Dc method_4_code 92 (.iload_n 0) 1 93 := ⟨by decide +kernel, rfl⟩
theorem d26_93 : Dc method_4_code 93 (.castore) 1 94 := ⟨by decide +kernel, rfl⟩
theorem d26_94 : Dc method_4_code 94 (.dup) 1 95 := ⟨by decide +kernel, rfl⟩
theorem d26_95 : Dc method_4_code 95 (.bipush 19) 2 97 := ⟨by decide +kernel, rfl⟩
theorem d26_97 : Dc method_4_code 97 (.iload_n 0) 1 98 := ⟨by decide +kernel, rfl⟩
theorem d26_98 : Dc method_4_code 98 (.castore) 1 99 := ⟨by decide +kernel, rfl⟩
theorem d26_99 : Dc method_4_code 99 (.dup) 1 100 := ⟨by decide +kernel, rfl⟩
theorem d26_100 : Dc method_4_code 100 (.bipush 20) 2 102 := ⟨by decide +kernel, rfl⟩
theorem d26_102 : Dc method_4_code 102 (.iload_n 0) 1 103 := ⟨by decide +kernel, rfl⟩
theorem d26_103 : Dc method_4_code 103 (.castore) 1 104 := ⟨by decide +kernel, rfl⟩
theorem d26_104 : Dc method_4_code 104 (.dup) 1 105 := ⟨by decide +kernel, rfl⟩
theorem d26_105 : Dc method_4_code 105 (.bipush 21) 2 107 := ⟨by decide +kernel, rfl⟩
theorem d26_107 : Dc method_4_code 107 (.iload_n 0) 1 108 := ⟨by decide +kernel, rfl⟩
theorem d26_108 : Dc method_4_code 108 (.castore) 1 109 := ⟨by decide +kernel, rfl⟩
theorem d26_109 : Dc method_4_code 109 (.dup) 1 110 := ⟨by decide +kernel, rfl⟩
theorem d26_110 : Dc method_4_code 110 (.bipush 22) 2 112 := ⟨by decide +kernel, rfl⟩
theorem d26_112 : Dc method_4_code 112 (.iload_n 0) 1 113 := ⟨by decide +kernel, rfl⟩
theorem d26_113 : Dc method_4_code 113 (.castore) 1 114 := ⟨by decide +kernel, rfl⟩
theorem d26_114 : Dc method_4_code 114 (.dup) 1 115 := ⟨by decide +kernel, rfl⟩
theorem d26_115 : Dc method_4_code 115 (.bipush 23) 2 117 := ⟨by decide +kernel, rfl⟩
theorem d26_117 : Dc method_4_code 117 (.iload_n 0) 1 118 := ⟨by decide +kernel, rfl⟩
theorem d26_118 : Dc method_4_code 118 (.castore) 1 119 := ⟨by decide +kernel, rfl⟩
theorem d26_119 : Dc method_4_code 119 (.dup) 1 120 := ⟨by decide +kernel, rfl⟩
theorem d26_120 : Dc method_4_code 120 (.bipush 24) 2 122 := ⟨by decide +kernel, rfl⟩
theorem d26_122 : Dc method_4_code 122 (.iload_n 0) 1 123 := ⟨by decide +kernel, rfl⟩
theorem d26_123 : Dc method_4_code 123 (.castore) 1 124 := ⟨by decide +kernel, rfl⟩
theorem d26_124 : Dc method_4_code 124 (.dup) 1 125 := ⟨by decide +kernel, rfl⟩
theorem d26_125 : Dc method_4_code 125 (.bipush 25) 2 127 := ⟨by decide +kernel, rfl⟩
theorem d26_127 : Dc method_4_code 127 (.iload_n 0) 1 128 := ⟨by decide +kernel, rfl⟩
theorem d26_128 : Dc method_4_code 128 (.castore) 1 129 := ⟨by decide +kernel, rfl⟩
theorem d26_129 : Dc method_4_code 129 (.dup) 1 130 := ⟨by decide +kernel, rfl⟩
theorem d26_130 : Dc method_4_code 130 (.bipush 26) 2 132 := ⟨by decide +kernel, rfl⟩
theorem d26_132 : Dc method_4_code 132 (.iload_n 0) 1 133 := ⟨by decide +kernel, rfl⟩
theorem d26_133 : Dc method_4_code 133 (.castore) 1 134 := ⟨by decide +kernel, rfl⟩
theorem d26_134 : Dc method_4_code 134 (.dup) 1 135 := ⟨by decide +kernel, rfl⟩
theorem d26_135 : Dc method_4_code 135 (.bipush 27) 2 137 := ⟨by decide +kernel, rfl⟩
theorem d26_137 : Dc method_4_code 137 (.iload_n 0) 1 138 := ⟨by decide +kernel, rfl⟩
theorem d26_138 : Dc method_4_code 138 (.castore) 1 139 := ⟨by decide +kernel, rfl⟩
theorem d26_139 : Dc method_4_code 139 (.dup) 1 140 := ⟨by decide +kernel, rfl⟩
theorem d26_140 : Dc method_4_code 140 (.bipush 28) 2 142 := ⟨by decide +kernel, rfl⟩
theorem d26_142 : Dc method_4_code 142 (.iload_n 0) 1 143 := ⟨by decide +kernel, rfl⟩
theorem d26_143 : Dc method_4_code 143 (.castore) 1 144 := ⟨by decide +kernel, rfl⟩
theorem d26_144 : Dc method_4_code 144 (.dup) 1 145 := ⟨by decide +kernel, rfl⟩
theorem d26_145 : Dc method_4_code 145 (.bipush 29) 2 147 := ⟨by decide +kernel, rfl⟩
theorem d26_147 : Dc method_4_code 147 (.iload_n 0) 1 148 := ⟨by decide +kernel, rfl⟩
theorem d26_148 : Dc method_4_code 148 (.castore) 1 149 := ⟨by decide +kernel, rfl⟩
theorem d26_149 : Dc method_4_code 149 (.dup) 1 150 := ⟨by decide +kernel, rfl⟩
theorem d26_150 : Dc method_4_code 150 (.bipush 30) 2 152 := ⟨by decide +kernel, rfl⟩
theorem d26_152 : Dc method_4_code 152 (.iload_n 0) 1 153 := ⟨by decide +kernel, rfl⟩
theorem d26_153 : Dc method_4_code 153 (.castore) 1 154 := ⟨by decide +kernel, rfl⟩
theorem d26_154 : Dc method_4_code 154 (.dup) 1 155 := ⟨by decide +kernel, rfl⟩
theorem d26_155 : Dc method_4_code 155 (.bipush 31) 2 157 := ⟨by decide +kernel, rfl⟩
theorem d26_157 : Dc method_4_code 157 (.iload_n 0) 1 158 := ⟨by decide +kernel, rfl⟩
theorem d26_158 : Dc method_4_code 158 (.castore) 1 159 := ⟨by decide +kernel, rfl⟩
theorem d26_159 : Dc method_4_code 159 (.dup) 1 160 := ⟨by decide +kernel, rfl⟩
theorem d26_160 : Dc method_4_code 160 (.bipush 32) 2 162 := ⟨by decide +kernel, rfl⟩
theorem d26_162 : Dc method_4_code 162 (.iload_n 0) 1 163 := ⟨by decide +kernel, rfl⟩
theorem d26_163 : Dc method_4_code 163 (.castore) 1 164 := ⟨by decide +kernel, rfl⟩
theorem d26_164 : Dc method_4_code 164 (.dup) 1 165 := ⟨by decide +kernel, rfl⟩
theorem d26_165 : Dc method_4_code 165 (.bipush 33) 2 167 := ⟨by decide +kernel, rfl⟩
theorem d26_167 : Dc method_4_code 167 (.iload_n 0) 1 168 := ⟨by decide +kernel, rfl⟩
theorem d26_168 : Dc method_4_code 168 (.castore) 1 169 := ⟨by decide +kernel, rfl⟩
theorem d26_169 : Dc method_4_code 169 (.dup) 1 170 := ⟨by decide +kernel, rfl⟩
theorem d26_170 : Dc method_4_code 170 (.bipush 34) 2 172 := ⟨by decide +kernel, rfl⟩
theorem d26_172 : Dc method_4_code 172 (.iload_n 0) 1 173 := ⟨by decide +kernel, rfl⟩
theorem d26_173 : Dc method_4_code 173 (.castore) 1 174 := ⟨by decide +kernel, rfl⟩
theorem d26_174 : Dc method_4_code 174 (.dup) 1 175 := ⟨by decide +kernel, rfl⟩
theorem d26_175 : Dc method_4_code 175 (.bipush 35) 2 177 := ⟨by decide +kernel, rfl⟩
theorem d26_177 : Dc method_4_code 177 (.iload_n 0) 1 178 := ⟨by decide +kernel, rfl⟩
theorem d26_178 : Dc method_4_code 178 (.castore) 1 179 := ⟨by decide +kernel, rfl⟩
theorem d26_179 : Dc method_4_code 179 (.dup) 1 180 := ⟨by decide +kernel, rfl⟩
theorem d26_180 : Dc method_4_code 180 (.bipush 36) 2 182 := ⟨by decide +kernel, rfl⟩
theorem d26_182 : Dc method_4_code 182 (.iload_n 0) 1 183 := ⟨by decide +kernel, rfl⟩
theorem d26_183 : Dc method_4_code 183 (.castore) 1 184 := ⟨by decide +kernel, rfl⟩
theorem d26_184 : Dc method_4_code 184 (.dup) 1 185 := ⟨by decide +kernel, rfl⟩
theorem d26_185 : Dc method_4_code 185 (.bipush 37) 2 187 := ⟨by decide +kernel, rfl⟩
theorem d26_187 : Dc method_4_code 187 (.iload_n 0) 1 188 := ⟨by decide +kernel, rfl⟩
theorem d26_188 : Dc method_4_code 188 (.castore) 1 189 := ⟨by decide +kernel, rfl⟩
theorem d26_189 : Dc method_4_code 189 (.dup) 1 190 := ⟨by decide +kernel, rfl⟩
theorem d26_190 : Dc method_4_code 190 (.bipush 38) 2 192 := ⟨by decide +kernel, rfl⟩
theorem d26_192 : Dc method_4_code 192 (.iload_n 0) 1 193 := ⟨by decide +kernel, rfl⟩
theorem d26_193 : Dc method_4_code 193 (.castore) 1 194 := ⟨by decide +kernel, rfl⟩
theorem d26_194 : Dc method_4_code 194 (.dup) 1 195 := ⟨by decide +kernel, rfl⟩
theorem d26_195 : Dc method_4_code 195 (.bipush 39) 2 197 := ⟨by decide +kernel, rfl⟩
theorem d26_197 : Dc method_4_code 197 (.iload_n 0) 1 198 := ⟨by decide +kernel, rfl⟩
theorem d26_198 : Dc method_4_code 198 (.castore) 1 199 := ⟨by decide +kernel, rfl⟩
theorem d26_199 : Dc method_4_code 199 (.dup) 1 200 := ⟨by decide +kernel, rfl⟩
theorem d26_200 : Dc method_4_code 200 (.bipush 40) 2 202 := ⟨by decide +kernel, rfl⟩
theorem d26_202 : Dc method_4_code 202 (.iload_n 0) 1 203 := ⟨by decide +kernel, rfl⟩
theorem d26_203 : Dc method_4_code 203 (.castore) 1 204 := ⟨by decide +kernel, rfl⟩
theorem d26_204 : Dc method_4_code 204 (.dup) 1 205 := ⟨by decide +kernel, rfl⟩
theorem d26_205 : Dc method_4_code 205 (.bipush 41) 2 207 := ⟨by decide +kernel, rfl⟩
theorem d26_207 : Dc method_4_code 207 (.iload_n 0) 1 208 := ⟨by decide +kernel, rfl⟩
theorem d26_208 : Dc method_4_code 208 (.castore) 1 209 := ⟨by decide +kernel, rfl⟩
theorem d26_209 : Dc method_4_code 209 (.dup) 1 210 := ⟨by decide +kernel, rfl⟩
theorem d26_210 : Dc method_4_code 210 (.bipush 42) 2 212 := ⟨by decide +kernel, rfl⟩
theorem d26_212 : Dc method_4_code 212 (.iload_n 0) 1 213 := ⟨by decide +kernel, rfl⟩
theorem d26_213 : Dc method_4_code 213 (.castore) 1 214 := ⟨by decide +kernel, rfl⟩
theorem d26_214 : Dc method_4_code 214 (.dup) 1 215 := ⟨by decide +kernel, rfl⟩
theorem d26_215 : Dc method_4_code 215 (.bipush 43) 2 217 := ⟨by decide +kernel, rfl⟩
theorem d26_217 : Dc method_4_code 217 (.iload_n 0) 1 218 := ⟨by decide +kernel, rfl⟩
theorem d26_218 : Dc method_4_code 218 (.castore) 1 219 := ⟨by decide +kernel, rfl⟩
theorem d26_219 : Dc method_4_code 219 (.dup) 1 220 := ⟨by decide +kernel, rfl⟩
theorem d26_220 : Dc method_4_code 220 (.bipush 44) 2 222 := ⟨by decide +kernel, rfl⟩
theorem d26_222 : Dc method_4_code 222 (.iload_n 0) 1 223 := ⟨by decide +kernel, rfl⟩
theorem d26_223 : Dc method_4_code 223 (.castore) 1 224 := ⟨by decide +kernel, rfl⟩
theorem d26_224 : Dc method_4_code 224 (.dup) 1 225 := ⟨by decide +kernel, rfl⟩
theorem d26_225 : Dc method_4_code 225 (.bipush 45) 2 227 := ⟨by decide +kernel, rfl⟩
theorem d26_227 : Dc method_4_code 227 (.iload_n 0) 1 228 := ⟨by decide +kernel, rfl⟩
theorem d26_228 : Dc method_4_code 228 (.castore) 1 229 := ⟨by decide +kernel, rfl⟩
theorem d26_229 : Dc method_4_code 229 (.dup) 1 230 := ⟨by decide +kernel, rfl⟩
theorem d26_230 : Dc method_4_code 230 (.bipush 46) 2 232 := ⟨by decide +kernel, rfl⟩
theorem d26_232 : Dc method_4_code 232 (.iload_n 0) 1 233 := ⟨by decide +kernel, rfl⟩
theorem d26_233 : Dc method_4_code 233 (.castore) 1 234 := ⟨by decide +kernel, rfl⟩
theorem d26_234 : Dc method_4_code 234 (.dup) 1 235 := ⟨by decide +kernel, rfl⟩
theorem d26_235 : Dc method_4_code 235 (.bipush 47) 2 237 := ⟨by decide +kernel, rfl⟩
theorem d26_237 : Dc method_4_code 237 (.iload_n 0) 1 238 := ⟨by decide +kernel, rfl⟩
theorem d26_238 : Dc method_4_code 238 (.castore) 1 239 := ⟨by decide +kernel, rfl⟩
theorem d26_239 : Dc method_4_code 239 (.dup) 1 240 := ⟨by decide +kernel, rfl⟩
theorem d26_240 : Dc method_4_code 240 (.bipush 48) 2 242 := ⟨by decide +kernel, rfl⟩
theorem d26_242 : Dc method_4_code 242 (.iload_n 0) 1 243 := ⟨by decide +kernel, rfl⟩
theorem d26_243 : Dc method_4_code 243 (.castore) 1 244 := ⟨by decide +kernel, rfl⟩
theorem d26_244 : Dc method_4_code 244 (.dup) 1 245 := ⟨by decide +kernel, rfl⟩
theorem d26_245 : Dc method_4_code 245 (.bipush 49) 2 247 := ⟨by decide +kernel, rfl⟩
theorem d26_247 : Dc method_4_code 247 (.iload_n 0) 1 248 := ⟨by decide +kernel, rfl⟩
theorem d26_248 : Dc method_4_code 248 (.castore) 1 249 := ⟨by decide +kernel, rfl⟩
theorem d26_249 : Dc method_4_code 249 (.dup) 1 250 := ⟨by decide +kernel, rfl⟩
theorem d26_250 : Dc method_4_code 250 (.bipush 50) 2 252 := ⟨by decide +kernel, rfl⟩
theorem d26_252 : Dc method_4_code 252 (.iload_n 0) 1 253 := ⟨by decide +kernel, rfl⟩
theorem d26_253 : Dc method_4_code 253 (.castore) 1 254 := ⟨by decide +kernel, rfl⟩
theorem d26_254 : Dc method_4_code 254 (.dup) 1 255 := ⟨by decide +kernel, rfl⟩
theorem d26_255 : Dc method_4_code 255 (.bipush 51) 2 257 := ⟨by decide +kernel, rfl⟩
theorem d26_257 : Dc method_4_code 257 (.iload_n 0) 1 258 := ⟨by decide +kernel, rfl⟩
theorem d26_258 : Dc method_4_code 258 (.castore) 1 259 := ⟨by decide +kernel, rfl⟩
theorem d26_259 : Dc method_4_code 259 (.dup) 1 260 := ⟨by decide +kernel, rfl⟩
theorem d26_260 : Dc method_4_code 260 (.bipush 52) 2 262 := ⟨by decide +kernel, rfl⟩
theorem d26_262 : Dc method_4_code 262 (.iload_n 0) 1 263 := ⟨by decide +kernel, rfl⟩
theorem d26_263 : Dc method_4_code 263 (.castore) 1 264 := ⟨by decide +kernel, rfl⟩
theorem d26_264 : Dc method_4_code 264 (.dup) 1 265 := ⟨by decide +kernel, rfl⟩
theorem d26_265 : Dc method_4_code 265 (.bipush 53) 2 267 := ⟨by decide +kernel, rfl⟩
theorem d26_267 : Dc method_4_code 267 (.iload_n 0) 1 268 := ⟨by decide +kernel, rfl⟩
theorem d26_268 : Dc method_4_code 268 (.castore) 1 269 := ⟨by decide +kernel, rfl⟩
theorem d26_269 : Dc method_4_code 269 (.dup) 1 270 := ⟨by decide +kernel, rfl⟩
theorem d26_270 : Dc method_4_code 270 (.bipush 54) 2 272 := ⟨by decide +kernel, rfl⟩
theorem d26_272 : Dc method_4_code 272 (.iload_n 0) 1 273 := ⟨by decide +kernel, rfl⟩
theorem d26_273 : Dc method_4_code 273 (.castore) 1 274 := ⟨by decide +kernel, rfl⟩
theorem d26_274 : Dc method_4_code 274 (.dup) 1 275 := ⟨by decide +kernel, rfl⟩
theorem d26_275 : Dc method_4_code 275 (.bipush 55) 2 277 := ⟨by decide +kernel, rfl⟩
theorem d26_277 : Dc method_4_code 277 (.iload_n 0) 1 278 := ⟨by decide +kernel, rfl⟩
theorem d26_278 : Dc method_4_code 278 (.castore) 1 279 := ⟨by decide +kernel, rfl⟩
theorem d26_279 : Dc method_4_code 279 (.dup) 1 280 := ⟨by decide +kernel, rfl⟩
theorem d26_280 : Dc method_4_code 280 (.bipush 56) 2 282 := ⟨by decide +kernel, rfl⟩
theorem d26_282 : Dc method_4_code 282 (.iload_n 0) 1 283 := ⟨by decide +kernel, rfl⟩
theorem d26_283 : Dc method_4_code 283 (.castore) 1 284 := ⟨by decide +kernel, rfl⟩
theorem d26_284 : Dc method_4_code 284 (.dup) 1 285 := ⟨by decide +kernel, rfl⟩
theorem d26_285 : Dc method_4_code 285 (.bipush 57) 2 287 := ⟨by decide +kernel, rfl⟩
theorem d26_287 : Dc method_4_code 287 (.iload_n 0) 1 288 := ⟨by decide +kernel, rfl⟩
theorem d26_288 : Dc method_4_code 288 (.castore) 1 289 := ⟨by decide +kernel, rfl⟩
theorem d26_289 : Dc method_4_code 289 (.dup) 1 290 := ⟨by decide +kernel, rfl⟩
theorem d26_290 : Dc method_4_code 290 (.bipush 58) 2 292 := ⟨by decide +kernel, rfl⟩
theorem d26_292 : Dc method_4_code 292 (.iload_n 0) 1 293 := ⟨by decide +kernel, rfl⟩
theorem d26_293 : Dc method_4_code 293 (.castore) 1 294 := ⟨by decide +kernel, rfl⟩
theorem d26_294 : Dc method_4_code 294 (.dup) 1 295 := ⟨by decide +kernel, rfl⟩
theorem d26_295 : Dc method_4_code 295 (.bipush 59) 2 297 := ⟨by decide +kernel, rfl⟩
theorem d26_297 : Dc method_4_code 297 (.iload_n 0) 1 298 := ⟨by decide +kernel, rfl⟩
theorem d26_298 : Dc method_4_code 298 (.castore) 1 299 := ⟨by decide +kernel, rfl⟩
theorem d26_299 : Dc method_4_code 299 (.dup) 1 300 := ⟨by decide +kernel, rfl⟩
theorem d26_300 : Dc method_4_code 300 (.bipush 60) 2 302 := ⟨by decide +kernel, rfl⟩
theorem d26_302 : Dc method_4_code 302 (.iload_n 0) 1 303 := ⟨by decide +kernel, rfl⟩
theorem d26_303 : Dc method_4_code 303 (.castore) 1 304 := ⟨by decide +kernel, rfl⟩
theorem d26_304 : Dc method_4_code 304 (.dup) 1 305 := ⟨by decide +kernel, rfl⟩
theorem d26_305 : Dc method_4_code 305 (.bipush 61) 2 307 := ⟨by decide +kernel, rfl⟩
theorem d26_307 : Dc method_4_code 307 (.iload_n 0) 1 308 := ⟨by decide +kernel, rfl⟩
theorem d26_308 : Dc method_4_code 308 (.castore) 1 309 := ⟨by decide +kernel, rfl⟩
theorem d26_309 : Dc method_4_code 309 (.dup) 1 310 := ⟨by decide +kernel, rfl⟩
theorem d26_310 : Dc method_4_code 310 (.bipush 62) 2 312 := ⟨by decide +kernel, rfl⟩
theorem d26_312 : Dc method_4_code 312 (.iload_n 0) 1 313 := ⟨by decide +kernel, rfl⟩
theorem d26_313 : Dc method_4_code 313 (.castore) 1 314 := ⟨by decide +kernel, rfl⟩
theorem d26_314 : Dc method_4_code 314 (.dup) 1 315 := ⟨by decide +kernel, rfl⟩
theorem d26_315 : Dc method_4_code 315 (.bipush 63) 2 317 := ⟨by decide +kernel, rfl⟩
theorem d26_317 : Dc method_4_code 317 (.iload_n 0) 1 318 := ⟨by decide +kernel, rfl⟩
theorem d26_318 : Dc method_4_code 318 (.castore) 1 319 := ⟨by decide +kernel, rfl⟩
theorem d26_319 : Dc method_4_code 319 (.dup) 1 320 := ⟨by decide +kernel, rfl⟩
theorem d26_320 : Dc method_4_code 320 (.bipush 64) 2 322 := ⟨by decide +kernel, rfl⟩
theorem d26_322 : Dc method_4_code 322 (.iload_n 0) 1 323 := ⟨by decide +kernel, rfl⟩
theorem d26_323 : Dc method_4_code 323 (.castore) 1 324 := ⟨by decide +kernel, rfl⟩
theorem d26_324 : Dc method_4_code 324 (.dup) 1 325 := ⟨by decide +kernel, rfl⟩
theorem d26_325 : Dc method_4_code 325 (.bipush 65) 2 327 := ⟨by decide +kernel, rfl⟩
theorem d26_327 : Dc method_4_code 327 (.iload_n 0) 1 328 := ⟨by decide +kernel, rfl⟩
theorem d26_328 : Dc method_4_code 328 (.castore) 1 329 := ⟨by decide +kernel, rfl⟩
theorem d26_329 : Dc method_4_code 329 (.dup) 1 330 := ⟨by decide +kernel, rfl⟩
theorem d26_330 : Dc method_4_code 330 (.bipush 66) 2 332 := ⟨by decide +kernel, rfl⟩
theorem d26_332 : Dc method_4_code 332 (.iload_n 0) 1 333 := ⟨by decide +kernel, rfl⟩
theorem d26_333 : Dc method_4_code 333 (.castore) 1 334 := ⟨by decide +kernel, rfl⟩
theorem d26_334 : Dc method_4_code 334 (.dup) 1 335 := ⟨by decide +kernel, rfl⟩
theorem d26_335 : Dc method_4_code 335 (.bipush 67) 2 337 := ⟨by decide +kernel, rfl⟩
theorem d26_337 : Dc method_4_code 337 (.iload_n 0) 1 338 := ⟨by decide +kernel, rfl⟩
theorem d26_338 : Dc method_4_code 338 (.castore) 1 339 := ⟨by decide +kernel, rfl⟩
theorem d26_339 : Dc method_4_code 339 (.dup) 1 340 := ⟨by decide +kernel, rfl⟩
theorem d26_340 : Dc method_4_code 340 (.bipush 68) 2 342 := ⟨by decide +kernel, rfl⟩
theorem d26_342 : Dc method_4_code 342 (.iload_n 0) 1 343 := ⟨by decide +kernel, rfl⟩
theorem d26_343 : Dc method_4_code 343 (.castore) 1 344 := ⟨by decide +kernel, rfl⟩
theorem d26_344 : Dc method_4_code 344 (.dup) 1 345 := ⟨by decide +kernel, rfl⟩
theorem d26_345 : Dc method_4_code 345 (.bipush 69) 2 347 := ⟨by decide +kernel, rfl⟩
theorem d26_347 : Dc method_4_code 347 (.iload_n 0) 1 348 := ⟨by decide +kernel, rfl⟩
theorem d26_348 : Dc method_4_code 348 (.castore) 1 349 := ⟨by decide +kernel, rfl⟩
theorem d26_349 : Dc method_4_code 349 (.dup) 1 350 := ⟨by decide +kernel, rfl⟩
theorem d26_350 : Dc method_4_code 350 (.bipush 70) 2 352 := ⟨by decide +kernel, rfl⟩
theorem d26_352 : Dc method_4_code 352 (.iload_n 0) 1 353 := ⟨by decide +kernel, rfl⟩
theorem d26_353 : Dc method_4_code 353 (.castore) 1 354 := ⟨by decide +kernel, rfl⟩
theorem d26_354 : Dc method_4_code 354 (.dup) 1 355 := ⟨by decide +kernel, rfl⟩
theorem d26_355 : Dc method_4_code 355 (.bipush 71) 2 357 := ⟨by decide +kernel, rfl⟩
theorem d26_357 : Dc method_4_code 357 (.iload_n 0) 1 358 := ⟨by decide +kernel, rfl⟩
theorem d26_358 : Dc method_4_code 358 (.castore) 1 359 := ⟨by decide +kernel, rfl⟩
theorem d26_359 : Dc method_4_code 359 (.dup) 1 360 := ⟨by decide +kernel, rfl⟩
theorem d26_360 : Dc method_4_code 360 (.bipush 72) 2 362 := ⟨by decide +kernel, rfl⟩
theorem d26_362 : Dc method_4_code 362 (.iload_n 0) 1 363 := ⟨by decide +kernel, rfl⟩
theorem d26_363 : Dc method_4_code 363 (.castore) 1 364 := ⟨by decide +kernel, rfl⟩
theorem d26_364 : Dc method_4_code 364 (.dup) 1 365 := ⟨by decide +kernel, rfl⟩
theorem d26_365 : Dc method_4_code 365 (.bipush 73) 2 367 := ⟨by decide +kernel, rfl⟩
theorem d26_367 : Dc method_4_code 367 (.iload_n 0) 1 368 := ⟨by decide +kernel, rfl⟩
theorem d26_368 : Dc method_4_code 368 (.castore) 1 369 := ⟨by decide +kernel, rfl⟩
theorem d26_369 : Dc method_4_code 369 (.dup) 1 370 := ⟨by decide +kernel, rfl⟩
theorem d26_370 : Dc method_4_code 370 (.bipush 74) 2 372 := ⟨by decide +kernel, rfl⟩
theorem d26_372 : Dc method_4_code 372 (.iload_n 0) 1 373 := ⟨by decide +kernel, rfl⟩
theorem d26_373 : Dc method_4_code 373 (.castore) 1 374 := ⟨by decide +kernel, rfl⟩
theorem d26_374 : Dc method_4_code 374 (.dup) 1 375 := ⟨by decide +kernel, rfl⟩
theorem d26_375 : Dc method_4_code 375 (.bipush 75) 2 377 := ⟨by decide +kernel, rfl⟩
theorem d26_377 : Dc method_4_code 377 (.iload_n 0) 1 378 := ⟨by decide +kernel, rfl⟩
theorem d26_378 : Dc method_4_code 378 (.castore) 1 379 := ⟨by decide +kernel, rfl⟩
theorem d26_379 : Dc method_4_code 379 (.dup) 1 380 := ⟨by decide +kernel, rfl⟩
theorem d26_380 : Dc method_4_code 380 (.bipush 76) 2 382 := ⟨by decide +kernel, rfl⟩
theorem d26_382 : Dc method_4_code 382 (.iload_n 0) 1 383 := ⟨by decide +kernel, rfl⟩
theorem d26_383 : Dc method_4_code 383 (.castore) 1 384 := ⟨by decide +kernel, rfl⟩
theorem d26_384 : Dc method_4_code 384 (.dup) 1 385 := ⟨by decide +kernel, rfl⟩
theorem d26_385 : Dc method_4_code 385 (.bipush 77) 2 387 := ⟨by decide +kernel, rfl⟩
theorem d26_387 : Dc method_4_code 387 (.iload_n 0) 1 388 := ⟨by decide +kernel, rfl⟩
theorem d26_388 : Dc method_4_code 388 (.castore) 1 389 := ⟨by decide +kernel, rfl⟩
theorem d26_389 : Dc method_4_code 389 (.dup) 1 390 := ⟨by decide +kernel, rfl⟩
theorem d26_390 : Dc method_4_code 390 (.bipush 78) 2 392 := ⟨by decide +kernel, rfl⟩
theorem d26_392 : Dc method_4_code 392 (.iload_n 0) 1 393 := ⟨by decide +kernel, rfl⟩
theorem d26_393 : Dc method_4_code 393 (.castore) 1 394 := ⟨by decide +kernel, rfl⟩
theorem d26_394 : Dc method_4_code 394 (.dup) 1 395 := ⟨by decide +kernel, rfl⟩
theorem d26_395 : Dc method_4_code 395 (.bipush 79) 2 397 := ⟨by decide +kernel, rfl⟩
theorem d26_397 : Dc method_4_code 397 (.iload_n 0) 1 398 := ⟨by decide +kernel, rfl⟩
theorem d26_398 : Dc method_4_code 398 (.castore) 1 399 := ⟨by decide +kernel, rfl⟩
theorem d26_399 : Dc method_4_code 399 (.dup) 1 400 := ⟨by decide +kernel, rfl⟩
theorem d26_400 : Dc method_4_code 400 (.bipush 80) 2 402 := ⟨by decide +kernel, rfl⟩
theorem d26_402 : Dc method_4_code 402 (.iload_n 0) 1 403 := ⟨by decide +kernel, rfl⟩
theorem d26_403 : Dc method_4_code 403 (.castore) 1 404 := ⟨by decide +kernel, rfl⟩
theorem d26_404 : Dc method_4_code 404 (.dup) 1 405 := ⟨by decide +kernel, rfl⟩
theorem d26_405 : Dc method_4_code 405 (.bipush 81) 2 407 := ⟨by decide +kernel, rfl⟩
theorem d26_407 : Dc method_4_code 407 (.iload_n 0) 1 408 := ⟨by decide +kernel, rfl⟩
theorem d26_408 : Dc method_4_code 408 (.castore) 1 409 := ⟨by decide +kernel, rfl⟩
theorem d26_409 : Dc method_4_code 409 (.dup) 1 410 := ⟨by decide +kernel, rfl⟩
theorem d26_410 : Dc method_4_code 410 (.bipush 82) 2 412 := ⟨by decide +kernel, rfl⟩
theorem d26_412 : Dc method_4_code 412 (.iload_n 0) 1 413 := ⟨by decide +kernel, rfl⟩
theorem d26_413 : Dc method_4_code 413 (.castore) 1 414 := ⟨by decide +kernel, rfl⟩
theorem d26_414 : Dc method_4_code 414 (.dup) 1 415 := ⟨by decide +kernel, rfl⟩
theorem d26_415 : Dc method_4_code 415 (.bipush 83) 2 417 := ⟨by decide +kernel, rfl⟩
theorem d26_417 : Dc method_4_code 417 (.iload_n 0) 1 418 := ⟨by decide +kernel, rfl⟩
theorem d26_418 : Dc method_4_code 418 (.castore) 1 419 := ⟨by decide +kernel, rfl⟩
theorem d26_419 : Dc method_4_code 419 (.dup) 1 420 := ⟨by decide +kernel, rfl⟩
theorem d26_420 : Dc method_4_code 420 (.bipush 84) 2 422 := ⟨by decide +kernel, rfl⟩
theorem d26_422 : Dc method_4_code 422 (.iload_n 0) 1 423 := ⟨by decide +kernel, rfl⟩
theorem d26_423 : Dc method_4_code 423 (.castore) 1 424 := ⟨by decide +kernel, rfl⟩
theorem d26_424 : Dc method_4_code 424 (.dup) 1 425 := ⟨by decide +kernel, rfl⟩
theorem d26_425 : Dc method_4_code 425 (.bipush 85) 2 427 := ⟨by decide +kernel, rfl⟩
theorem d26_427 : Dc method_4_code 427 (.iload_n 0) 1 428 := ⟨by decide +kernel, rfl⟩
theorem d26_428 : Dc method_4_code 428 (.castore) 1 429 := ⟨by decide +kernel, rfl⟩
theorem d26_429 : Dc method_4_code 429 (.dup) 1 430 := ⟨by decide +kernel, rfl⟩
theorem d26_430 : Dc method_4_code 430 (.bipush 86) 2 432 := ⟨by decide +kernel, rfl⟩
theorem d26_432 : Dc method_4_code 432 (.iload_n 0) 1 433 := ⟨by decide +kernel, rfl⟩
theorem d26_433 : Dc method_4_code 433 (.castore) 1 434 := ⟨by decide +kernel, rfl⟩
theorem d26_434 : Dc method_4_code 434 (.dup) 1 435 := ⟨by decide +kernel, rfl⟩
theorem d26_435 : Dc method_4_code 435 (.bipush 87) 2 437 := ⟨by decide +kernel, rfl⟩
theorem d26_437 : Dc method_4_code 437 (.iload_n 0) 1 438 := ⟨by decide +kernel, rfl⟩
theorem d26_438 : Dc method_4_code 438 (.castore) 1 439 := ⟨by decide +kernel, rfl⟩
theorem d26_439 : Dc method_4_code 439 (.dup) 1 440 := ⟨by decide +kernel, rfl⟩
theorem d26_440 : Dc method_4_code 440 (.bipush 88) 2 442 := ⟨by decide +kernel, rfl⟩
theorem d26_442 : Dc method_4_code 442 (.iload_n 0) 1 443 := ⟨by decide +kernel, rfl⟩
theorem d26_443 : Dc method_4_code 443 (.castore) 1 444 := ⟨by decide +kernel, rfl⟩
theorem d26_444 : Dc method_4_code 444 (.dup) 1 445 := ⟨by decide +kernel, rfl⟩
theorem d26_445 : Dc method_4_code 445 (.bipush 89) 2 447 := ⟨by decide +kernel, rfl⟩
theorem d26_447 : Dc method_4_code 447 (.iload_n 0) 1 448 := ⟨by decide +kernel, rfl⟩
theorem d26_448 : Dc method_4_code 448 (.castore) 1 449 := ⟨by decide +kernel, rfl⟩
theorem d26_449 : Dc method_4_code 449 (.dup) 1 450 := ⟨by decide +kernel, rfl⟩
theorem d26_450 : Dc method_4_code 450 (.bipush 90) 2 452 := ⟨by decide +kernel, rfl⟩
theorem d26_452 : Dc method_4_code 452 (.iload_n 0) 1 453 := ⟨by decide +kernel, rfl⟩
theorem d26_453 : Dc method_4_code 453 (.castore) 1 454 := ⟨by decide +kernel, rfl⟩
theorem d26_454 : Dc method_4_code 454 (.dup) 1 455 := ⟨by decide +kernel, rfl⟩
theorem d26_455 : Dc method_4_code 455 (.bipush 91) 2 457 := ⟨by decide +kernel, rfl⟩
theorem d26_457 : Dc method_4_code 457 (.iload_n 0) 1 458 := ⟨by decide +kernel, rfl⟩
theorem d26_458 : Dc method_4_code 458 (.castore) 1 459 := ⟨by decide +kernel, rfl⟩
theorem d26_459 : Dc method_4_code 459 (.dup) 1 460 := ⟨by decide +kernel, rfl⟩
theorem d26_460 : Dc method_4_code 460 (.bipush 92) 2 462 := ⟨by decide +kernel, rfl⟩
theorem d26_462 : Dc method_4_code 462 (.iload_n 0) 1 463 := ⟨by decide +kernel, rfl⟩
theorem d26_463 : Dc method_4_code 463 (.castore) 1 464 := ⟨by decide +kernel, rfl⟩
theorem d26_464 : Dc method_4_code 464 (.dup) 1 465 := ⟨by decide +kernel, rfl⟩
theorem d26_465 : Dc method_4_code 465 (.bipush 93) 2 467 := ⟨by decide +kernel, rfl⟩
theorem d26_467 : Dc method_4_code 467 (.iload_n 0) 1 468 := ⟨by decide +kernel, rfl⟩
theorem d26_468 : Dc method_4_code 468 (.castore) 1 469 := ⟨by decide +kernel, rfl⟩
theorem d26_469 : Dc method_4_code 469 (.dup) 1 470 := ⟨by decide +kernel, rfl⟩
theorem d26_470 : Dc method_4_code 470 (.bipush 94) 2 472 := ⟨by decide +kernel, rfl⟩
theorem d26_472 : Dc method_4_code 472 (.iload_n 0) 1 473 := ⟨by decide +kernel, rfl⟩
theorem d26_473 : Dc method_4_code 473 (.castore) 1 474 := ⟨by decide +kernel, rfl⟩
theorem d26_474 : Dc method_4_code 474 (.dup) 1 475 := ⟨by decide +kernel, rfl⟩
theorem d26_475 : Dc method_4_code 475 (.bipush 95) 2 477 := ⟨by decide +kernel, rfl⟩
theorem d26_477 : Dc method_4_code 477 (.iload_n 0) 1 478 := ⟨by decide +kernel, rfl⟩
theorem d26_478 : Dc method_4_code 478 (.castore) 1 479 := ⟨by decide +kernel, rfl⟩
theorem d26_479 : Dc method_4_code 479 (.dup) 1 480 := ⟨by decide +kernel, rfl⟩
theorem d26_480 : Dc method_4_code 480 (.bipush 96) 2 482 := ⟨by decide +kernel, rfl⟩
theorem d26_482 : Dc method_4_code 482 (.iload_n 0) 1 483 := ⟨by decide +kernel, rfl⟩
theorem d26_483 : Dc method_4_code 483 (.castore) 1 484 := ⟨by decide +kernel, rfl⟩
theorem d26_484 : Dc method_4_code 484 (.dup) 1 485 := ⟨by decide +kernel, rfl⟩
theorem d26_485 : Dc method_4_code 485 (.bipush 97) 2 487 := ⟨by decide +kernel, rfl⟩
theorem d26_487 : Dc method_4_code 487 (.iload_n 0) 1 488 := ⟨by decide +kernel, rfl⟩
theorem d26_488 : Dc method_4_code 488 (.castore) 1 489 := ⟨by decide +kernel, rfl⟩
theorem d26_489 : Dc method_4_code 489 (.dup) 1 490 := ⟨by decide +kernel, rfl⟩
theorem d26_490 : Dc method_4_code 490 (.bipush 98) 2 492 := ⟨by decide +kernel, rfl⟩
theorem d26_492 : Dc method_4_code 492 (.iload_n 0) 1 493 := ⟨by decide +kernel, rfl⟩
theorem d26_493 : Dc method_4_code 493 (.castore) 1 494 := ⟨by decide +kernel, rfl⟩
theorem d26_494 : Dc method_4_code 494 (.dup) 1 495 := ⟨by decide +kernel, rfl⟩
theorem d26_495 : Dc method_4_code 495 (.bipush 99) 2 497 := ⟨by decide +kernel, rfl⟩
theorem d26_497 : Dc method_4_code 497 (.iload_n 0) 1 498 := ⟨by decide +kernel, rfl⟩
theorem d26_498 : Dc method_4_code 498 (.castore) 1 499 := ⟨by decide +kernel, rfl⟩
theorem d26_499 : Dc method_4_code 499 (.dup) 1 500 := ⟨by decide +kernel, rfl⟩
theorem d26_500 : Dc method_4_code 500 (.bipush 100) 2 502 := ⟨by decide +kernel, rfl⟩
theorem d26_502 : Dc method_4_code 502 (.iload_n 0) 1 503 := ⟨by decide +kernel, rfl⟩
theorem d26_503 : Dc method_4_code 503 (.castore) 1 504 := ⟨by decide +kernel, rfl⟩
theorem d26_504 : Dc method_4_code 504 (.dup) 1 505 := ⟨by decide +kernel, rfl⟩
theorem d26_505 : Dc method_4_code 505 (.bipush 101) 2 507 := ⟨by decide +kernel, rfl⟩
theorem d26_507 : Dc method_4_code 507 (.iload_n 0) 1 508 := ⟨by decide +kernel, rfl⟩
theorem d26_508 : Dc method_4_code 508 (.castore) 1 509 := ⟨by decide +kernel, rfl⟩
theorem d26_509 : Dc method_4_code 509 (.dup) 1 510 := ⟨by decide +kernel, rfl⟩
theorem d26_510 : Dc method_4_code 510 (.bipush 102) 2 512 := ⟨by decide +kernel, rfl⟩
theorem d26_512 : Dc method_4_code 512 (.iload_n 0) 1 513 := ⟨by decide +kernel, rfl⟩
theorem d26_513 : Dc method_4_code 513 (.castore) 1 514 := ⟨by decide +kernel, rfl⟩
theorem d26_514 : Dc method_4_code 514 (.dup) 1 515 := ⟨by decide +kernel, rfl⟩
theorem d26_515 : Dc method_4_code 515 (.bipush 103) 2 517 := ⟨by decide +kernel, rfl⟩
theorem d26_517 : Dc method_4_code 517 (.iload_n 0) 1 518 := ⟨by decide +kernel, rfl⟩
theorem d26_518 : Dc method_4_code 518 (.castore) 1 519 := ⟨by decide +kernel, rfl⟩
theorem d26_519 : Dc method_4_code 519 (.dup) 1 520 := ⟨by decide +kernel, rfl⟩
theorem d26_520 : Dc method_4_code 520 (.bipush 104) 2 522 := ⟨by decide +kernel, rfl⟩
theorem d26_522 : Dc method_4_code 522 (.iload_n 0) 1 523 := ⟨by decide +kernel, rfl⟩
theorem d26_523 : Dc method_4_code 523 (.castore) 1 524 := ⟨by decide +kernel, rfl⟩
theorem d26_524 : Dc method_4_code 524 (.dup) 1 525 := ⟨by decide +kernel, rfl⟩
theorem d26_525 : Dc method_4_code 525 (.bipush 105) 2 527 := ⟨by decide +kernel, rfl⟩
theorem d26_527 : Dc method_4_code 527 (.iload_n 0) 1 528 := ⟨by decide +kernel, rfl⟩
theorem d26_528 : Dc method_4_code 528 (.castore) 1 529 := ⟨by decide +kernel, rfl⟩
theorem d26_529 : Dc method_4_code 529 (.dup) 1 530 := ⟨by decide +kernel, rfl⟩
theorem d26_530 : Dc method_4_code 530 (.bipush 106) 2 532 := ⟨by decide +kernel, rfl⟩
theorem d26_532 : Dc method_4_code 532 (.iload_n 0) 1 533 := ⟨by decide +kernel, rfl⟩
theorem d26_533 : Dc method_4_code 533 (.castore) 1 534 := ⟨by decide +kernel, rfl⟩
theorem d26_534 : Dc method_4_code 534 (.dup) 1 535 := ⟨by decide +kernel, rfl⟩
theorem d26_535 : Dc method_4_code 535 (.bipush 107) 2 537 := ⟨by decide +kernel, rfl⟩
theorem d26_537 : Dc method_4_code 537 (.iload_n 0) 1 538 := ⟨by decide +kernel, rfl⟩
theorem d26_538 : Dc method_4_code 538 (.castore) 1 539 := ⟨by decide +kernel, rfl⟩
theorem d26_539 : Dc method_4_code 539 (.dup) 1 540 := ⟨by decide +kernel, rfl⟩
theorem d26_540 : Dc method_4_code 540 (.bipush 108) 2 542 := ⟨by decide +kernel, rfl⟩
theorem d26_542 : Dc method_4_code 542 (.iload_n 0) 1 543 := ⟨by decide +kernel, rfl⟩
theorem d26_543 : Dc method_4_code 543 (.castore) 1 544 := ⟨by decide +kernel, rfl⟩
theorem d26_544 : Dc method_4_code 544 (.dup) 1 545 := ⟨by decide +kernel, rfl⟩
theorem d26_545 : Dc method_4_code 545 (.bipush 109) 2 547 := ⟨by decide +kernel, rfl⟩
theorem d26_547 : Dc method_4_code 547 (.iload_n 0) 1 548 := ⟨by decide +kernel, rfl⟩
theorem d26_548 : Dc method_4_code 548 (.castore) 1 549 := ⟨by decide +kernel, rfl⟩
theorem d26_549 : Dc method_4_code 549 (.dup) 1 550 := ⟨by decide +kernel, rfl⟩
theorem d26_550 : Dc method_4_code 550 (.bipush 110) 2 552 := ⟨by decide +kernel, rfl⟩
theorem d26_552 : Dc method_4_code 552 (.iload_n 0) 1 553 := ⟨by decide +kernel, rfl⟩
theorem d26_553 : Dc method_4_code 553 (.castore) 1 554 := ⟨by decide +kernel, rfl⟩
theorem d26_554 : Dc method_4_code 554 (.dup) 1 555 := ⟨by decide +kernel, rfl⟩
theorem d26_555 : Dc method_4_code 555 (.bipush 111) 2 557 := ⟨by decide +kernel, rfl⟩
theorem d26_557 : Dc method_4_code 557 (.iload_n 0) 1 558 := ⟨by decide +kernel, rfl⟩
theorem d26_558 : Dc method_4_code 558 (.castore) 1 559 := ⟨by decide +kernel, rfl⟩
theorem d26_559 : Dc method_4_code 559 (.dup) 1 560 := ⟨by decide +kernel, rfl⟩
theorem d26_560 : Dc method_4_code 560 (.bipush 112) 2 562 := ⟨by decide +kernel, rfl⟩
theorem d26_562 : Dc method_4_code 562 (.iload_n 0) 1 563 := ⟨by decide +kernel, rfl⟩
theorem d26_563 : Dc method_4_code 563 (.castore) 1 564 := ⟨by decide +kernel, rfl⟩
theorem d26_564 : Dc method_4_code 564 (.dup) 1 565 := ⟨by decide +kernel, rfl⟩
theorem d26_565 : Dc method_4_code 565 (.bipush 113) 2 567 := ⟨by decide +kernel, rfl⟩
theorem d26_567 : Dc method_4_code 567 (.iload_n 0) 1 568 := ⟨by decide +kernel, rfl⟩
theorem d26_568 : Dc method_4_code 568 (.castore) 1 569 := ⟨by decide +kernel, rfl⟩
theorem d26_569 : Dc method_4_code 569 (.dup) 1 570 := ⟨by decide +kernel, rfl⟩
theorem d26_570 : Dc method_4_code 570 (.bipush 114) 2 572 := ⟨by decide +kernel, rfl⟩
theorem d26_572 : Dc method_4_code 572 (.iload_n 0) 1 573 := ⟨by decide +kernel, rfl⟩
theorem d26_573 : Dc method_4_code 573 (.castore) 1 574 := ⟨by decide +kernel, rfl⟩
theorem d26_574 : Dc method_4_code 574 (.dup) 1 575 := ⟨by decide +kernel, rfl⟩
theorem d26_575 : Dc method_4_code 575 (.bipush 115) 2 577 := ⟨by decide +kernel, rfl⟩
theorem d26_577 : Dc method_4_code 577 (.iload_n 0) 1 578 := ⟨by decide +kernel, rfl⟩
theorem d26_578 : Dc method_4_code 578 (.castore) 1 579 := ⟨by decide +kernel, rfl⟩
theorem d26_579 : Dc method_4_code 579 (.dup) 1 580 := ⟨by decide +kernel, rfl⟩
theorem d26_580 : Dc method_4_code 580 (.bipush 116) 2 582 := ⟨by decide +kernel, rfl⟩
theorem d26_582 : Dc method_4_code 582 (.iload_n 0) 1 583 := ⟨by decide +kernel, rfl⟩
theorem d26_583 : Dc method_4_code 583 (.castore) 1 584 := ⟨by decide +kernel, rfl⟩
theorem d26_584 : Dc method_4_code 584 (.dup) 1 585 := ⟨by decide +kernel, rfl⟩
theorem d26_585 : Dc method_4_code 585 (.bipush 117) 2 587 := ⟨by decide +kernel, rfl⟩
theorem d26_587 : Dc method_4_code 587 (.iload_n 0) 1 588 := ⟨by decide +kernel, rfl⟩
theorem d26_588 : Dc method_4_code 588 (.castore) 1 589 := ⟨by decide +kernel, rfl⟩
theorem d26_589 : Dc method_4_code 589 (.dup) 1 590 := ⟨by decide +kernel, rfl⟩
theorem d26_590 : Dc method_4_code 590 (.bipush 118) 2 592 := ⟨by decide +kernel, rfl⟩
theorem d26_592 : Dc method_4_code 592 (.iload_n 0) 1 593 := ⟨by decide +kernel, rfl⟩
theorem d26_593 : Dc method_4_code 593 (.castore) 1 594 := ⟨by decide +kernel, rfl⟩
theorem d26_594 : Dc method_4_code 594 (.dup) 1 595 := ⟨by decide +kernel, rfl⟩
theorem d26_595 : Dc method_4_code 595 (.bipush 119) 2 597 := ⟨by decide +kernel, rfl⟩
theorem d26_597 : Dc method_4_code 597 (.iload_n 0) 1 598 := ⟨by decide +kernel, rfl⟩
theorem d26_598 : Dc method_4_code 598 (.castore) 1 599 := ⟨by decide +kernel, rfl⟩
theorem d26_599 : Dc method_4_code 599 (.dup) 1 600 := ⟨by decide +kernel, rfl⟩
theorem d26_600 : Dc method_4_code 600 (.bipush 120) 2 602 := ⟨by decide +kernel, rfl⟩
theorem d26_602 : Dc method_4_code 602 (.iload_n 0) 1 603 := ⟨by decide +kernel, rfl⟩
theorem d26_603 : Dc method_4_code 603 (.castore) 1 604 := ⟨by decide +kernel, rfl⟩
theorem d26_604 : Dc method_4_code 604 (.dup) 1 605 := ⟨by decide +kernel, rfl⟩
theorem d26_605 : Dc method_4_code 605 (.bipush 121) 2 607 := ⟨by decide +kernel, rfl⟩
theorem d26_607 : Dc method_4_code 607 (.iload_n 0) 1 608 := ⟨by decide +kernel, rfl⟩
theorem d26_608 : Dc method_4_code 608 (.castore) 1 609 := ⟨by decide +kernel, rfl⟩
theorem d26_609 : Dc method_4_code 609 (.dup) 1 610 := ⟨by decide +kernel, rfl⟩
theorem d26_610 : Dc method_4_code 610 (.bipush 122) 2 612 := ⟨by decide +kernel, rfl⟩
theorem d26_612 : Dc method_4_code 612 (.iload_n 0) 1 613 := ⟨by decide +kernel, rfl⟩
theorem d26_613 : Dc method_4_code 613 (.castore) 1 614 := ⟨by decide +kernel, rfl⟩
theorem d26_614 : Dc method_4_code 614 (.dup) 1 615 := ⟨by decide +kernel, rfl⟩
theorem d26_615 : Dc method_4_code 615 (.bipush 123) 2 617 := ⟨by decide +kernel, rfl⟩
theorem d26_617 : Dc method_4_code 617 (.iload_n 0) 1 618 := ⟨by decide +kernel, rfl⟩
theorem d26_618 : Dc method_4_code 618 (.castore) 1 619 := ⟨by decide +kernel, rfl⟩
theorem d26_619 : Dc method_4_code 619 (.dup) 1 620 := ⟨by decide +kernel, rfl⟩
theorem d26_620 : Dc method_4_code 620 (.bipush 124) 2 622 := ⟨by decide +kernel, rfl⟩
theorem d26_622 : Dc method_4_code 622 (.iload_n 0) 1 623 := ⟨by decide +kernel, rfl⟩
theorem d26_623 : Dc method_4_code 623 (.castore) 1 624 := ⟨by decide +kernel, rfl⟩
theorem d26_624 : Dc method_4_code 624 (.dup) 1 625 := ⟨by decide +kernel, rfl⟩
theorem d26_625 : Dc method_4_code 625 (.bipush 125) 2 627 := ⟨by decide +kernel, rfl⟩
theorem d26_627 : Dc method_4_code 627 (.iload_n 0) 1 628 := ⟨by decide +kernel, rfl⟩
theorem d26_628 : Dc method_4_code 628 (.castore) 1 629 := ⟨by decide +kernel, rfl⟩
theorem d26_629 : Dc method_4_code 629 (.dup) 1 630 := ⟨by decide +kernel, rfl⟩
theorem d26_630 : Dc method_4_code 630 (.bipush 126) 2 632 := ⟨by decide +kernel, rfl⟩
theorem d26_632 : Dc method_4_code 632 (.iload_n 0) 1 633 := ⟨by decide +kernel, rfl⟩
theorem d26_633 : Dc method_4_code 633 (.castore) 1 634 := ⟨by decide +kernel, rfl⟩
theorem d26_634 : Dc method_4_code 634 (.dup) 1 635 := ⟨by decide +kernel, rfl⟩
theorem d26_635 : Dc method_4_code 635 (.bipush 127) 2 637 := ⟨by decide +kernel, rfl⟩
theorem d26_637 : Dc method_4_code 637 (.iload_n 0) 1 638 := ⟨by decide +kernel, rfl⟩
theorem d26_638 : Dc method_4_code 638 (.castore) 1 639 := ⟨by decide +kernel, rfl⟩
theorem d26_639 : Dc method_4_code 639 (.areturn) 1 640 := ⟨by decide +kernel, rfl⟩
theorem d27_0 : Dc method_3_code 0 (.iload_n 0) 1 1 := ⟨by decide +kernel, rfl⟩
theorem d27_1 : Dc method_3_code 1 (.invokestatic 7) 3 4 := ⟨by decide +kernel, rfl⟩
theorem d27_4 : Db method_3_code 4 (.ifCond .ne 21) 3 7 (21) 25 := ⟨by decide +kernel, rfl, by decide, by decide⟩
theorem d27_7 : Dc method_3_code 7 (.iload_n 0) 1 8 := ⟨by decide +kernel, rfl⟩
theorem d27_8 : Dc method_3_code 8 (.bipush 46) 2 10 := ⟨by decide +kernel, rfl⟩
theorem d27_10 : Db method_3_code 10 (.if_icmp .eq 15) 3 13 (15) 25 := ⟨by decide +kernel, rfl, by decide, by decide⟩
theorem d27_13 : Dc method_3_code 13 (.iload_n 0) 1 14 := ⟨by decide +kernel, rfl⟩
theorem d27_14 : Dc method_3_code 14 (.bipush 95) 2 16 := ⟨by decide +kernel, rfl⟩
theorem d27_16 : Db method_3_code 16 (.if_icmp .eq 9) 3 19 (9) 25 := ⟨by decide +kernel, rfl, by decide, by decide⟩
theorem d27_19 : Dc method_3_code 19 (.iload_n 0) 1 20 := ⟨by decide +kernel, rfl⟩
theorem d27_20 : Dc method_3_code 20 (.bipush 45) 2 22 := ⟨by decide +kernel, rfl⟩
theorem d27_22 : Db method_3_code 22 (.if_icmp .ne 7) 3 25 (7) 29 := ⟨by decide +kernel, rfl, by decide, by decide⟩
theorem d27_25 : Dc method_3_code 25 (.iconst 1) 1 26 := ⟨by decide +kernel, rfl⟩
theorem d27_26 : Db method_3_code 26 (.goto 4) 3 29 (4) 30 := ⟨by decide +kernel, rfl, by decide, by decide⟩
theorem d27_29 : Dc method_3_code 29 (.iconst 0) 1 30 := ⟨by decide +kernel, rfl⟩
theorem d27_30 : Dc method_3_code 30 (.ireturn) 1 31 := ⟨by decide +kernel, rfl⟩
theorem d28_0 : Dc code 0 (.iload_n 0) 1 1 := ⟨by decide +kernel, rfl⟩
theorem d28_1 : Dc code 1 (.bipush 7) 2 3 := ⟨by decide +kernel, rfl⟩
theorem d28_3 : Dc code 3 (.iand) 1 4 := ⟨by decide +kernel, rfl⟩
theorem d28_4 : Dc code 4 (.istore 6) 2 6 := ⟨by decide +kernel, rfl⟩
theorem d28_6 : Dc code 6 (.iload_n 1) 1 7 := ⟨by decide +kernel, rfl⟩
theorem d28_7 : Dc code 7 (.i2c) 1 8 := ⟨by decide +kernel, rfl⟩
theorem d28_8 : Dc code 8 (.istore 7) 2 10 := ⟨by decide +kernel, rfl⟩
theorem d28_10 : Dc code 10 (.iload_n 2) 1 11 := ⟨by decide +kernel, rfl⟩
theorem d28_11 : Dc code 11 (.i2c) 1 12 := ⟨by decide +kernel, rfl⟩
theorem d28_12 : Dc code 12 (.istore 8) 2 14 := ⟨by decide +kernel, rfl⟩
theorem d28_14 : Dc code 14 (.iload_n 3) 1 15 := ⟨by decide +kernel, rfl⟩
theorem d28_15 : Dc code 15 (.i2c) 1 16 := ⟨by decide +kernel, rfl⟩
theorem d28_16 : Dc code 16 (.istore 9) 2 18 := ⟨by decide +kernel, rfl⟩
theorem d28_18 : Dc code 18 (.iload 4) 2 20 := ⟨by decide +kernel, rfl⟩
theorem d28_20 : Dc code 20 (.i2c) 1 21 := ⟨by decide +kernel, rfl⟩
theorem d28_21 : Dc code 21 (.istore 10) 2 23 := ⟨by decide +kernel, rfl⟩
theorem d28_23 : Dc code 23 (.iload 6) 2 25 := ⟨by decide +kernel, rfl⟩
theorem d28_25 : Db code 25 (.ifCond .ne 16) 3 28 (16) 41 := ⟨by decide +kernel, rfl, by decide, by decide⟩
theorem d28_28 : Dc code 28 (.aconst_null) 1 29 := ⟨by decide +kernel, rfl⟩
theorem d28_29 : Dc code 29 (.invokestatic 13) 3 32 := ⟨by decide +kernel, rfl⟩
theorem d28_32 : Db code 32 (.ifCond .ne 7) 3 35 (7) 39 := ⟨by decide +kernel, rfl, by decide, by decide⟩
theorem d28_35 : Dc code 35 (.iconst 1) 1 36 := ⟨by decide +kernel, rfl⟩
theorem d28_36 : Db code 36 (.goto 4) 3 39 (4) 40 := ⟨by decide +kernel, rfl, by decide, by decide⟩
theorem d28_40 : Dc code 40 (.ireturn) 1 41 := ⟨by decide +kernel, rfl⟩
theorem d28_41 : Dc code 41 (.iload 6) 2 43 := ⟨by decide +kernel, rfl⟩
theorem d28_43 : Dc code 43 (.iconst 5) 1 44 := ⟨by decide +kernel, rfl⟩
theorem d28_44 : Db code 44 (.if_icmp .gt 245) 3 47 (245) 289 := ⟨by decide +kernel, rfl, by decide, by decide⟩
theorem d28_47 : Dc code 47 (.iload 6) 2 49 := ⟨by decide +kernel, rfl⟩
theorem d28_49 : Dc code 49 (.iconst 1) 1 50 := ⟨by decide +kernel, rfl⟩
theorem d28_50 : Dc code 50 (.isub) 1 51 := ⟨by decide +kernel, rfl⟩
theorem d28_51 : Dc code 51 (.istore 11) 2 53 := ⟨by decide +kernel, rfl⟩
theorem d28_53 : Dc code 53 (.iload 11) 2 55 := ⟨by decide +kernel, rfl⟩
theorem d28_55 : Db code 55 (.ifCond .ne 14) 3 58 (14) 69 := ⟨by decide +kernel, rfl, by decide, by decide⟩
theorem d28_58 : Dc code 58 (.iconst 0) 1 59 := ⟨by decide +kernel, rfl⟩
theorem d28_59 : Dc code 59 (.newarray .char) 2 61 := ⟨by decide +kernel, rfl⟩
theorem d28_61 : Dc code 61 (.astore 12) 2 63 := ⟨by decide +kernel, rfl⟩
theorem d28_63 : Dc code 63 (.iconst 0) 1 64 := ⟨by decide +kernel, rfl⟩
theorem d28_64 : Dc code 64 (.istore 13) 2 66 := ⟨by decide +kernel, rfl⟩
theorem d28_66 : Db code 66 (.goto 200) 3 69 (200) 266 := ⟨by decide +kernel, rfl, by decide, by decide⟩
theorem d28_69 : Dc code 69 (.iload 11) 2 71 := ⟨by decide +kernel, rfl⟩
theorem d28_71 : Dc code 71 (.iconst 1) 1 72 := ⟨by decide +kernel, rfl⟩
theorem d28_72 : Db code 72 (.if_icmp .ne 23) 3 75 (23) 95 := ⟨by decide +kernel, rfl, by decide, by decide⟩
theorem d28_75 : Dc code 75 (.iconst 1) 1 76 := ⟨by decide +kernel, rfl⟩
theorem d28_76 : Dc code 76 (.newarray .char) 2 78 := ⟨by decide +kernel, rfl⟩
theorem d28_78 : Dc code 78 (.dup) 1 79 := ⟨by decide +kernel, rfl⟩
theorem d28_79 : Dc code 79 (.iconst 0) 1 80 := ⟨by decide +kernel, rfl⟩
theorem d28_80 : Dc code 80 (.iload 7) 2 82 := ⟨by decide +kernel, rfl⟩
theorem d28_82 : Dc code 82 (.castore) 1 83 := ⟨by decide +kernel, rfl⟩
theorem d28_83 : Dc code 83 (.astore 12) 2 85 := ⟨by decide +kernel, rfl⟩
theorem d28_85 : Dc code 85 (.iload 7) 2 87 := ⟨by decide +kernel, rfl⟩
theorem d28_87 : Dc code 87 (.invokestatic 7) 3 90 := ⟨by decide +kernel, rfl⟩
theorem d28_90 : Dc code 90 (.istore 13) 2 92 := ⟨by decide +kernel, rfl⟩
theorem d28_92 : Db code 92 (.goto 174) 3 95 (174) 266 := ⟨by decide +kernel, rfl, by decide, by decide⟩
theorem d28_95 : Dc code 95 (.iload 11) 2 97 := ⟨by decide +kernel, rfl⟩
theorem d28_97 : Dc code 97 (.iconst 2) 1 98 := ⟨by decide +kernel, rfl⟩
theorem d28_98 : Db code 98 (.if_icmp .ne 44) 3 101 (44) 142 := ⟨by decide +kernel, rfl, by decide, by decide⟩
theorem d28_101 : Dc code 101 (.iconst 2) 1 102 := ⟨by decide +kernel, rfl⟩
theorem d28_102 : Dc code 102 (.newarray .char) 2 104 := ⟨by decide +kernel, rfl⟩
theorem d28_104 : Dc code 104 (.dup) 1 105 := ⟨by decide +kernel, rfl⟩
theorem d28_105 : Dc code 105 (.iconst 0) 1 106 := ⟨by decide +kernel, rfl⟩
theorem d28_106 : Dc code 106 (.iload 7) 2 108 := ⟨by decide +kernel, rfl⟩
theorem d28_108 : Dc code 108 (.castore) 1 109 := ⟨by decide +kernel, rfl⟩
theorem d28_109 : Dc code 109 (.dup) 1 110 := ⟨by decide +kernel, rfl⟩
theorem d28_110 : Dc code 110 (.iconst 1) 1 111 := ⟨by decide +kernel, rfl⟩
theorem d28_111 : Dc code 111 (.iload 8) 2 113 := ⟨by decide +kernel, rfl⟩
theorem d28_113 : Dc code 113 (.castore) 1 114 := ⟨by decide +kernel, rfl⟩
theorem d28_114 : Dc code 114 (.astore 12) 2 116 := ⟨by decide +kernel, rfl⟩
theorem d28_116 : Dc code 116 (.iload 7) 2 118 := ⟨by decide +kernel, rfl⟩
theorem d28_118 : Dc code 118 (.invokestatic 7) 3 121 := ⟨by decide +kernel, rfl⟩
theorem d28_121 : Db code 121 (.ifCond .eq 15) 3 124 (15) 136 := ⟨by decide +kernel, rfl, by decide, by decide⟩
theorem d28_124 : Dc code 124 (.iload 8) 2 126 := ⟨by decide +kernel, rfl⟩
theorem d28_126 : Dc code 126 (.invokestatic 19) 3 129 := ⟨by decide +kernel, rfl⟩
theorem d28_129 : Db code 129 (.ifCond .eq 7) 3 132 (7) 136 := ⟨by decide +kernel, rfl, by decide, by decide⟩
theorem d28_132 : Dc code 132 (.iconst 1) 1 133 := ⟨by decide +kernel, rfl⟩
theorem d28_133 : Db code 133 (.goto 4) 3 136 (4) 137 := ⟨by decide +kernel, rfl, by decide, by decide⟩
theorem d28_136 : Dc code 136 (.iconst 0) 1 137 := ⟨by decide +kernel, rfl⟩
theorem d28_137 : Dc code 137 (.istore 13) 2 139 := ⟨by decide +kernel, rfl⟩
theorem d28_139 : Db code 139 (.goto 127) 3 142 (127) 266 := ⟨by decide +kernel, rfl, by decide, by decide⟩
theorem d28_142 : Dc code 142 (.iload 11) 2 144 := ⟨by decide +kernel, rfl⟩
theorem d28_144 : Dc code 144 (.iconst 3) 1 145 := ⟨by decide +kernel, rfl⟩
theorem d28_145 : Db code 145 (.if_icmp .ne 57) 3 148 (57) 202 := ⟨by decide +kernel, rfl, by decide, by decide⟩
theorem d28_148 : Dc code 148 (.iconst 3) 1 149 := ⟨by decide +kernel, rfl⟩
theorem d28_149 : Dc code 149 (.newarray .char) 2 151 := ⟨by decide +kernel, rfl⟩
theorem d28_151 : Dc code 151 (.dup) 1 152 := ⟨by decide +kernel, rfl⟩
theorem d28_152 : Dc code 152 (.iconst 0) 1 153 := ⟨by decide +kernel, rfl⟩
theorem d28_153 : Dc code 153 (.iload 7) 2 155 := ⟨by decide +kernel, rfl⟩
theorem d28_155 : Dc code 155 (.castore) 1 156 := ⟨by decide +kernel, rfl⟩
theorem d28_156 : Dc code 156 (.dup) 1 157 := ⟨by decide +kernel, rfl⟩
theorem d28_157 : Dc code 157 (.iconst 1) 1 158 := ⟨by decide +kernel, rfl⟩
theorem d28_158 : Dc code 158 (.iload 8) 2 160 := ⟨by decide +kernel, rfl⟩
theorem d28_160 : Dc code 160 (.castore) 1 161 := ⟨by decide +kernel, rfl⟩
theorem d28_161 : Dc code 161 (.dup) 1 162 := ⟨by decide +kernel, rfl⟩
theorem d28_162 : Dc code 162 (.iconst 2) 1 163 := ⟨by decide +kernel, rfl⟩
theorem d28_163 : Dc code 163 (.iload 9) 2 165 := ⟨by decide +kernel, rfl⟩
theorem d28_165 : Dc code 165 (.castore) 1 166 := ⟨by decide +kernel, rfl⟩
theorem d28_166 : Dc code 166 (.astore 12) 2 168 := ⟨by decide +kernel, rfl⟩
theorem d28_168 : Dc code 168 (.iload 7) 2 170 := ⟨by decide +kernel, rfl⟩
theorem d28_170 : Dc code 170 (.invokestatic 7) 3 173 := ⟨by decide +kernel, rfl⟩
theorem d28_173 : Db code 173 (.ifCond .eq 23) 3 176 (23) 196 := ⟨by decide +kernel, rfl, by decide, by decide⟩
theorem d28_176 : Dc code 176 (.iload 8) 2 178 := ⟨by decide +kernel, rfl⟩
theorem d28_178 : Dc code 178 (.invokestatic 19) 3 181 := ⟨by decide +kernel, rfl⟩
theorem d28_181 : Db code 181 (.ifCond .eq 15) 3 184 (15) 196 := ⟨by decide +kernel, rfl, by decide, by decide⟩
theorem d28_184 : Dc code 184 (.iload 9) 2 186 := ⟨by decide +kernel, rfl⟩
theorem d28_186 : Dc code 186 (.invokestatic 19) 3 189 := ⟨by decide +kernel, rfl⟩
theorem d28_189 : Db code 189 (.ifCond .eq 7) 3 192 (7) 196 := ⟨by decide +kernel, rfl, by decide, by decide⟩
theorem d28_192 : Dc code 192 (.iconst 1) 1 193 := ⟨by decide +kernel, rfl⟩
theorem d28_193 : Db code 193 (.goto 4) 3 196 (4) 197 := ⟨by decide +kernel, rfl, by decide, by decide⟩
theorem d28_196 : Dc code 196 (.iconst 0) 1 197 := ⟨by decide +kernel, rfl⟩
theorem d28_197 : Dc code 197 (.istore 13) 2 199 := ⟨by decide +kernel, rfl⟩
theorem d28_199 : Db code 199 (.goto 67) 3 202 (67) 266 := ⟨by decide +kernel, rfl, by decide, by decide⟩
theorem d28_202 : Dc code 202 (.iconst 4) 1 203 := ⟨by decide +kernel, rfl⟩
theorem d28_203 : Dc code 203 (.newarray .char) 2 205 := ⟨by decide +kernel, rfl⟩
theorem d28_205 : Dc code 205 (.dup) 1 206 := ⟨by decide +kernel, rfl⟩
theorem d28_206 : Dc code 206 (.iconst 0) 1 207 := ⟨by decide +kernel, rfl⟩
theorem d28_207 : Dc code 207 (.iload 7) 2 209 := ⟨by decide +kernel, rfl⟩
theorem d28_209 : Dc code 209 (.castore) 1 210 := ⟨by decide +kernel, rfl⟩
theorem d28_210 : Dc code 210 (.dup) 1 211 := ⟨by decide +kernel, rfl⟩
theorem d28_211 : Dc code 211 (.iconst 1) 1 212 := ⟨by decide +kernel, rfl⟩
theorem d28_212 : Dc code 212 (.iload 8) 2 214 := ⟨by decide +kernel, rfl⟩
theorem d28_214 : Dc code 214 (.castore) 1 215 := ⟨by decide +kernel, rfl⟩
theorem d28_215 : Dc code 215 (.dup) 1 216 := ⟨by decide +kernel, rfl⟩
theorem d28_216 : Dc code 216 (.iconst 2) 1 217 := ⟨by decide +kernel, rfl⟩
theorem d28_217 : Dc code 217 (.iload 9) 2 219 := ⟨by decide +kernel, rfl⟩
theorem d28_219 : Dc code 219 (.castore) 1 220 := ⟨by decide +kernel, rfl⟩
theorem d28_220 : Dc code 220 (.dup) 1 221 := ⟨by decide +kernel, rfl⟩
theorem d28_221 : Dc code 221 (.iconst 3) 1 222 := ⟨by decide +kernel, rfl⟩
theorem d28_222 : Dc code 222 (.iload 10) 2 224 := ⟨by decide +kernel, rfl⟩
theorem d28_224 : Dc code 224 (.castore) 1 225 := ⟨by decide +kernel, rfl⟩
theorem d28_225 : Dc code 225 (.astore 12) 2 227 := ⟨by decide +kernel, rfl⟩
theorem d28_227 : Dc code 227 (.iload 7) 2 229 := ⟨by decide +kernel, rfl⟩
theorem d28_229 : Dc code 229 (.invokestatic 7) 3 232 := ⟨by decide +kernel, rfl⟩
theorem d28_232 : Db code 232 (.ifCond .eq 31) 3 235 (31) 263 := ⟨by decide +kernel, rfl, by decide, by decide⟩
theorem d28_235 : Dc code 235 (.iload 8) 2 237 := ⟨by decide +kernel, rfl⟩
theorem d28_237 : Dc code 237 (.invokestatic 19) 3 240 := ⟨by decide +kernel, rfl⟩
theorem d28_240 : Db code 240 (.ifCond .eq 23) 3 243 (23) 263 := ⟨by decide +kernel, rfl, by decide, by decide⟩
theorem d28_243 : Dc code 243 (.iload 9) 2 245 := ⟨by decide +kernel, rfl⟩
theorem d28_245 : Dc code 245 (.invokestatic 19) 3 248 := ⟨by decide +kernel, rfl⟩
theorem d28_248 : Db code 248 (.ifCond .eq 15) 3 251 (15) 263 := ⟨by decide +kernel, rfl, by decide, by decide⟩
theorem d28_251 : Dc code 251 (.iload 10) 2 253 := ⟨by decide +kernel, rfl⟩
theorem d28_253 : Dc code 253 (.invokestatic 19) 3 256 := ⟨by decide +kernel, rfl⟩
theorem d28_256 : Db code 256 (.ifCond .eq 7) 3 259 (7) 263 := ⟨by decide +kernel, rfl, by decide, by decide⟩
theorem d28_259 : Dc code 259 (.iconst 1) 1 260 := ⟨by decide +kernel, rfl⟩
theorem d28_260 : Db code 260 (.goto 4) 3 263 (4) 264 := ⟨by decide +kernel, rfl, by decide, by decide⟩
theorem d28_263 : Dc code 263 (.iconst 0) 1 264 := ⟨by decide +kernel, rfl⟩
theorem d28_264 : Dc code 264 (.istore 13) 2 266 := ⟨by decide +kernel, rfl⟩
theorem d28_266 : Dc code 266 (.new 22) 3 269 := ⟨by decide +kernel, rfl⟩
theorem d28_269 : Dc code 269 (.dup) 1 270 := ⟨by decide +kernel, rfl⟩
theorem d28_270 : Dc code 270 (.aload 12) 2 272 := ⟨by decide +kernel, rfl⟩
theorem d28_272 : Dc code 272 (.invokespecial 24) 3 275 := ⟨by decide +kernel, rfl⟩
theorem d28_275 : Dc code 275 (.invokestatic 13) 3 278 := ⟨by decide +kernel, rfl⟩
theorem d28_278 : Dc code 278 (.iload 13) 2 280 := ⟨by decide +kernel, rfl⟩
theorem d28_280 : Db code 280 (.if_icmp .ne 7) 3 283 (7) 287 := ⟨by decide +kernel, rfl, by decide, by decide⟩
theorem d28_283 : Dc code 283 (.iconst 1) 1 284 := ⟨by decide +kernel, rfl⟩
theorem d28_284 : Db code 284 (.goto 4) 3 287 (4) 288 := ⟨by decide +kernel, rfl, by decide, by decide⟩
theorem d28_288 : Dc code 288 (.ireturn) 1 289 := ⟨by decide +kernel, rfl⟩
theorem d28_289 : Dc code 289 (.iconst 1) 1 290 := ⟨by decide +kernel, rfl⟩
theorem d28_290 : Dc code 290 (.iload 5) 2 292 := ⟨by decide +kernel, rfl⟩
theorem d28_292 : Dc code 292 (.ldc 27) 2 294 := ⟨by decide +kernel, rfl⟩
theorem d28_294 : Dc code 294 (.iand) 1 295 := ⟨by decide +kernel, rfl⟩
theorem d28_295 : Dc code 295 (.bipush 127) 2 297 := ⟨by decide +kernel, rfl⟩
theorem d28_297 : Dc code 297 (.irem) 1 298 := ⟨by decide +kernel, rfl⟩
theorem d28_298 : Dc code 298 (.iadd) 1 299 := ⟨by decide +kernel, rfl⟩
theorem d28_299 : Dc code 299 (.istore 11) 2 301 := ⟨by decide +kernel, rfl⟩
theorem d28_301 : Dc code 301 (.iload 6) 2 303 := ⟨by decide +kernel, rfl⟩
theorem d28_303 : Dc code 303 (.bipush 6) 2 305 := ⟨by decide +kernel, rfl⟩
theorem d28_305 : Db code 305 (.if_icmp .ne 77) 3 308 (77) 382 := ⟨by decide +kernel, rfl, by decide, by decide⟩
theorem d28_308 : Dc code 308 (.iload 7) 2 310 := ⟨by decide +kernel, rfl⟩
theorem d28_310 : Dc code 310 (.invokestatic 28) 3 313 := ⟨by decide +kernel, rfl⟩
theorem d28_313 : Dc code 313 (.astore 12) 2 315 := ⟨by decide +kernel, rfl⟩
theorem d28_315 : Dc code 315 (.aload 12) 2 317 := ⟨by decide +kernel, rfl⟩
theorem d28_317 : Dc code 317 (.iconst 0) 1 318 := ⟨by decide +kernel, rfl⟩
theorem d28_318 : Dc code 318 (.iload 9) 2 320 := ⟨by decide +kernel, rfl⟩
theorem d28_320 : Dc code 320 (.castore) 1 321 := ⟨by decide +kernel, rfl⟩
theorem d28_321 : Dc code 321 (.aload 12) 2 323 := ⟨by decide +kernel, rfl⟩
theorem d28_323 : Dc code 323 (.iload 11) 2 325 := ⟨by decide +kernel, rfl⟩
theorem d28_325 : Dc code 325 (.iload 8) 2 327 := ⟨by decide +kernel, rfl⟩
theorem d28_327 : Dc code 327 (.castore) 1 328 := ⟨by decide +kernel, rfl⟩
theorem d28_328 : Dc code 328 (.iload 9) 2 330 := ⟨by decide +kernel, rfl⟩
theorem d28_330 : Dc code 330 (.invokestatic 7) 3 333 := ⟨by decide +kernel, rfl⟩
theorem d28_333 : Db code 333 (.ifCond .eq 23) 3 336 (23) 356 := ⟨by decide +kernel, rfl, by decide, by decide⟩
theorem d28_336 : Dc code 336 (.iload 7) 2 338 := ⟨by decide +kernel, rfl⟩
theorem d28_338 : Dc code 338 (.invokestatic 19) 3 341 := ⟨by decide +kernel, rfl⟩
theorem d28_341 : Db code 341 (.ifCond .eq 15) 3 344 (15) 356 := ⟨by decide +kernel, rfl, by decide, by decide⟩
theorem d28_344 : Dc code 344 (.iload 8) 2 346 := ⟨by decide +kernel, rfl⟩
theorem d28_346 : Dc code 346 (.invokestatic 19) 3 349 := ⟨by decide +kernel, rfl⟩
theorem d28_349 : Db code 349 (.ifCond .eq 7) 3 352 (7) 356 := ⟨by decide +kernel, rfl, by decide, by decide⟩
theorem d28_352 : Dc code 352 (.iconst 1) 1 353 := ⟨by decide +kernel, rfl⟩
theorem d28_353 : Db code 353 (.goto 4) 3 356 (4) 357 := ⟨by decide +kernel, rfl, by decide, by decide⟩
theorem d28_356 : Dc code 356 (.iconst 0) 1 357 := ⟨by decide +kernel, rfl⟩
theorem d28_357 : Dc code 357 (.istore 13) 2 359 := ⟨by decide +kernel, rfl⟩
theorem d28_359 : Dc code 359 (.new 22) 3 362 := ⟨by decide +kernel, rfl⟩
theorem d28_362 : Dc code 362 (.dup) 1 363 := ⟨by decide +kernel, rfl⟩
theorem d28_363 : Dc code 363 (.aload 12) 2 365 := ⟨by decide +kernel, rfl⟩
theorem d28_365 : Dc code 365 (.invokespecial 24) 3 368 := ⟨by decide +kernel, rfl⟩
theorem d28_368 : Dc code 368 (.invokestatic 13) 3 371 := ⟨by decide +kernel, rfl⟩
theorem d28_371 : Dc code 371 (.iload 13) 2 373 := ⟨by decide +kernel, rfl⟩
theorem d28_373 : Db code 373 (.if_icmp .ne 7) 3 376 (7) 380 := ⟨by decide +kernel, rfl, by decide, by decide⟩
theorem d28_376 : Dc code 376 (.iconst 1) 1 377 := ⟨by decide +kernel, rfl⟩
theorem d28_377 : Db code 377 (.goto 4) 3 380 (4) 381 := ⟨by decide +kernel, rfl, by decide, by decide⟩
theorem d28_381 : Dc code 381 (.ireturn) 1 382 := ⟨by decide +kernel, rfl⟩
theorem d28_382 : Dc code 382 (.iload 7) 2 384 := ⟨by decide +kernel, rfl⟩
theorem d28_384 : Dc code 384 (.invokestatic 32) 3 387 := ⟨by decide +kernel, rfl⟩
theorem d28_387 : Dc code 387 (.astore 12) 2 389 := ⟨by decide +kernel, rfl⟩
theorem d28_389 : Dc code 389 (.aload 12) 2 391 := ⟨by decide +kernel, rfl⟩
theorem d28_391 : Dc code 391 (.iconst 0) 1 392 := ⟨by decide +kernel, rfl⟩
theorem d28_392 : Dc code 392 (.iload 9) 2 394 := ⟨by decide +kernel, rfl⟩
theorem d28_394 : Dc code 394 (.castore) 1 395 := ⟨by decide +kernel, rfl⟩
theorem d28_395 : Dc code 395 (.aload 12) 2 397 := ⟨by decide +kernel, rfl⟩
theorem d28_397 : Dc code 397 (.iload 11) 2 399 := ⟨by decide +kernel, rfl⟩
theorem d28_399 : Dc code 399 (.iload 8) 2 401 := ⟨by decide +kernel, rfl⟩
theorem d28_401 : Dc code 401 (.castore) 1 402 := ⟨by decide +kernel, rfl⟩
theorem d28_402 : Dc code 402 (.new 22) 3 405 := ⟨by decide +kernel, rfl⟩
theorem d28_405 : Dc code 405 (.dup) 1 406 := ⟨by decide +kernel, rfl⟩
theorem d28_406 : Dc code 406 (.aload 12) 2 408 := ⟨by decide +kernel, rfl⟩
theorem d28_408 : Dc code 408 (.invokespecial 24) 3 411 := ⟨by decide +kernel, rfl⟩
theorem d28_411 : Dc code 411 (.invokestatic 13) 3 414 := ⟨by decide +kernel, rfl⟩
theorem d28_414 : Db code 414 (.ifCond .ne 7) 3 417 (7) 421 := ⟨by decide +kernel, rfl, by decide, by decide⟩
theorem d28_417 : Dc code 417 (.iconst 1) 1 418 := ⟨by decide +kernel, rfl⟩
theorem d28_418 : Db code 418 (.goto 4) 3 421 (4) 422 := ⟨by decide +kernel, rfl, by decide, by decide⟩
theorem d28_422 : Dc code 422 (.ireturn) 1 423 := ⟨by decide +kernel, rfl⟩
theorem pd__28C_29Z : parseMethodDescriptor "(C)Z" = some ⟨[.char], some .boolean⟩ := by decide +kernel
theorem pd__28C_29_5bC : parseMethodDescriptor "(C)[C" = some ⟨[.char], some (.array .char)⟩ := by decide +kernel
theorem pd__28IILjava_2futil_2ffunction_2fBiFunction_3b_29I : parseMethodDescriptor "(IILjava/util/function/BiFunction;)I" = some ⟨[.int, .int, (.object "java/util/function/BiFunction")], some .int⟩ := by decide +kernel
theorem pd__28II_29V : parseMethodDescriptor "(II)V" = some ⟨[.int, .int], none⟩ := by decide +kernel
theorem pd__28I_29C : parseMethodDescriptor "(I)C" = some ⟨[.int], some .char⟩ := by decide +kernel
theorem pd__28I_29I : parseMethodDescriptor "(I)I" = some ⟨[.int], some .int⟩ := by decide +kernel
theorem pd__28I_29_5bB : parseMethodDescriptor "(I)[B" = some ⟨[.int], some (.array .byte)⟩ := by decide +kernel
theorem pd__28I_5bB_29V : parseMethodDescriptor "(I[B)V" = some ⟨[.int, (.array .byte)], none⟩ := by decide +kernel
theorem pd__28Ljava_2flang_2fString_3b_29Z : parseMethodDescriptor "(Ljava/lang/String;)Z" = some ⟨[(.object "java/lang/String")], some .boolean⟩ := by decide +kernel
theorem pd__28_29B : parseMethodDescriptor "()B" = some ⟨[], some .byte⟩ := by decide +kernel
theorem pd__28_29I : parseMethodDescriptor "()I" = some ⟨[], some .int⟩ := by decide +kernel
theorem pd__28_29Z : parseMethodDescriptor "()Z" = some ⟨[], some .boolean⟩ := by decide +kernel
theorem pd__28_5bBII_29V : parseMethodDescriptor "([BII)V" = some ⟨[(.array .byte), .int, .int], none⟩ := by decide +kernel
theorem pd__28_5bBI_29B : parseMethodDescriptor "([BI)B" = some ⟨[(.array .byte), .int], some .byte⟩ := by decide +kernel
theorem pd__28_5bBI_29C : parseMethodDescriptor "([BI)C" = some ⟨[(.array .byte), .int], some .char⟩ := by decide +kernel
theorem pd__28_5bB_29I : parseMethodDescriptor "([B)I" = some ⟨[(.array .byte)], some .int⟩ := by decide +kernel
theorem pd__28_5bCIILjava_2flang_2fVoid_3b_29V : parseMethodDescriptor "([CIILjava/lang/Void;)V" = some ⟨[(.array .char), .int, .int, (.object "java/lang/Void")], none⟩ := by decide +kernel
theorem pd__28_5bCII_29_5bB : parseMethodDescriptor "([CII)[B" = some ⟨[(.array .char), .int, .int], some (.array .byte)⟩ := by decide +kernel
theorem pd__28_5bCI_5bBII_29I : parseMethodDescriptor "([CI[BII)I" = some ⟨[(.array .char), .int, (.array .byte), .int, .int], some .int⟩ := by decide +kernel
theorem pd__28_5bC_29V : parseMethodDescriptor "([C)V" = some ⟨[(.array .char)], none⟩ := by decide +kernel
set_option maxRecDepth 65536 in
set_option maxHeartbeats 4000000 in
theorem k_pci {Z : State} {a0 : Array Value} (hw : ∀ d ∈ tables_1, d.before a0 Z = true) (hs : Stt Z) {n0 : Nat} {h0 : Heap} {i n : Int32} {f : Value} (h1 : ¬ i < 0) (h2 : i < n) (hf : f.isRef = true) (O : Old Z n0 h0) :
    Con WD Z EL0 n0 (⟨"jdk/internal/util/Preconditions", "checkIndex", "(IILjava/util/function/BiFunction;)I"⟩ : MethodName) jdk_41_method_11_code 3 (some .int) (Rm 0 0 0 0) [(.int i), (.int n), f] h0 [] (fun v h gs => v = some (.int i) ∧ gs = []) := by
  rcases ref_cases hf with rfl | ⟨r, rfl⟩
  · refine Con.of (a0 := a0) (by first | (simp [plainName, overriddenIn]; done) | decide +kernel) (hEL hw) hWE O (L0 := #[.val (.int i), .val (.int n), .val .null]) (fun m => by first | rfl | (simp [entryFrame, mkF, argsToLocals, Value.category]; done)) ?_
    intro K C hh
    refine Own.iloadN C d15_0 rfl ?_
    refine if_lt C d15_1 (fun q1 => ?_) (fun q1 => ?_)
    · exact absurd q1 h1
    · refine Own.iloadN C d15_4 rfl ?_
      refine Own.iloadN C d15_5 rfl ?_
      refine icmp_lt C d15_6 (fun q2 => ?_) (fun q2 => ?_)
      · refine Own.iloadN C d15_16 rfl ?_
        exact retI_ C (gs := []) d15_17 (dle rfl) (dle rfl) (fun _ q => nomatch q) ⟨rfl, rfl⟩
      · exact absurd h2 q2
  · refine Con.of (a0 := a0) (by first | (simp [plainName, overriddenIn]; done) | decide +kernel) (hEL hw) hWE O (L0 := #[.val (.int i), .val (.int n), .val (.ref r)]) (fun m => by first | rfl | (simp [entryFrame, mkF, argsToLocals, Value.category]; done)) ?_
    intro K C hh
    refine Own.iloadN C d15_0 rfl ?_
    refine if_lt C d15_1 (fun q1 => ?_) (fun q1 => ?_)
    · exact absurd q1 h1
    · refine Own.iloadN C d15_4 rfl ?_
      refine Own.iloadN C d15_5 rfl ?_
      refine icmp_lt C d15_6 (fun q2 => ?_) (fun q2 => ?_)
      · refine Own.iloadN C d15_16 rfl ?_
        exact retI_ C (gs := []) d15_17 (dle rfl) (dle rfl) (fun _ q => nomatch q) ⟨rfl, rfl⟩
      · exact absurd h2 q2
set_option maxRecDepth 65536 in
set_option maxHeartbeats 4000000 in
theorem k_ci {Z : State} {a0 : Array Value} (hw : ∀ d ∈ tables_1, d.before a0 Z = true) (hs : Stt Z) {n0 : Nat} {h0 : Heap} {i n : Int32} (h1 : ¬ i < 0) (h2 : i < n) (O : Old Z n0 h0) :
    Con WD Z EL0 n0 (⟨"java/lang/String", "checkIndex", "(II)V"⟩ : MethodName) jdk_42_method_155_code 2 none (Rm 1 0 0 14) [(.int i), (.int n)] h0 [] (fun v h gs => v = none ∧ gs = []) := by
  refine Con.of (a0 := a0) (by first | (simp [plainName, overriddenIn]; done) | decide +kernel) (hEL hw) hWE O (L0 := #[.val (.int i), .val (.int n)]) (fun m => by first | rfl | (simp [entryFrame, mkF, argsToLocals, Value.category]; done)) ?_
  intro K C hh
  obtain ⟨fv, hfv, Sf⟩ := st_f hs
  refine Own.iloadN C d14_0 rfl ?_
  refine Own.iloadN C d14_1 rfl ?_
  refine getS_ C (hw _ (List.mem_of_getElem? (i := 70) rfl)) Sf d14_2 ?_
  refine callS_ C (as := [(.int i), (.int n), fv]) (st := []) (hw _ (List.mem_of_getElem? (i := 72) rfl)) (hw _ (List.mem_of_getElem? (i := 73) rfl)) (hw _ (List.mem_of_getElem? (i := 71) rfl)) (hw _ (List.mem_of_getElem? (i := 74) rfl)) ⟨by decide, by decide⟩ pd__28IILjava_2futil_2ffunction_2fBiFunction_3b_29I rfl (fun O => k_pci hw hs h1 h2 hfv O) (fun _ q => nomatch q) rfl (dle rfl) (dle rfl) (dle rfl) (dle rfl) d14_5 rfl (fun v1 hp1 gs1 K1 Q1 => ?_)
  obtain ⟨rfl, rfl⟩ := Q1
  show Go _ K Z _ n0 _ _ 8 #[.val (.int i), .val (.int n)] [(.int i)] hp1 _ _ _
  refine Own.pop C d14_8 rfl ?_
  exact retV C (gs := []) d14_9 (dle rfl) (dle rfl) (fun _ q => nomatch q) ⟨rfl, rfl⟩
set_option maxRecDepth 65536 in
set_option maxHeartbeats 4000000 in
theorem k_lcharAt {Z : State} {a0 : Array Value} (hw : ∀ d ∈ tables_1, d.before a0 Z = true) (hs : Stt Z) {n0 : Nat} {h0 : Heap} {b : Addr} {cs : List Int32} {j c : Int32} {i : Nat} (hl : cs.length ≤ 4096) (A : Ary Z h0 b .byte (lat cs)) (hj : j.toInt = i) (hc : cs[i]? = some c) (hr : 0 ≤ c.toInt ∧ c.toInt < 256) (O : Old Z n0 h0) :
    Con WD Z EL0 n0 (⟨"java/lang/StringLatin1", "charAt", "([BI)C"⟩ : MethodName) jdk_43_method_2_code 2 (some .char) (Rm 2 0 0 27) [(.ref b), (.int j)] h0 [] (fun v h gs => v = some (.int c) ∧ gs = []) := by
  refine Con.of (a0 := a0) (by first | (simp [plainName, overriddenIn]; done) | decide +kernel) (hEL hw) hWE O (L0 := #[.val (.ref b), .val (.int j)]) (fun m => by first | rfl | (simp [entryFrame, mkF, argsToLocals, Value.category]; done)) ?_
  intro K C hh
  have hi : i < cs.length := (List.getElem?_eq_some_iff.mp hc).1
  have e2 := natI_toInt (i := cs.length) (by omega)
  refine Own.iloadN C d13_0 rfl ?_
  refine Own.aloadN C d13_1 rfl rfl ?_
  refine arrlen C A (z := (natI cs.length)) (by rw [e2, lat_len]) d13_2 ?_
  refine callS_ C (as := [(.int j), (.int (natI cs.length))]) (st := []) (hw _ (List.mem_of_getElem? (i := 67) rfl)) (hw _ (List.mem_of_getElem? (i := 68) rfl)) (hw _ (List.mem_of_getElem? (i := 11) rfl)) (hw _ (List.mem_of_getElem? (i := 69) rfl)) ⟨by decide, by decide⟩ pd__28II_29V rfl (fun O => k_ci hw hs (by rw [lt32, hj]; exact Int.not_lt.mpr (Int.natCast_nonneg _)) (by rw [lt32, hj, e2]; omega) O) (fun _ q => nomatch q) rfl (dle rfl) (dle rfl) (dle rfl) (dle rfl) d13_3 rfl (fun v1 hp1 gs1 K1 Q1 => ?_)
  obtain ⟨rfl, rfl⟩ := Q1
  show Go _ K Z _ n0 _ _ 6 #[.val (.ref b), .val (.int j)] [] hp1 _ _ _
  refine Own.aloadN C d13_6 rfl rfl ?_
  refine Own.iloadN C d13_7 rfl ?_
  refine baload_ C (v := .int (nar .byte c)) (A.keep K1 nin0) i hj (lat_at hc) d13_8 ?_
  refine Own.sipush (v := 255) C d13_9 rfl ?_
  refine Own.iand C d13_12 ?_
  refine Own.i2c C d13_13 ?_
  exact retC C (gs := []) d13_14 (dle rfl) (dle rfl) (fun _ q => nomatch q) ⟨by rw [narc_idem, lat_char hr], rfl⟩
set_option maxRecDepth 65536 in
set_option maxHeartbeats 4000000 in
theorem k_ulength {Z : State} {a0 : Array Value} (hw : ∀ d ∈ tables_1, d.before a0 Z = true) (hs : Stt Z) {n0 : Nat} {h0 : Heap} {b : Addr} {vs : List Value} {m : Nat} (hm : m ≤ 4096) (A : Ary Z h0 b .byte vs) (hv : vs.length = 2 * m) (O : Old Z n0 h0) :
    Con WD Z EL0 n0 (⟨"java/lang/StringUTF16", "length", "([B)I"⟩ : MethodName) jdk_52_method_6_code 1 (some .int) (Rm 0 0 0 0) [(.ref b)] h0 [] (fun v h gs => v = some (.int (natI m)) ∧ gs = []) := by
  refine Con.of (a0 := a0) (by first | (simp [plainName, overriddenIn]; done) | decide +kernel) (hEL hw) hWE O (L0 := #[.val (.ref b)]) (fun m => by first | rfl | (simp [entryFrame, mkF, argsToLocals, Value.category]; done)) ?_
  intro K C hh
  obtain ⟨y, hy⟩ : ∃ y : Int32, y.toInt = (2 * m : Nat) := ⟨natI (2 * m), natI_toInt (by omega)⟩
  have e := shr1 hy
  have e' : y >>> (1 &&& 31) = natI m := i32e (by rw [e, natI_toInt (by omega)])
  refine Own.aloadN C d24_0 rfl rfl ?_
  refine arrlen C A (z := y) (by rw [hy, hv]) d24_1 ?_
  refine Own.iconst (v := 1) C d24_2 rfl ?_
  refine Own.ishr C d24_3 ?_
  exact retI_ C (gs := []) d24_4 (dle rfl) (dle rfl) (fun _ q => nomatch q) ⟨by rw [e'], rfl⟩
set_option maxRecDepth 65536 in
set_option maxHeartbeats 4000000 in
theorem k_getChar {Z : State} {a0 : Array Value} (hw : ∀ d ∈ tables_1, d.before a0 Z = true) (hs : Stt Z) {n0 : Nat} {h0 : Heap} {b : Addr} {cs : List Int32} {j c : Int32} {i : Nat} (hcs : ∀ c ∈ cs, isCh c) (hl : cs.length ≤ 4096) (A : Ary Z h0 b .byte (utf cs)) (hj : j.toInt = i) (hc : cs[i]? = some c) (O : Old Z n0 h0) :
    Con WD Z EL0 n0 (⟨"java/lang/StringUTF16", "getChar", "([BI)C"⟩ : MethodName) jdk_52_method_5_code 2 (some .char) (Rm 0 0 0 0) [(.ref b), (.int j)] h0 [] (fun v h gs => v = some (.int c) ∧ gs = []) := by
  refine Con.of (a0 := a0) (by first | (simp [plainName, overriddenIn]; done) | decide +kernel) (hEL hw) hWE O (L0 := #[.val (.ref b), .val (.int j)]) (fun m => by first | rfl | (simp [entryFrame, mkF, argsToLocals, Value.category]; done)) ?_
  intro K C hh
  have hi : i < cs.length := (List.getElem?_eq_some_iff.mp hc).1
  have hch := hcs c (List.mem_of_getElem? hc)
  obtain ⟨u1, u2⟩ := utf_at hc
  have j1 := shl1 hj (by omega)
  have j2 : ((j <<< (1 &&& 31)) + 1).toInt = (2 * i + 1 : Nat) := by have a := c_iadd (j <<< (1 &&& 31)) 1; have r := rng32 ((j <<< (1 &&& 31)) + 1); have e : (1 : Int32).toInt = 1 := rfl; omega
  refine getS_ C (hw _ (List.mem_of_getElem? (i := 91) rfl)) (st_a hs) d21_0 ?_
  refine if_ne C d21_3 (fun q1 => ?_) (fun q1 => ?_)
  · refine Own.iloadN C d21_28 rfl ?_
    refine Own.iconst (v := 1) C d21_29 rfl ?_
    refine Own.ishl C d21_30 ?_
    refine Own.istoreN (L' := #[.val (.ref b), .val (.int (j <<< ((1 : Int32) &&& 31)))]) C d21_31 rfl ?_
    refine Own.aloadN C d21_32 rfl rfl ?_
    refine Own.iloadN C d21_33 rfl ?_
    refine Own.iinc (L' := #[.val (.ref b), .val (.int ((j <<< ((1 : Int32) &&& 31)) + (1 : Int32)))]) (y := ((j <<< ((1 : Int32) &&& 31)) + (1 : Int32))) C d21_34 rfl rfl rfl ?_
    refine baload_ C (v := .int (nar .byte c)) A (2 * i) j1 u1 d21_37 ?_
    refine Own.sipush (v := 255) C d21_38 rfl ?_
    refine Own.iand C d21_41 ?_
    refine getS_ C (hw _ (List.mem_of_getElem? (i := 92) rfl)) (st_hi hs) d21_42 ?_
    refine Own.ishl C d21_45 ?_
    refine Own.aloadN C d21_46 rfl rfl ?_
    refine Own.iloadN C d21_47 rfl ?_
    refine baload_ C (v := .int (nar .byte (c >>> 8))) A (2 * i + 1) j2 u2 d21_48 ?_
    refine Own.sipush (v := 255) C d21_49 rfl ?_
    refine Own.iand C d21_52 ?_
    refine getS_ C (hw _ (List.mem_of_getElem? (i := 93) rfl)) (st_lo hs) d21_53 ?_
    refine Own.ishl C d21_56 ?_
    refine Own.ior C d21_57 ?_
    refine Own.i2c C d21_58 ?_
    exact retC C (gs := []) d21_59 (dle rfl) (dle rfl) (fun _ q => nomatch q) ⟨by rw [narc_idem, utf_char hch], rfl⟩
  · exact absurd q1 (by decide)
set_option maxRecDepth 65536 in
set_option maxHeartbeats 4000000 in
theorem k_uci {Z : State} {a0 : Array Value} (hw : ∀ d ∈ tables_1, d.before a0 Z = true) (hs : Stt Z) {n0 : Nat} {h0 : Heap} {b : Addr} {vs : List Value} {j : Int32} {i m : Nat} (hm : m ≤ 4096) (A : Ary Z h0 b .byte vs) (hv : vs.length = 2 * m) (hj : j.toInt = i) (hi : i < m) (O : Old Z n0 h0) :
    Con WD Z EL0 n0 (⟨"java/lang/StringUTF16", "checkIndex", "(I[B)V"⟩ : MethodName) jdk_52_method_91_code 2 none (Rm 2 0 0 27) [(.int j), (.ref b)] h0 [] (fun v h gs => v = none ∧ gs = []) := by
  refine Con.of (a0 := a0) (by first | (simp [plainName, overriddenIn]; done) | decide +kernel) (hEL hw) hWE O (L0 := #[.val (.int j), .val (.ref b)]) (fun m => by first | rfl | (simp [entryFrame, mkF, argsToLocals, Value.category]; done)) ?_
  intro K C hh
  have e2 := natI_toInt (i := m) (by omega)
  refine Own.iloadN C d23_0 rfl ?_
  refine Own.aloadN C d23_1 rfl rfl ?_
  refine callS_ C (as := [(.ref b)]) (st := [(.int j)]) (hw _ (List.mem_of_getElem? (i := 103) rfl)) (hw _ (List.mem_of_getElem? (i := 104) rfl)) (hw _ (List.mem_of_getElem? (i := 25) rfl)) (hw _ (List.mem_of_getElem? (i := 105) rfl)) ⟨by decide, by decide⟩ pd__28_5bB_29I rfl (fun O => k_ulength hw hs hm A hv O) (fun _ q => nomatch q) rfl (dle rfl) (dle rfl) (dle rfl) (dle rfl) d23_2 rfl (fun v1 hp1 gs1 K1 Q1 => ?_)
  obtain ⟨rfl, rfl⟩ := Q1
  show Go _ K Z _ n0 _ _ 5 #[.val (.int j), .val (.ref b)] [(.int (natI m)), (.int j)] hp1 _ _ _
  refine callS_ C (as := [(.int j), (.int (natI m))]) (st := []) (hw _ (List.mem_of_getElem? (i := 106) rfl)) (hw _ (List.mem_of_getElem? (i := 68) rfl)) (hw _ (List.mem_of_getElem? (i := 11) rfl)) (hw _ (List.mem_of_getElem? (i := 69) rfl)) ⟨by decide, by decide⟩ pd__28II_29V rfl (fun O => k_ci hw hs (by rw [lt32, hj]; exact Int.not_lt.mpr (Int.natCast_nonneg _)) (by rw [lt32, hj, e2]; omega) O) (fun _ q => nomatch q) rfl (dle rfl) (dle rfl) (dle rfl) (dle rfl) d23_5 rfl (fun v2 hp2 gs2 K2 Q2 => ?_)
  obtain ⟨rfl, rfl⟩ := Q2
  show Go _ K Z _ n0 _ _ 8 #[.val (.int j), .val (.ref b)] [] hp2 _ _ _
  exact retV C (gs := []) d23_8 (dle rfl) (dle rfl) (fun _ q => nomatch q) ⟨rfl, rfl⟩
set_option maxRecDepth 65536 in
set_option maxHeartbeats 4000000 in
theorem k_ucharAt {Z : State} {a0 : Array Value} (hw : ∀ d ∈ tables_1, d.before a0 Z = true) (hs : Stt Z) {n0 : Nat} {h0 : Heap} {b : Addr} {cs : List Int32} {j c : Int32} {i : Nat} (hcs : ∀ c ∈ cs, isCh c) (hl : cs.length ≤ 4096) (A : Ary Z h0 b .byte (utf cs)) (hj : j.toInt = i) (hc : cs[i]? = some c) (O : Old Z n0 h0) :
    Con WD Z EL0 n0 (⟨"java/lang/StringUTF16", "charAt", "([BI)C"⟩ : MethodName) jdk_52_method_83_code 2 (some .char) (Rm 3 0 0 40) [(.ref b), (.int j)] h0 [] (fun v h gs => v = some (.int c) ∧ gs = []) := by
  refine Con.of (a0 := a0) (by first | (simp [plainName, overriddenIn]; done) | decide +kernel) (hEL hw) hWE O (L0 := #[.val (.ref b), .val (.int j)]) (fun m => by first | rfl | (simp [entryFrame, mkF, argsToLocals, Value.category]; done)) ?_
  intro K C hh
  have hi : i < cs.length := (List.getElem?_eq_some_iff.mp hc).1
  refine Own.iloadN C d22_0 rfl ?_
  refine Own.aloadN C d22_1 rfl rfl ?_
  refine callS_ C (as := [(.int j), (.ref b)]) (st := []) (hw _ (List.mem_of_getElem? (i := 100) rfl)) (hw _ (List.mem_of_getElem? (i := 101) rfl)) (hw _ (List.mem_of_getElem? (i := 25) rfl)) (hw _ (List.mem_of_getElem? (i := 102) rfl)) ⟨by decide, by decide⟩ pd__28I_5bB_29V rfl (fun O => k_uci hw hs hl A (utf_len cs) hj hi O) (fun _ q => nomatch q) rfl (dle rfl) (dle rfl) (dle rfl) (dle rfl) d22_2 rfl (fun v1 hp1 gs1 K1 Q1 => ?_)
  obtain ⟨rfl, rfl⟩ := Q1
  show Go _ K Z _ n0 _ _ 5 #[.val (.ref b), .val (.int j)] [] hp1 _ _ _
  refine Own.aloadN C d22_5 rfl rfl ?_
  refine Own.iloadN C d22_6 rfl ?_
  refine callS_ C (as := [(.ref b), (.int j)]) (st := []) (hw _ (List.mem_of_getElem? (i := 94) rfl)) (hw _ (List.mem_of_getElem? (i := 95) rfl)) (hw _ (List.mem_of_getElem? (i := 25) rfl)) (hw _ (List.mem_of_getElem? (i := 96) rfl)) ⟨by decide, by decide⟩ pd__28_5bBI_29C rfl (fun O => k_getChar hw hs hcs hl (A.keep K1 nin0) hj hc O) (fun _ q => nomatch q) rfl (dle rfl) (dle rfl) (dle rfl) (dle rfl) d22_7 rfl (fun v2 hp2 gs2 K2 Q2 => ?_)
  obtain ⟨rfl, rfl⟩ := Q2
  show Go _ K Z _ n0 _ _ 10 #[.val (.ref b), .val (.int j)] [(.int c)] hp2 _ _ _
  exact retC C (gs := []) d22_10 (dle rfl) (dle rfl) (fun _ q => nomatch q) ⟨by rw [narc_id (hcs c (List.mem_of_getElem? hc))], rfl⟩
set_option maxRecDepth 65536 in
set_option maxHeartbeats 4000000 in
theorem k_nbl {Z : State} {a0 : Array Value} (hw : ∀ d ∈ tables_1, d.before a0 Z = true) (hs : Stt Z) {n0 : Nat} {h0 : Heap} {m : Nat} (hm : m ≤ 4096) (O : Old Z n0 h0) :
    Con WD Z EL0 n0 (⟨"java/lang/StringUTF16", "newBytesLength", "(I)I"⟩ : MethodName) jdk_52_method_3_code 1 (some .int) (Rm 0 0 0 0) [(.int (natI m))] h0 [] (fun v h gs => v = some (.int (natI (2 * m))) ∧ gs = []) := by
  refine Con.of (a0 := a0) (by first | (simp [plainName, overriddenIn]; done) | decide +kernel) (hEL hw) hWE O (L0 := #[.val (.int (natI m))]) (fun m => by first | rfl | (simp [entryFrame, mkF, argsToLocals, Value.category]; done)) ?_
  intro K C hh
  have e2 := natI_toInt (i := m) (by omega)
  have e1 := shl1 e2 (by omega)
  have e' : natI m <<< (1 &&& 31) = natI (2 * m) := i32e (by rw [e1, natI_toInt (by omega)])
  refine Own.iloadN C d19_0 rfl ?_
  refine if_ge C d19_1 (fun q1 => ?_) (fun q1 => ?_)
  · refine Own.iloadN C d19_12 rfl ?_
    refine Own.ldcI C (hw _ (List.mem_of_getElem? (i := 87) rfl)) d19_13 ?_
    refine icmp_lt C d19_15 (fun q2 => ?_) (fun q2 => ?_)
    · refine Own.iloadN C d19_55 rfl ?_
      refine Own.iconst (v := 1) C d19_56 rfl ?_
      refine Own.ishl C d19_57 ?_
      exact retI_ C (gs := []) d19_58 (dle rfl) (dle rfl) (fun _ q => nomatch q) ⟨by rw [e'], rfl⟩
    · exact absurd (by rw [lt32, e2]; have e : (1073741823 : Int32).toInt = 1073741823 := rfl; omega) q2
  · rw [lt32, e2] at q1
    have e0 : (0 : Int32).toInt = 0 := rfl
    omega
set_option maxRecDepth 65536 in
set_option maxHeartbeats 4000000 in
theorem k_nbf {Z : State} {a0 : Array Value} (hw : ∀ d ∈ tables_1, d.before a0 Z = true) (hs : Stt Z) {n0 : Nat} {h0 : Heap} {N m : Nat} (hm : m ≤ N ∧ N ≤ 4096) (O : Old Z n0 h0) :
    Con WD Z EL0 n0 (⟨"java/lang/StringUTF16", "newBytesFor", "(I)[B"⟩ : MethodName) jdk_52_method_2_code 1 (some (.array .byte)) (Rm 1 1 (0 + 2 * N) 12) [(.int (natI m))] h0 [] (fun v h gs => ∃ d : Addr, v = some (.ref d) ∧ gs = [d] ∧ h0.size ≤ d ∧ Ary Z h d .byte (List.replicate (2 * m) (.int 0))) := by
  refine Con.of (a0 := a0) (by first | (simp [plainName, overriddenIn]; done) | decide +kernel) (hEL hw) hWE O (L0 := #[.val (.int (natI m))]) (fun m => by first | rfl | (simp [entryFrame, mkF, argsToLocals, Value.category]; done)) ?_
  intro K C hh
  have e2 := natI_toInt (i := 2 * m) (by omega)
  have e3 : (natI (2 * m)).toNatClampNeg = 2 * m := natI_clamp (by omega)
  refine Own.iloadN C d18_0 rfl ?_
  refine callS_ C (as := [(.int (natI m))]) (st := []) (hw _ (List.mem_of_getElem? (i := 84) rfl)) (hw _ (List.mem_of_getElem? (i := 85) rfl)) (hw _ (List.mem_of_getElem? (i := 25) rfl)) (hw _ (List.mem_of_getElem? (i := 86) rfl)) ⟨by decide, by decide⟩ pd__28I_29I rfl (fun O => k_nbl hw hs (by omega) O) (fun _ q => nomatch q) rfl (dle rfl) (dle rfl) (dle rfl) (by omega) d18_1 rfl (fun v1 hp1 gs1 K1 Q1 => ?_)
  obtain ⟨rfl, rfl⟩ := Q1
  show Go _ K Z _ n0 _ _ 4 #[.val (.int (natI m))] [(.int (natI (2 * m)))] hp1 _ _ _
  refine newarr C (hw _ (List.mem_of_getElem? (i := 27) rfl)) (by rw [lt32, e2]; exact Int.not_lt.mpr (Int.natCast_nonneg _)) (2 * N) (by omega) (by omega) (dle rfl) (by omega) d18_4 (fun hp2 K2 lt2 le2 A2 => ?_)
  obtain ⟨a2, g2⟩ : ∃ z, z = hp1.size := ⟨_, rfl⟩
  rw [← g2] at A2 lt2 le2 ⊢
  rw [e3] at A2
  exact retA C (gs := [a2]) rfl rfl d18_6 (dle rfl) (by omega) (by simp) ⟨_, rfl, rfl, (by have := K1.1; omega), A2⟩
set_option maxRecDepth 65536 in
set_option maxHeartbeats 4000000 in
theorem k_putChar {Z : State} {a0 : Array Value} (hw : ∀ d ∈ tables_1, d.before a0 Z = true) (hs : Stt Z) {n0 : Nat} {h0 : Heap} {b : Addr} {vs : List Value} {j c : Int32} {i : Nat} (hi : 2 * i + 1 < vs.length) (hi' : i ≤ 8192) (A : Ary Z h0 b .byte vs) (hj : j.toInt = i) (O : Old Z n0 h0) :
    Con WD Z EL0 n0 (⟨"java/lang/StringUTF16", "putChar", "([BII)V"⟩ : MethodName) jdk_52_method_4_code 3 none (Rm 0 0 0 0) [(.ref b), (.int j), (.int c)] h0 [b] (fun v h gs => v = none ∧ gs = [] ∧ Ary Z h b .byte ((vs.set (2 * i) (.int (nar .byte c))).set (2 * i + 1) (.int (nar .byte (c >>> 8))))) := by
  refine Con.of (a0 := a0) (by first | (simp [plainName, overriddenIn]; done) | decide +kernel) (hEL hw) hWE O (L0 := #[.val (.ref b), .val (.int j), .val (.int c)]) (fun m => by first | rfl | (simp [entryFrame, mkF, argsToLocals, Value.category]; done)) ?_
  intro K C hh
  have j1 := shl1 hj (by omega)
  have j2 : ((j <<< (1 &&& 31)) + 1).toInt = (2 * i + 1 : Nat) := by have a := c_iadd (j <<< (1 &&& 31)) 1; have r := rng32 ((j <<< (1 &&& 31)) + 1); have e : (1 : Int32).toInt = 1 := rfl; omega
  refine getS_ C (hw _ (List.mem_of_getElem? (i := 91) rfl)) (st_a hs) d20_0 ?_
  refine if_ne C d20_3 (fun q1 => ?_) (fun q1 => ?_)
  · refine Own.iloadN C d20_28 rfl ?_
    refine Own.iconst (v := 1) C d20_29 rfl ?_
    refine Own.ishl C d20_30 ?_
    refine Own.istoreN (L' := #[.val (.ref b), .val (.int (j <<< ((1 : Int32) &&& 31))), .val (.int c)]) C d20_31 rfl ?_
    refine Own.aloadN C d20_32 rfl rfl ?_
    refine Own.iloadN C d20_33 rfl ?_
    refine Own.iinc (L' := #[.val (.ref b), .val (.int ((j <<< ((1 : Int32) &&& 31)) + (1 : Int32))), .val (.int c)]) (y := ((j <<< ((1 : Int32) &&& 31)) + (1 : Int32))) C d20_34 rfl rfl rfl ?_
    refine Own.iloadN C d20_37 rfl ?_
    refine getS_ C (hw _ (List.mem_of_getElem? (i := 92) rfl)) (st_hi hs) d20_38 ?_
    refine Own.ishr C d20_41 ?_
    refine Own.i2b C d20_42 ?_
    refine bastore_ C A (2 * i) j1 (by omega) (by simp) d20_43 (fun hp2 W2 A2 => ?_)
    refine Own.aloadN C d20_44 rfl rfl ?_
    refine Own.iloadN C d20_45 rfl ?_
    refine Own.iloadN C d20_46 rfl ?_
    refine getS_ C (hw _ (List.mem_of_getElem? (i := 93) rfl)) (st_lo hs) d20_47 ?_
    refine Own.ishr C d20_50 ?_
    refine Own.i2b C d20_51 ?_
    refine bastore_ C A2 (2 * i + 1) j2 (by simp; omega) (by simp) d20_52 (fun hp3 W3 A3 => ?_)
    exact retV C (gs := []) d20_53 (dle rfl) (dle rfl) (fun _ q => nomatch q) ⟨rfl, rfl, by rw [shr0, narb_idem, narb_idem] at A3; exact A3⟩
  · exact absurd q1 (by decide)
set_option maxRecDepth 65536 in
set_option maxHeartbeats 4000000 in
theorem k_toBytes {Z : State} {a0 : Array Value} (hw : ∀ d ∈ tables_1, d.before a0 Z = true) (hs : Stt Z) {n0 : Nat} {h0 : Heap} {N : Nat} {a : Addr} {cs : List Int32} (hcs : ∀ c ∈ cs, isCh c) (hl : cs.length ≤ 4096) (hN : cs.length ≤ N ∧ N ≤ 4096) (A : Ary Z h0 a .char (chs cs)) (O : Old Z n0 h0) :
    Con WD Z EL0 n0 (⟨"java/lang/StringUTF16", "toBytes", "([CII)[B"⟩ : MethodName) jdk_52_method_14_code 5 (some (.array .byte)) (Rm 2 1 (0 + 2 * N) 24) [(.ref a), (.int (0 : Int32)), (.int (natI cs.length))] h0 [] (fun v h gs => gs = [] ∧ ∃ d : Addr, v = some (.ref d) ∧ h0.size ≤ d ∧ Ary Z h d .byte (utf cs)) := by
  refine Con.of (a0 := a0) (by first | (simp [plainName, overriddenIn]; done) | decide +kernel) (hEL hw) hWE O (L0 := #[.val (.ref a), .val (.int (0 : Int32)), .val (.int (natI cs.length)), .unset, .unset]) (fun m => by first | rfl | (simp [entryFrame, mkF, argsToLocals, Value.category]; done)) ?_
  intro K C hh
  have e2 := natI_toInt (i := cs.length) (by omega)
  have loop : ∀ (m i : Nat) (h : Heap) (d : Addr), i + m = cs.length → h0.size ≤ d → Ary Z h a .char (chs cs) → Ary Z h d .byte (utf (cs.take i) ++ List.replicate (2 * m) (.int 0)) → Go WD K Z EL0 n0 [] (fun v h gs => gs = [] ∧ ∃ d : Addr, v = some (.ref d) ∧ h0.size ≤ d ∧ Ary Z h d .byte (utf cs)) 8 #[.val (.ref a), .val (.int (natI i)), .val (.int (natI cs.length)), .val (.ref d), .val (.int (natI i))] [] h [d] (0 + 1) (0 + (0 + 2 * N)) := by
    intro m
    induction m with
    | zero =>
      intro i h d hm hd A B
      have e1 := natI_toInt (i := i) (by omega)
      refine Own.iload C d17_8 rfl ?_
      refine Own.iloadN C d17_10 rfl ?_
      refine icmp_ge C d17_11 (fun q1 => ?_) (fun q1 => ?_)
      · have h1 : i = cs.length := by omega
        subst h1
        refine Own.aloadN C d17_32 rfl rfl ?_
        exact retA C (gs := []) rfl rfl d17_33 (dle rfl) (by omega) (fun _ q => nomatch q) ⟨rfl, d, rfl, hd, by simpa using B⟩
      · rw [lt32] at q1
        omega
    | succ m ih =>
      intro i h d hm hd A B
      have e1 := natI_toInt (i := i) (by omega)
      refine Own.iload C d17_8 rfl ?_
      refine Own.iloadN C d17_10 rfl ?_
      refine icmp_ge C d17_11 (fun q2 => ?_) (fun q2 => ?_)
      · rw [lt32] at q2
        omega
      · obtain ⟨c, hc⟩ : ∃ c, cs[i]? = some c := ⟨_, List.getElem?_eq_getElem (by omega)⟩
        refine Own.aloadN C d17_14 rfl rfl ?_
        refine Own.iload C d17_15 rfl ?_
        refine Own.aloadN C d17_17 rfl rfl ?_
        refine Own.iloadN C d17_18 rfl ?_
        refine caload_ C (v := .int c) A i e1 (chs_at hc) d17_19 ?_
        refine callS_ C (as := [(.ref d), (.int (natI i)), (.int c)]) (st := []) (hw _ (List.mem_of_getElem? (i := 88) rfl)) (hw _ (List.mem_of_getElem? (i := 89) rfl)) (hw _ (List.mem_of_getElem? (i := 25) rfl)) (hw _ (List.mem_of_getElem? (i := 90) rfl)) ⟨by decide, by decide⟩ pd__28_5bBII_29V rfl (fun O => k_putChar hw hs (i := i) (by simp [utf_len]; omega) (by omega) B e1 O) (by simp) rfl (dle rfl) (dle rfl) (dle rfl) (by omega) d17_20 rfl (fun v3 hp3 gs3 K3 Q3 => ?_)
        obtain ⟨rfl, rfl, B3⟩ := Q3
        rw [utf_set hm hc] at B3
        show Go _ K Z _ n0 _ _ 23 #[.val (.ref a), .val (.int (natI i)), .val (.int (natI cs.length)), .val (.ref d), .val (.int (natI i))] [] hp3 _ _ _
        have e3 := natI_succ (i := i) (by omega)
        refine Own.iinc (L' := #[.val (.ref a), .val (.int (natI (i + 1))), .val (.int (natI cs.length)), .val (.ref d), .val (.int (natI i))]) (y := (natI (i + 1))) C d17_23 rfl e3 rfl ?_
        refine Own.iinc (L' := #[.val (.ref a), .val (.int (natI (i + 1))), .val (.int (natI cs.length)), .val (.ref d), .val (.int (natI (i + 1)))]) (y := (natI (i + 1))) C d17_26 rfl e3 rfl ?_
        refine Own.goto_ C d17_29 ?_
        exact ih (i + 1) hp3 d (by omega) hd (A.keep K3 (ninS (A.ne B (by decide)) nin0)) B3
  refine Own.iloadN C d17_0 rfl ?_
  refine callS_ C (as := [(.int (natI cs.length))]) (st := []) (hw _ (List.mem_of_getElem? (i := 81) rfl)) (hw _ (List.mem_of_getElem? (i := 82) rfl)) (hw _ (List.mem_of_getElem? (i := 25) rfl)) (hw _ (List.mem_of_getElem? (i := 83) rfl)) ⟨by decide, by decide⟩ pd__28I_29_5bB rfl (fun O => k_nbf (N := N) hw hs hN O) (fun _ q => nomatch q) rfl (dle rfl) (dle rfl) (dle rfl) (by omega) d17_1 rfl (fun v4 hp4 gs4 K4 Q4 => ?_)
  obtain ⟨d, rfl, rfl, hd, B4⟩ := Q4
  show Go _ K Z _ n0 _ _ 4 #[.val (.ref a), .val (.int (0 : Int32)), .val (.int (natI cs.length)), .unset, .unset] [(.ref d)] hp4 _ _ _
  refine Own.astoreN (L' := #[.val (.ref a), .val (.int (0 : Int32)), .val (.int (natI cs.length)), .val (.ref d), .unset]) C d17_4 rfl rfl ?_
  refine Own.iconst (v := 0) C d17_5 rfl ?_
  refine Own.istore (L' := #[.val (.ref a), .val (.int (0 : Int32)), .val (.int (natI cs.length)), .val (.ref d), .val (.int (0 : Int32))]) C d17_6 rfl ?_
  exact loop cs.length 0 hp4 d (by omega) hd (A.keep K4 nin0) (by simpa [utf] using B4)
set_option maxRecDepth 65536 in
set_option maxHeartbeats 4000000 in
theorem k_compress5 {Z : State} {a0 : Array Value} (hw : ∀ d ∈ tables_1, d.before a0 Z = true) (hs : Stt Z) {n0 : Nat} {h0 : Heap} {a b : Addr} {cs : List Int32} (hcs : ∀ c ∈ cs, isCh c) (hl : cs.length ≤ 4096) (A : Ary Z h0 a .char (chs cs)) (B : Ary Z h0 b .byte (List.replicate cs.length (.int 0))) (O : Old Z n0 h0) :
    Con WD Z EL0 n0 (⟨"java/lang/StringUTF16", "compress", "([CI[BII)I"⟩ : MethodName) jdk_52_method_21_code 7 (some .int) (Rm 0 0 0 0) [(.ref a), (.int (0 : Int32)), (.ref b), (.int (0 : Int32)), (.int (natI cs.length))] h0 [b] (fun v h gs => v = some (.int (natI (pfx cs))) ∧ gs = [] ∧ Ary Z h b .byte (lat (cs.take (pfx cs)) ++ List.replicate (cs.length - pfx cs) (.int 0))) := by
  refine Con.of (a0 := a0) (by first | (simp [plainName, overriddenIn]; done) | decide +kernel) (hEL hw) hWE O (L0 := #[.val (.ref a), .val (.int (0 : Int32)), .val (.ref b), .val (.int (0 : Int32)), .val (.int (natI cs.length)), .unset, .unset]) (fun m => by first | rfl | (simp [entryFrame, mkF, argsToLocals, Value.category]; done)) ?_
  intro K C hh
  have loop : ∀ (m i : Nat) (h : Heap) (s6 : Slot), i + m = cs.length → (∀ c ∈ cs.take i, c.toInt < 256) → (s6 = .unset ∨ ∃ w, s6 = .val w ∧ w.category = 1) → Ary Z h a .char (chs cs) → Ary Z h b .byte (lat (cs.take i) ++ List.replicate m (.int 0)) → Go WD K Z EL0 n0 [b] (fun v h gs => v = some (.int (natI (pfx cs))) ∧ gs = [] ∧ Ary Z h b .byte (lat (cs.take (pfx cs)) ++ List.replicate (cs.length - pfx cs) (.int 0))) 3 #[.val (.ref a), .val (.int (natI i)), .val (.ref b), .val (.int (natI i)), .val (.int (natI cs.length)), .val (.int (natI i)), s6] [] h [b] 0 0 := by
    intro m
    induction m with
    | zero =>
      intro i h s6 hm hp hs6 A B
      have e1 := natI_toInt (i := i) (by omega)
      have e2 := natI_toInt (i := cs.length) (by omega)
      refine Own.iload C d6_3 rfl ?_
      refine Own.iload C d6_5 rfl ?_
      refine icmp_ge C d6_7 (fun q1 => ?_) (fun q1 => ?_)
      · refine Own.iload C d6_44 rfl ?_
        have hi : i = cs.length := by omega
        subst hi
        rw [List.take_length] at hp B
        have hq := pfx_all hp
        exact retI_ C (gs := []) d6_46 (dle rfl) (dle rfl) (fun _ q => nomatch q) ⟨by rw [hq], rfl, by rw [hq, List.take_length, Nat.sub_self]; exact B⟩
      · rw [lt32] at q1
        omega
    | succ m ih =>
      intro i h s6 hm hp hs6 A B
      have e1 := natI_toInt (i := i) (by omega)
      have e2 := natI_toInt (i := cs.length) (by omega)
      refine Own.iload C d6_3 rfl ?_
      refine Own.iload C d6_5 rfl ?_
      refine icmp_ge C d6_7 (fun q2 => ?_) (fun q2 => ?_)
      · rw [lt32] at q2
        omega
      · obtain ⟨c, hc⟩ : ∃ c, cs[i]? = some c := ⟨_, List.getElem?_eq_getElem (by omega)⟩
        have hch := hcs c (List.mem_of_getElem? hc)
        refine Own.aloadN C d6_10 rfl rfl ?_
        refine Own.iloadN C d6_11 rfl ?_
        refine caload_ C (v := .int c) A i e1 (chs_at hc) d6_12 ?_
        refine Own.istore (L' := #[.val (.ref a), .val (.int (natI i)), .val (.ref b), .val (.int (natI i)), .val (.int (natI cs.length)), .val (.int (natI i)), .val (.int c)]) C d6_13 (st1 rfl hs6 rfl rfl) ?_
        refine Own.iload C d6_15 rfl ?_
        refine Own.sipush (v := 255) C d6_17 rfl ?_
        refine icmp_le C d6_20 (fun q3 => ?_) (fun q3 => ?_)
        · have hlt : c.toInt < 256 := by have e : (255 : Int32).toInt = 255 := rfl; rw [lt32] at q3; omega
          refine Own.aloadN C d6_26 rfl rfl ?_
          refine Own.iloadN C d6_27 rfl ?_
          refine Own.iload C d6_28 rfl ?_
          refine Own.i2b C d6_30 ?_
          refine bastore_ C B i e1 (by simp [lat_len]; omega) (by simp) d6_31 (fun hp4 W4 A4 => ?_)
          rw [lat_set hm hc] at A4
          have e3 := natI_succ (i := i) (by omega)
          refine Own.iinc (L' := #[.val (.ref a), .val (.int (natI (i + 1))), .val (.ref b), .val (.int (natI i)), .val (.int (natI cs.length)), .val (.int (natI i)), .val (.int c)]) (y := (natI (i + 1))) C d6_32 rfl e3 rfl ?_
          refine Own.iinc (L' := #[.val (.ref a), .val (.int (natI (i + 1))), .val (.ref b), .val (.int (natI (i + 1))), .val (.int (natI cs.length)), .val (.int (natI i)), .val (.int c)]) (y := (natI (i + 1))) C d6_35 rfl e3 rfl ?_
          refine Own.iinc (L' := #[.val (.ref a), .val (.int (natI (i + 1))), .val (.ref b), .val (.int (natI (i + 1))), .val (.int (natI cs.length)), .val (.int (natI (i + 1))), .val (.int c)]) (y := (natI (i + 1))) C d6_38 rfl e3 rfl ?_
          refine Own.goto_ C d6_41 ?_
          exact ih (i + 1) hp4 _ (by omega) (take_lt hp hc hlt) (Or.inr ⟨_, rfl, rfl⟩) (A.other W4 (A.ne B (by decide))) A4
        · have hge : 256 ≤ c.toInt := by have e : (255 : Int32).toInt = 255 := rfl; rw [lt32] at q3; omega
          refine Own.iload C d6_23 rfl ?_
          have hq := pfx_at hp hc hge
          exact retI_ C (gs := []) d6_25 (dle rfl) (dle rfl) (fun _ q => nomatch q) ⟨by rw [hq], rfl, by rw [hq, show cs.length - i = m + 1 by omega]; exact B⟩
  refine Own.iconst (v := 0) C d6_0 rfl ?_
  refine Own.istore (L' := #[.val (.ref a), .val (.int (0 : Int32)), .val (.ref b), .val (.int (0 : Int32)), .val (.int (natI cs.length)), .val (.int (0 : Int32)), .unset]) C d6_1 rfl ?_
  exact loop cs.length 0 h0 .unset (by omega) (by simp) (Or.inl rfl) A (by simpa [lat] using B)
set_option maxRecDepth 65536 in
set_option maxHeartbeats 4000000 in
theorem k_compress3 {Z : State} {a0 : Array Value} (hw : ∀ d ∈ tables_1, d.before a0 Z = true) (hs : Stt Z) {n0 : Nat} {h0 : Heap} {N : Nat} {a : Addr} {cs : List Int32} (hcs : ∀ c ∈ cs, isCh c) (hl : cs.length ≤ 4096) (hN : cs.length ≤ N ∧ N ≤ 4096) (A : Ary Z h0 a .char (chs cs)) (O : Old Z n0 h0) :
    Con WD Z EL0 n0 (⟨"java/lang/StringUTF16", "compress", "([CII)[B"⟩ : MethodName) jdk_52_method_16_code 6 (some (.array .byte)) (Rm 3 2 (0 + 3 * N) 40) [(.ref a), (.int (0 : Int32)), (.int (natI cs.length))] h0 [] (fun v h gs => gs = [] ∧ ∃ (b : Addr) (z : Int32) (vs : List Value), v = some (.ref b) ∧ h0.size ≤ b ∧ Ary Z h b .byte vs ∧ Byt cs z vs) := by
  refine Con.of (a0 := a0) (by first | (simp [plainName, overriddenIn]; done) | decide +kernel) (hEL hw) hWE O (L0 := #[.val (.ref a), .val (.int (0 : Int32)), .val (.int (natI cs.length)), .unset, .unset, .unset]) (fun m => by first | rfl | (simp [entryFrame, mkF, argsToLocals, Value.category]; done)) ?_
  intro K C hh
  have e2 := natI_toInt (i := cs.length) (by omega)
  have e3 : (natI cs.length).toNatClampNeg = cs.length := natI_clamp (by omega)
  refine Own.iloadN C d5_0 rfl ?_
  refine newarr C (hw _ (List.mem_of_getElem? (i := 27) rfl)) (by rw [lt32, e2]; exact Int.not_lt.mpr (Int.natCast_nonneg _)) N (by omega) (by omega) (dle rfl) (by omega) d5_1 (fun hp1 K1 lt1 le1 A1 => ?_)
  obtain ⟨b, g1⟩ : ∃ z, z = h0.size := ⟨_, rfl⟩
  rw [← g1] at A1 lt1 le1 ⊢
  rw [e3] at A1
  have A' := A.keep K1 nin0
  refine Own.astoreN (L' := #[.val (.ref a), .val (.int (0 : Int32)), .val (.int (natI cs.length)), .val (.ref b), .unset, .unset]) C d5_3 rfl rfl ?_
  refine Own.aloadN C d5_4 rfl rfl ?_
  refine Own.iloadN C d5_5 rfl ?_
  refine Own.aloadN C d5_6 rfl rfl ?_
  refine Own.iconst (v := 0) C d5_7 rfl ?_
  refine Own.iloadN C d5_8 rfl ?_
  refine callS_ C (as := [(.ref a), (.int (0 : Int32)), (.ref b), (.int (0 : Int32)), (.int (natI cs.length))]) (st := []) (hw _ (List.mem_of_getElem? (i := 28) rfl)) (hw _ (List.mem_of_getElem? (i := 29) rfl)) (hw _ (List.mem_of_getElem? (i := 25) rfl)) (hw _ (List.mem_of_getElem? (i := 30) rfl)) ⟨by decide, by decide⟩ pd__28_5bCI_5bBII_29I rfl (fun O => k_compress5 hw hs hcs hl A' A1 O) (by simp) rfl (dle rfl) (dle rfl) (dle rfl) (by omega) d5_9 rfl (fun v2 hp2 gs2 K2 Q2 => ?_)
  obtain ⟨rfl, rfl, B2⟩ := Q2
  show Go _ K Z _ n0 _ _ 12 #[.val (.ref a), .val (.int (0 : Int32)), .val (.int (natI cs.length)), .val (.ref b), .unset, .unset] [(.int (natI (pfx cs)))] hp2 _ _ _
  refine Own.istore (L' := #[.val (.ref a), .val (.int (0 : Int32)), .val (.int (natI cs.length)), .val (.ref b), .val (.int (natI (pfx cs))), .unset]) C d5_12 rfl ?_
  refine Own.iload C d5_14 rfl ?_
  refine Own.iloadN C d5_16 rfl ?_
  refine icmp_eq C d5_17 (fun q3 => ?_) (fun q3 => ?_)
  · have hp : pfx cs = cs.length := by have e4 := natI_toInt (i := pfx cs) (by have := pfx_le cs; omega); have e5 := congrArg Int32.toInt q3; omega
    rw [hp, List.take_length, Nat.sub_self] at B2
    refine Own.aloadN C d5_57 rfl rfl ?_
    exact retA C (gs := []) rfl rfl d5_58 (dle rfl) (by omega) (fun _ q => nomatch q) ⟨rfl, b, 0, lat cs, rfl, by omega, by simpa using B2, Or.inl ⟨pfx_full hp, rfl, rfl⟩⟩
  · have hp : pfx cs < cs.length := by have := pfx_le cs; rcases Nat.lt_or_ge (pfx cs) cs.length with z | z; exact z; exact absurd (by rw [Nat.le_antisymm this z]) q3
    obtain ⟨c, hc, hge⟩ := pfx_next hp
    have A2 := A'.keep K2 (ninS (A'.ne A1 (by decide)) nin0)
    refine Own.aloadN C d5_20 rfl rfl ?_
    refine Own.iloadN C d5_21 rfl ?_
    refine Own.iloadN C d5_22 rfl ?_
    refine callS_ C (as := [(.ref a), (.int (0 : Int32)), (.int (natI cs.length))]) (st := []) (hw _ (List.mem_of_getElem? (i := 78) rfl)) (hw _ (List.mem_of_getElem? (i := 79) rfl)) (hw _ (List.mem_of_getElem? (i := 25) rfl)) (hw _ (List.mem_of_getElem? (i := 80) rfl)) ⟨by decide, by decide⟩ pd__28_5bCII_29_5bB rfl (fun O => k_toBytes (N := N) hw hs hcs hl hN A2 O) (fun _ q => nomatch q) rfl (dle rfl) (dle rfl) (dle rfl) (by omega) d5_23 rfl (fun v4 hp4 gs4 K4 Q4 => ?_)
    obtain ⟨rfl, d, rfl, hd, B4⟩ := Q4
    show Go _ K Z _ n0 _ _ 26 #[.val (.ref a), .val (.int (0 : Int32)), .val (.int (natI cs.length)), .val (.ref b), .val (.int (natI (pfx cs))), .unset] [(.ref d)] hp4 _ _ _
    refine Own.astore (L' := #[.val (.ref a), .val (.int (0 : Int32)), .val (.int (natI cs.length)), .val (.ref b), .val (.int (natI (pfx cs))), .val (.ref d)]) C d5_26 rfl rfl ?_
    refine Own.aload C d5_28 rfl rfl ?_
    refine Own.iload C d5_30 rfl ?_
    refine callS_ C (as := [(.ref d), (.int (natI (pfx cs)))]) (st := []) (hw _ (List.mem_of_getElem? (i := 94) rfl)) (hw _ (List.mem_of_getElem? (i := 95) rfl)) (hw _ (List.mem_of_getElem? (i := 25) rfl)) (hw _ (List.mem_of_getElem? (i := 96) rfl)) ⟨by decide, by decide⟩ pd__28_5bBI_29C rfl (fun O => k_getChar hw hs hcs hl B4 (natI_toInt (by omega)) hc O) (fun _ q => nomatch q) rfl (dle rfl) (dle rfl) (dle rfl) (by omega) d5_32 rfl (fun v5 hp5 gs5 K5 Q5 => ?_)
    obtain ⟨rfl, rfl⟩ := Q5
    show Go _ K Z _ n0 _ _ 35 #[.val (.ref a), .val (.int (0 : Int32)), .val (.int (natI cs.length)), .val (.ref b), .val (.int (natI (pfx cs))), .val (.ref d)] [(.int c)] hp5 _ _ _
    refine Own.sipush (v := 255) C d5_35 rfl ?_
    refine icmp_gt C d5_38 (fun q6 => ?_) (fun q6 => ?_)
    · refine Own.aload C d5_54 rfl rfl ?_
      exact retA C (gs := []) rfl rfl d5_56 (dle rfl) (by omega) (fun _ q => nomatch q) ⟨rfl, d, 1, utf cs, rfl, (by have := K1.1; have := K2.1; omega), B4.keep K5 nin0, Or.inr ⟨⟨c, List.mem_of_getElem? hc, hge⟩, rfl, rfl⟩⟩
    · have e : (255 : Int32).toInt = 255 := rfl
      rw [lt32] at q6
      omega
set_option maxRecDepth 65536 in
set_option maxHeartbeats 4000000 in
theorem k_coder {Z : State} {a0 : Array Value} (hw : ∀ d ∈ tables_1, d.before a0 Z = true) (hs : Stt Z) {n0 : Nat} {h0 : Heap} {b : Addr} {cs : List Int32} {z : Int32} {vs : List Value} (h1 : 1 ≤ cs.length) (hl : cs.length ≤ 4096) (A : Ary Z h0 b .byte vs) (B : Byt cs z vs) (O : Old Z n0 h0) :
    Con WD Z EL0 n0 (⟨"java/lang/StringUTF16", "coderFromArrayLen", "([BI)B"⟩ : MethodName) jdk_52_method_15_code 2 (some .byte) (Rm 0 0 0 0) [(.ref b), (.int (natI cs.length))] h0 [] (fun v h gs => v = some (.int z) ∧ gs = []) := by
  refine Con.of (a0 := a0) (by first | (simp [plainName, overriddenIn]; done) | decide +kernel) (hEL hw) hWE O (L0 := #[.val (.ref b), .val (.int (natI cs.length))]) (fun m => by first | rfl | (simp [entryFrame, mkF, argsToLocals, Value.category]; done)) ?_
  intro K C hh
  obtain ⟨y, hy⟩ : ∃ y : Int32, y.toInt = vs.length := ⟨natI vs.length, natI_toInt (Byt.len_lt B hl)⟩
  refine Own.iloadN C d7_0 rfl ?_
  refine Own.aloadN C d7_1 rfl rfl ?_
  refine arrlen C A (z := y) hy d7_2 ?_
  refine Own.isub C d7_3 ?_
  refine Own.bipush (v := 31) C d7_4 rfl ?_
  refine Own.iushr C d7_6 ?_
  refine Own.i2b C d7_7 ?_
  exact retB C (gs := []) d7_8 (dle rfl) (dle rfl) (fun _ q => nomatch q) ⟨by rw [Byt.coder B h1 hl hy], rfl⟩
set_option maxRecDepth 65536 in
set_option maxHeartbeats 4000000 in
theorem k_init4 {Z : State} {a0 : Array Value} (hw : ∀ d ∈ tables_1, d.before a0 Z = true) (hs : Stt Z) {n0 : Nat} {h0 : Heap} {N : Nat} {a b0 : Addr} {cs : List Int32} {u1 u2 : Value} (hcs : ∀ c ∈ cs, isCh c) (hl : cs.length ≤ 4096) (hN : cs.length ≤ N ∧ N ≤ 4096) (A : Ary Z h0 b0 .char (chs cs)) (E : Exa Z h0 a "java/lang/String") (Fv : Fld Z h0 a "java/lang/String" "value" "[B" u1) (Fc : Fld Z h0 a "java/lang/String" "coder" "B" u2) (O : Old Z n0 h0) :
    Con WD Z EL0 n0 (⟨"java/lang/String", "<init>", "([CIILjava/lang/Void;)V"⟩ : MethodName) jdk_42_method_149_code 6 none (Rm 4 4 (8 + 3 * N) 57) [(.ref a), (.ref b0), (.int (0 : Int32)), (.int (natI cs.length)), .null] h0 [a] (fun v h gs => v = none ∧ gs = [] ∧ Str Z h a cs) := by
  refine Con.of (a0 := a0) (by first | (simp [plainName, overriddenIn]; done) | decide +kernel) (hEL hw) hWE O (L0 := #[.val (.ref a), .val (.ref b0), .val (.int (0 : Int32)), .val (.int (natI cs.length)), .val .null, .unset]) (fun m => by first | rfl | (simp [entryFrame, mkF, argsToLocals, Value.category]; done)) ?_
  intro K C hh
  have e2 := natI_toInt (i := cs.length) (by omega)
  obtain ⟨cv, hcv, Sc⟩ := st_c hs
  refine Own.aloadN C d3_0 rfl rfl ?_
  refine initO_ C (hw _ (List.mem_of_getElem? (i := 19) rfl)) (hw _ (List.mem_of_getElem? (i := 20) rfl)) (hw _ (List.mem_of_getElem? (i := 21) rfl)) rfl (dle rfl) (dle rfl) d3_1 ?_
  refine Own.iloadN C d3_4 rfl ?_
  refine if_ne C d3_5 (fun q1 => ?_) (fun q1 => ?_)
  · have h1 : 1 ≤ cs.length := by rcases Nat.eq_zero_or_pos cs.length with z | z; exact absurd (by rw [z]; rfl) q1; exact z
    refine getS_ C (hw _ (List.mem_of_getElem? (i := 22) rfl)) Sc d3_27 ?_
    refine if_eq C d3_30 (fun q2 => ?_) (fun q2 => ?_)
    · exact absurd q2 hcv
    · refine Own.aloadN C d3_33 rfl rfl ?_
      refine Own.iloadN C d3_34 rfl ?_
      refine Own.iloadN C d3_35 rfl ?_
      refine callS_ C (as := [(.ref b0), (.int (0 : Int32)), (.int (natI cs.length))]) (st := []) (hw _ (List.mem_of_getElem? (i := 23) rfl)) (hw _ (List.mem_of_getElem? (i := 24) rfl)) (hw _ (List.mem_of_getElem? (i := 25) rfl)) (hw _ (List.mem_of_getElem? (i := 26) rfl)) ⟨by decide, by decide⟩ pd__28_5bCII_29_5bB rfl (fun O => k_compress3 (N := N) hw hs hcs hl hN A O) (fun _ q => nomatch q) rfl (dle rfl) (dle rfl) (dle rfl) (by omega) d3_36 rfl (fun v3 hp3 gs3 K3 Q3 => ?_)
      obtain ⟨rfl, b, z, vs, rfl, hb, B, hB⟩ := Q3
      show Go _ K Z _ n0 _ _ 39 #[.val (.ref a), .val (.ref b0), .val (.int (0 : Int32)), .val (.int (natI cs.length)), .val .null, .unset] [(.ref b)] hp3 _ _ _
      refine Own.astore (L' := #[.val (.ref a), .val (.ref b0), .val (.int (0 : Int32)), .val (.int (natI cs.length)), .val .null, .val (.ref b)]) C d3_39 rfl rfl ?_
      refine Own.aloadN C d3_41 rfl rfl ?_
      refine Own.aload C d3_42 rfl rfl ?_
      refine Own.iloadN C d3_44 rfl ?_
      refine callS_ C (as := [(.ref b), (.int (natI cs.length))]) (st := [(.ref a)]) (hw _ (List.mem_of_getElem? (i := 31) rfl)) (hw _ (List.mem_of_getElem? (i := 32) rfl)) (hw _ (List.mem_of_getElem? (i := 25) rfl)) (hw _ (List.mem_of_getElem? (i := 33) rfl)) ⟨by decide, by decide⟩ pd__28_5bBI_29B rfl (fun O => k_coder hw hs h1 hl B hB O) (fun _ q => nomatch q) rfl (dle rfl) (dle rfl) (dle rfl) (by omega) d3_45 rfl (fun v4 hp4 gs4 K4 Q4 => ?_)
      obtain ⟨rfl, rfl⟩ := Q4
      show Go _ K Z _ n0 _ _ 48 #[.val (.ref a), .val (.ref b0), .val (.int (0 : Int32)), .val (.int (natI cs.length)), .val .null, .val (.ref b)] [(.int z), (.ref a)] hp4 _ _ _
      have K1 := K3.trans K4 (fun _ q => nomatch q)
      have E1 := E.keep K1
      have C1 := Fc.keep K1 nin0
      have V1 := Fv.keep K1 nin0
      refine putF_ C (v' := .int z) (ty := .byte) (hw _ (List.mem_of_getElem? (i := 34) rfl)) C1 E1 (Or.inr ⟨(hw _ (List.mem_of_getElem? (i := 35) rfl)), rfl, rfl⟩) (hw _ (List.mem_of_getElem? (i := 10) rfl)) (by decide) (by rcases hB with ⟨-, rfl, -⟩ | ⟨-, rfl, -⟩ <;> rfl) (by rcases hB with ⟨-, rfl, -⟩ | ⟨-, rfl, -⟩ <;> rfl) (by simp) d3_48 (fun hp5 W6 => ?_)
      have hne := slot_ne (Or.inr (hw _ (List.mem_of_getElem? (i := 37) rfl)) : Laid Z a0 "java/lang/String" "java/lang/String" "value" "[B") (Or.inr (hw _ (List.mem_of_getElem? (i := 35) rfl)) : Laid Z a0 "java/lang/String" "java/lang/String" "coder" "B") (by decide) (t := .array .byte) (t' := .byte) (by decide) (by decide)
      have E2 := E1.wr W6
      have C2 := C1.same W6
      have V2 := V1.other W6 (Or.inr hne)
      have B2 := (B.keep K4 nin0).other W6 ((B.keep K4 nin0).neX E1 (hw _ (List.mem_of_getElem? (i := 10) rfl)))
      refine Own.aloadN C d3_51 rfl rfl ?_
      refine Own.aload C d3_52 rfl rfl ?_
      refine putF_ C (v' := .ref b) (ty := (.array .byte)) (hw _ (List.mem_of_getElem? (i := 36) rfl)) V2 E2 (Or.inr ⟨(hw _ (List.mem_of_getElem? (i := 37) rfl)), rfl, rfl⟩) (hw _ (List.mem_of_getElem? (i := 10) rfl)) (by decide) rfl rfl (by simp) d3_54 (fun hp7 W8 => ?_)
      have E3 := E2.wr W8
      have V3 := V2.same W8
      have C3 := C2.other W8 (Or.inr hne.symm)
      have B3 := B2.other W8 (B2.neX E2 (hw _ (List.mem_of_getElem? (i := 10) rfl)))
      exact retV C (gs := []) d3_57 (dle rfl) (by omega) (fun _ q => nomatch q) ⟨rfl, rfl, E3, hcs, hl, b, z, vs, V3, C3, B3, hB⟩
  · have hn0 : cs = [] := by have e0 : (0 : Int32).toInt = 0 := rfl; have := congrArg Int32.toInt q1; exact List.eq_nil_of_length_eq_zero (by omega)
    subst hn0
    refine Own.aloadN C d3_8 rfl rfl ?_
    refine ldcS_ rfl C (text := "") (vs := []) (z := 0) (nn := 0) (hw _ (List.mem_of_getElem? (i := 117) rfl)) (wS hw) (by simp) ⟨by decide +kernel, by decide +kernel⟩ (by decide) (by decide) (by decide +kernel) (by decide) (dle rfl) (by omega) d3_9 (fun hp9 s9 b9 K9 E9 C9 V9 A9 ne9 => ?_)
    refine getF_ C (hw _ (List.mem_of_getElem? (i := 36) rfl)) V9 d3_11 ?_
    have E1 := E.keep K9
    have V1 := Fv.keep K9 nin0
    have C1 := Fc.keep K9 nin0
    refine putF_ C (v' := .ref b9) (ty := (.array .byte)) (hw _ (List.mem_of_getElem? (i := 36) rfl)) V1 E1 (Or.inr ⟨(hw _ (List.mem_of_getElem? (i := 37) rfl)), rfl, rfl⟩) (hw _ (List.mem_of_getElem? (i := 10) rfl)) (by decide) rfl rfl (by simp) d3_14 (fun hp10 W11 => ?_)
    have hne := slot_ne (Or.inr (hw _ (List.mem_of_getElem? (i := 37) rfl)) : Laid Z a0 "java/lang/String" "java/lang/String" "value" "[B") (Or.inr (hw _ (List.mem_of_getElem? (i := 35) rfl)) : Laid Z a0 "java/lang/String" "java/lang/String" "coder" "B") (by decide) (t := .array .byte) (t' := .byte) (by decide) (by decide)
    have E2 := E1.wr W11
    have V2 := V1.same W11
    have C2 := C1.other W11 (Or.inr hne.symm)
    have A2 := A9.other W11 (A9.neX E1 (hw _ (List.mem_of_getElem? (i := 10) rfl)))
    refine Own.aloadN C d3_17 rfl rfl ?_
    refine ldcS_ rfl C (text := "") (vs := []) (z := 0) (nn := 0) (hw _ (List.mem_of_getElem? (i := 117) rfl)) (wS hw) (by simp) ⟨by decide +kernel, by decide +kernel⟩ (by decide) (by decide) (by decide +kernel) (by decide) (dle rfl) (by omega) d3_18 (fun hp12 s12 b12 K12 E12 C12 V12 A12 ne12 => ?_)
    refine getF_ C (hw _ (List.mem_of_getElem? (i := 34) rfl)) C12 d3_20 ?_
    have E3 := E2.keep K12
    have V3 := V2.keep K12 nin0
    have C3 := C2.keep K12 nin0
    have A3 := A2.keep K12 nin0
    refine putF_ C (v' := .int (0 : Int32)) (ty := .byte) (hw _ (List.mem_of_getElem? (i := 34) rfl)) C3 E3 (Or.inr ⟨(hw _ (List.mem_of_getElem? (i := 35) rfl)), rfl, rfl⟩) (hw _ (List.mem_of_getElem? (i := 10) rfl)) (by decide) rfl rfl (by simp) d3_23 (fun hp13 W14 => ?_)
    have E4 := E3.wr W14
    have V4 := V3.other W14 (Or.inr hne)
    have C4 := C3.same W14
    have A4 := A3.other W14 (A3.neX E3 (hw _ (List.mem_of_getElem? (i := 10) rfl)))
    exact retV C (gs := []) d3_26 (dle rfl) (by omega) (fun _ q => nomatch q) ⟨rfl, rfl, E4, hcs, hl, b9, 0, [], V4, C4, A4, Or.inl ⟨by simp, rfl, rfl⟩⟩
set_option maxRecDepth 65536 in
set_option maxHeartbeats 4000000 in
theorem k_init {Z : State} {a0 : Array Value} (hw : ∀ d ∈ tables_1, d.before a0 Z = true) (hs : Stt Z) {n0 : Nat} {h0 : Heap} {N : Nat} {a b0 : Addr} {cs : List Int32} {u1 u2 : Value} (hcs : ∀ c ∈ cs, isCh c) (hl : cs.length ≤ 4096) (hN : cs.length ≤ N ∧ N ≤ 4096) (A : Ary Z h0 b0 .char (chs cs)) (E : Exa Z h0 a "java/lang/String") (Fv : Fld Z h0 a "java/lang/String" "value" "[B" u1) (Fc : Fld Z h0 a "java/lang/String" "coder" "B" u2) (O : Old Z n0 h0) :
    Con WD Z EL0 n0 (⟨"java/lang/String", "<init>", "([C)V"⟩ : MethodName) jdk_42_method_3_code 2 none (Rm 5 4 (8 + 3 * N) 74) [(.ref a), (.ref b0)] h0 [a] (fun v h gs => v = none ∧ gs = [] ∧ Str Z h a cs) := by
  refine Con.of (a0 := a0) (by first | (simp [plainName, overriddenIn]; done) | decide +kernel) (hEL hw) hWE O (L0 := #[.val (.ref a), .val (.ref b0)]) (fun m => by first | rfl | (simp [entryFrame, mkF, argsToLocals, Value.category]; done)) ?_
  intro K C hh
  have e2 := natI_toInt (i := cs.length) (by omega)
  refine Own.aloadN C d2_0 rfl rfl ?_
  refine Own.aloadN C d2_1 rfl rfl ?_
  refine Own.iconst (v := 0) C d2_2 rfl ?_
  refine Own.aloadN C d2_3 rfl rfl ?_
  refine arrlen C A (z := (natI cs.length)) (by rw [e2, chs_len]) d2_4 ?_
  refine Own.aconstNull C d2_5 ?_
  refine callI_ C (as' := [(.ref b0), (.int (0 : Int32)), (.int (natI cs.length)), .null]) (st := []) rfl (hw _ (List.mem_of_getElem? (i := 15) rfl)) (hw _ (List.mem_of_getElem? (i := 16) rfl)) (hw _ (List.mem_of_getElem? (i := 11) rfl)) (hw _ (List.mem_of_getElem? (i := 18) rfl)) ⟨by decide, by decide⟩ pd__28_5bCIILjava_2flang_2fVoid_3b_29V rfl (fun O => k_init4 (N := N) hw hs hcs hl hN A E Fv Fc O) (by simp) rfl (dle rfl) (dle rfl) (dle rfl) (by omega) d2_6 rfl (fun v1 hp1 gs1 K1 Q1 => ?_)
  obtain ⟨rfl, rfl, S1⟩ := Q1
  show Go _ K Z _ n0 _ _ 9 #[.val (.ref a), .val (.ref b0)] [] hp1 _ _ _
  exact retV C (gs := []) d2_9 (dle rfl) (by omega) (fun _ q => nomatch q) ⟨rfl, rfl, S1⟩
set_option maxRecDepth 65536 in
set_option maxHeartbeats 4000000 in
theorem k_scoder {Z : State} {a0 : Array Value} (hw : ∀ d ∈ tables_1, d.before a0 Z = true) (hs : Stt Z) {n0 : Nat} {h0 : Heap} {a : Addr} {z : Int32} (hz : nar .byte z = z) (Fc : Fld Z h0 a "java/lang/String" "coder" "B" (.int z)) (O : Old Z n0 h0) :
    Con WD Z EL0 n0 (⟨"java/lang/String", "coder", "()B"⟩ : MethodName) jdk_42_method_152_code 1 (some .byte) (Rm 0 0 0 0) [(.ref a)] h0 [] (fun v h gs => v = some (.int z) ∧ gs = []) := by
  refine Con.of (a0 := a0) (by first | (simp [plainName, overriddenIn]; done) | decide +kernel) (hEL hw) hWE O (L0 := #[.val (.ref a)]) (fun m => by first | rfl | (simp [entryFrame, mkF, argsToLocals, Value.category]; done)) ?_
  intro K C hh
  obtain ⟨cv, hcv, Sc⟩ := st_c hs
  refine getS_ C (hw _ (List.mem_of_getElem? (i := 22) rfl)) Sc d10_0 ?_
  refine if_eq C d10_3 (fun q1 => ?_) (fun q1 => ?_)
  · exact absurd q1 hcv
  · refine Own.aloadN C d10_6 rfl rfl ?_
    refine getF_ C (hw _ (List.mem_of_getElem? (i := 34) rfl)) Fc d10_7 ?_
    refine Own.goto_ C d10_10 ?_
    exact retB C (gs := []) d10_14 (dle rfl) (dle rfl) (fun _ q => nomatch q) ⟨by rw [hz], rfl⟩
set_option maxRecDepth 65536 in
set_option maxHeartbeats 4000000 in
theorem k_length {Z : State} {a0 : Array Value} (hw : ∀ d ∈ tables_1, d.before a0 Z = true) (hs : Stt Z) {n0 : Nat} {h0 : Heap} {a : Addr} {cs : List Int32} (F : Str Z h0 a cs) (O : Old Z n0 h0) :
    Con WD Z EL0 n0 (⟨"java/lang/String", "length", "()I"⟩ : MethodName) jdk_42_method_54_code 1 (some .int) (Rm 1 0 0 13) [(.ref a)] h0 [] (fun v h gs => v = some (.int (natI cs.length)) ∧ gs = []) := by
  refine Con.of (a0 := a0) (by first | (simp [plainName, overriddenIn]; done) | decide +kernel) (hEL hw) hWE O (L0 := #[.val (.ref a)]) (fun m => by first | rfl | (simp [entryFrame, mkF, argsToLocals, Value.category]; done)) ?_
  intro K C hh
  obtain ⟨E, hc1, hl1, b, z, vs, Fv, Fc, A, Bt⟩ := F
  obtain ⟨y, hy⟩ : ∃ y : Int32, y.toInt = vs.length := ⟨natI vs.length, natI_toInt (Byt.len_lt Bt hl1)⟩
  refine Own.aloadN C d9_0 rfl rfl ?_
  refine getF_ C (hw _ (List.mem_of_getElem? (i := 36) rfl)) Fv d9_1 ?_
  refine arrlen C A (z := y) hy d9_4 ?_
  refine Own.aloadN C d9_5 rfl rfl ?_
  refine callV_ C (as' := []) (st := [(.int y)]) (hw _ (List.mem_of_getElem? (i := 48) rfl)) (hw _ (List.mem_of_getElem? (i := 49) rfl)) (fun _ hZ => notFace_of_selects (args := #[]) (mvT hZ (hw _ (List.mem_of_getElem? (i := 51) rfl)))) (hw _ (List.mem_of_getElem? (i := 51) rfl)) (hw _ (List.mem_of_getElem? (i := 50) rfl)) (hw _ (List.mem_of_getElem? (i := 11) rfl)) (hw _ (List.mem_of_getElem? (i := 52) rfl)) ⟨by decide, by decide⟩ E pd__28_29B rfl (fun O => k_scoder hw hs Bt.nb Fc O) (fun _ q => nomatch q) rfl (dle rfl) (dle rfl) (dle rfl) (dle rfl) d9_6 rfl (fun v1 hp1 gs1 K1 Q1 => ?_)
  obtain ⟨rfl, rfl⟩ := Q1
  show Go _ K Z _ n0 _ _ 9 #[.val (.ref a)] [(.int z), (.int y)] hp1 _ _ _
  refine Own.ishr C d9_9 ?_
  exact retI_ C (gs := []) d9_10 (dle rfl) (dle rfl) (fun _ q => nomatch q) ⟨by rw [Bt.isr hl1 hy], rfl⟩
set_option maxRecDepth 65536 in
set_option maxHeartbeats 4000000 in
theorem k_isEmpty {Z : State} {a0 : Array Value} (hw : ∀ d ∈ tables_1, d.before a0 Z = true) (hs : Stt Z) {n0 : Nat} {h0 : Heap} {a : Addr} {cs : List Int32} (F : Str Z h0 a cs) (O : Old Z n0 h0) :
    Con WD Z EL0 n0 (⟨"java/lang/String", "isEmpty", "()Z"⟩ : MethodName) jdk_42_method_55_code 1 (some .boolean) (Rm 0 0 0 0) [(.ref a)] h0 [] (fun v h gs => v = some (.int (if cs.length = 0 then 1 else 0)) ∧ gs = []) := by
  refine Con.of (a0 := a0) (by first | (simp [plainName, overriddenIn]; done) | decide +kernel) (hEL hw) hWE O (L0 := #[.val (.ref a)]) (fun m => by first | rfl | (simp [entryFrame, mkF, argsToLocals, Value.category]; done)) ?_
  intro K C hh
  obtain ⟨E, hc1, hl1, b, z, vs, Fv, Fc, A, Bt⟩ := F
  obtain ⟨y, hy⟩ : ∃ y : Int32, y.toInt = vs.length := ⟨natI vs.length, natI_toInt (Byt.len_lt Bt hl1)⟩
  have e0 : (0 : Int32).toInt = 0 := rfl
  refine Own.aloadN C d8_0 rfl rfl ?_
  refine getF_ C (hw _ (List.mem_of_getElem? (i := 36) rfl)) Fv d8_1 ?_
  refine arrlen C A (z := y) hy d8_4 ?_
  refine if_ne C d8_5 (fun q1 => ?_) (fun q1 => ?_)
  · refine Own.iconst (v := 0) C d8_12 rfl ?_
    have e : ¬ cs.length = 0 := fun q => q1 (i32e (by rw [hy, e0]; rcases Bt.length with ⟨-, t⟩ | ⟨-, t⟩ <;> omega))
    exact retZ C (gs := []) d8_13 (dle rfl) (dle rfl) (fun _ q => nomatch q) ⟨by rw [if_neg e]; rfl, rfl⟩
  · refine Own.iconst (v := 1) C d8_8 rfl ?_
    refine Own.goto_ C d8_9 ?_
    have e : cs.length = 0 := by have := congrArg Int32.toInt q1; rcases Bt.length with ⟨-, t⟩ | ⟨-, t⟩ <;> omega
    exact retZ C (gs := []) d8_13 (dle rfl) (dle rfl) (fun _ q => nomatch q) ⟨by rw [if_pos e]; rfl, rfl⟩
set_option maxRecDepth 65536 in
set_option maxHeartbeats 4000000 in
theorem k_isLatin1 {Z : State} {a0 : Array Value} (hw : ∀ d ∈ tables_1, d.before a0 Z = true) (hs : Stt Z) {n0 : Nat} {h0 : Heap} {a : Addr} {z : Int32} (Fc : Fld Z h0 a "java/lang/String" "coder" "B" (.int z)) (O : Old Z n0 h0) :
    Con WD Z EL0 n0 (⟨"java/lang/String", "isLatin1", "()Z"⟩ : MethodName) jdk_42_method_154_code 1 (some .boolean) (Rm 0 0 0 0) [(.ref a)] h0 [] (fun v h gs => v = some (.int (if z = 0 then 1 else 0)) ∧ gs = []) := by
  refine Con.of (a0 := a0) (by first | (simp [plainName, overriddenIn]; done) | decide +kernel) (hEL hw) hWE O (L0 := #[.val (.ref a)]) (fun m => by first | rfl | (simp [entryFrame, mkF, argsToLocals, Value.category]; done)) ?_
  intro K C hh
  obtain ⟨cv, hcv, Sc⟩ := st_c hs
  refine getS_ C (hw _ (List.mem_of_getElem? (i := 22) rfl)) Sc d12_0 ?_
  refine if_eq C d12_3 (fun q1 => ?_) (fun q1 => ?_)
  · exact absurd q1 hcv
  · refine Own.aloadN C d12_6 rfl rfl ?_
    refine getF_ C (hw _ (List.mem_of_getElem? (i := 34) rfl)) Fc d12_7 ?_
    refine if_ne C d12_10 (fun q2 => ?_) (fun q2 => ?_)
    · refine Own.iconst (v := 0) C d12_17 rfl ?_
      exact retZ C (gs := []) d12_18 (dle rfl) (dle rfl) (fun _ q => nomatch q) ⟨by rw [if_neg q2]; rfl, rfl⟩
    · refine Own.iconst (v := 1) C d12_13 rfl ?_
      refine Own.goto_ C d12_14 ?_
      exact retZ C (gs := []) d12_18 (dle rfl) (dle rfl) (fun _ q => nomatch q) ⟨by rw [if_pos q2]; rfl, rfl⟩
set_option maxRecDepth 65536 in
set_option maxHeartbeats 4000000 in
theorem k_charAt {Z : State} {a0 : Array Value} (hw : ∀ d ∈ tables_1, d.before a0 Z = true) (hs : Stt Z) {n0 : Nat} {h0 : Heap} {a : Addr} {cs : List Int32} {j c : Int32} {i : Nat} (F : Str Z h0 a cs) (hj : j.toInt = i) (hc : cs[i]? = some c) (O : Old Z n0 h0) :
    Con WD Z EL0 n0 (⟨"java/lang/String", "charAt", "(I)C"⟩ : MethodName) jdk_42_method_56_code 2 (some .char) (Rm 4 0 0 53) [(.ref a), (.int j)] h0 [] (fun v h gs => v = some (.int c) ∧ gs = []) := by
  refine Con.of (a0 := a0) (by first | (simp [plainName, overriddenIn]; done) | decide +kernel) (hEL hw) hWE O (L0 := #[.val (.ref a), .val (.int j)]) (fun m => by first | rfl | (simp [entryFrame, mkF, argsToLocals, Value.category]; done)) ?_
  intro K C hh
  obtain ⟨E, hc1, hl1, b, z, vs, Fv, Fc, A, Bt⟩ := F
  have hch := hc1 c (List.mem_of_getElem? hc)
  refine Own.aloadN C d11_0 rfl rfl ?_
  refine callV_ C (as' := []) (st := []) (hw _ (List.mem_of_getElem? (i := 58) rfl)) (hw _ (List.mem_of_getElem? (i := 59) rfl)) (fun _ hZ => notFace_of_selects (args := #[]) (mvT hZ (hw _ (List.mem_of_getElem? (i := 61) rfl)))) (hw _ (List.mem_of_getElem? (i := 61) rfl)) (hw _ (List.mem_of_getElem? (i := 60) rfl)) (hw _ (List.mem_of_getElem? (i := 11) rfl)) (hw _ (List.mem_of_getElem? (i := 62) rfl)) ⟨by decide, by decide⟩ E pd__28_29Z rfl (fun O => k_isLatin1 hw hs Fc O) (fun _ q => nomatch q) rfl (dle rfl) (dle rfl) (dle rfl) (dle rfl) d11_1 rfl (fun v1 hp1 gs1 K1 Q1 => ?_)
  obtain ⟨rfl, rfl⟩ := Q1
  show Go _ K Z _ n0 _ _ 4 #[.val (.ref a), .val (.int j)] [(.int (if z = 0 then 1 else 0))] hp1 _ _ _
  refine if_eq C d11_4 (fun q2 => ?_) (fun q2 => ?_)
  · have hz : z = 1 := by rcases Bt.z01 with t | t; rw [if_pos t] at q2; exact absurd q2 (by decide); exact t
    subst hz
    have ev := Bt.one
    subst ev
    refine Own.aloadN C d11_16 rfl rfl ?_
    refine getF_ C (hw _ (List.mem_of_getElem? (i := 36) rfl)) (Fv.keep K1 nin0) d11_17 ?_
    refine Own.iloadN C d11_20 rfl ?_
    refine callS_ C (as := [(.ref b), (.int j)]) (st := []) (hw _ (List.mem_of_getElem? (i := 97) rfl)) (hw _ (List.mem_of_getElem? (i := 98) rfl)) (hw _ (List.mem_of_getElem? (i := 25) rfl)) (hw _ (List.mem_of_getElem? (i := 99) rfl)) ⟨by decide, by decide⟩ pd__28_5bBI_29C rfl (fun O => k_ucharAt hw hs hc1 hl1 (A.keep K1 nin0) hj hc O) (fun _ q => nomatch q) rfl (dle rfl) (dle rfl) (dle rfl) (dle rfl) d11_21 rfl (fun v3 hp3 gs3 K3 Q3 => ?_)
    obtain ⟨rfl, rfl⟩ := Q3
    show Go _ K Z _ n0 _ _ 24 #[.val (.ref a), .val (.int j)] [(.int c)] hp3 _ _ _
    exact retC C (gs := []) d11_24 (dle rfl) (dle rfl) (fun _ q => nomatch q) ⟨by rw [narc_id hch], rfl⟩
  · have hz : z = 0 := by by_cases t : z = 0; exact t; exact absurd (if_neg t) q2
    subst hz
    obtain ⟨hlt, ev⟩ := Bt.zero
    subst ev
    refine Own.aloadN C d11_7 rfl rfl ?_
    refine getF_ C (hw _ (List.mem_of_getElem? (i := 36) rfl)) (Fv.keep K1 nin0) d11_8 ?_
    refine Own.iloadN C d11_11 rfl ?_
    refine callS_ C (as := [(.ref b), (.int j)]) (st := []) (hw _ (List.mem_of_getElem? (i := 63) rfl)) (hw _ (List.mem_of_getElem? (i := 64) rfl)) (hw _ (List.mem_of_getElem? (i := 65) rfl)) (hw _ (List.mem_of_getElem? (i := 66) rfl)) ⟨by decide, by decide⟩ pd__28_5bBI_29C rfl (fun O => k_lcharAt hw hs hl1 (A.keep K1 nin0) hj hc ⟨hch.1, hlt c (List.mem_of_getElem? hc)⟩ O) (fun _ q => nomatch q) rfl (dle rfl) (dle rfl) (dle rfl) (dle rfl) d11_12 rfl (fun v4 hp4 gs4 K4 Q4 => ?_)
    obtain ⟨rfl, rfl⟩ := Q4
    show Go _ K Z _ n0 _ _ 15 #[.val (.ref a), .val (.int j)] [(.int c)] hp4 _ _ _
    exact retC C (gs := []) d11_15 (dle rfl) (dle rfl) (fun _ q => nomatch q) ⟨by rw [narc_id hch], rfl⟩
def ld (c : Int32) : Int32 := if ¬ c < 97 ∧ ¬ 122 < c then 1 else if ¬ c < 48 ∧ ¬ 57 < c then 1 else 0
def lt (c : Int32) : Int32 := if ld c = 0 ∧ ¬ c = 46 ∧ ¬ c = 95 ∧ ¬ c = 45 then 0 else 1
theorem ld01 (c : Int32) : ld c = 0 ∨ ld c = 1 := by unfold ld; split; exact Or.inr rfl; split; exact Or.inr rfl; exact Or.inl rfl
theorem lt01 (c : Int32) : lt c = 0 ∨ lt c = 1 := by unfold lt; split; exact Or.inl rfl; exact Or.inr rfl
def vl : List Int32 → Int32
  | [] => 0
  | c :: r => if ld c = 1 ∧ ∀ x ∈ r, lt x = 1 then 1 else 0
def ok (cs : List Int32) : Int32 := if cs.length = 0 ∨ 128 < cs.length then 0 else vl cs
theorem vl_pos {c : Int32} {r : List Int32} (h : ld c = 1 ∧ ∀ x ∈ r, lt x = 1) : vl (c :: r) = 1 := if_pos h
theorem vl_neg {c : Int32} {r : List Int32} (h : ¬ (ld c = 1 ∧ ∀ x ∈ r, lt x = 1)) : vl (c :: r) = 0 := if_neg h
theorem vl01 (cs : List Int32) : vl cs = 0 ∨ vl cs = 1 := by
  cases cs with
  | nil => exact Or.inl rfl
  | cons c r =>
    by_cases q : ld c = 1 ∧ ∀ x ∈ r, lt x = 1
    · exact Or.inr (if_pos q)
    · exact Or.inl (if_neg q)
theorem vl_step {cs : List Int32} {i : Nat} {c : Int32} (hi : 1 ≤ i) (hc : cs[i]? = some c) : vl (cs.take i) &&& lt c = vl (cs.take (i + 1)) := by
  cases cs with
  | nil => simp at hc
  | cons d r =>
    obtain ⟨j, rfl⟩ : ∃ j, i = j + 1 := ⟨i - 1, by omega⟩
    have hc' : r[j]? = some c := by simpa using hc
    have hP : (∀ x ∈ r.take (j + 1), lt x = 1) ↔ (∀ x ∈ r.take j, lt x = 1) ∧ lt c = 1 := by
      rw [List.take_add_one, hc']
      simp [or_imp, forall_and]
    rw [List.take_succ_cons, List.take_succ_cons]
    by_cases q : ld d = 1 ∧ ∀ x ∈ r.take j, lt x = 1
    · rcases lt01 c with h | h
      · rw [vl_pos q, h, vl_neg (fun z => absurd (hP.mp z.2).2 (by rw [h]; decide))]; rfl
      · rw [vl_pos q, h, vl_pos ⟨q.1, hP.mpr ⟨q.2, h⟩⟩]; rfl
    · rw [vl_neg q, vl_neg (fun z => q ⟨z.1, (hP.mp z.2).1⟩)]
      rcases lt01 c with h | h <;> rw [h] <;> rfl
theorem vl_one {cs : List Int32} {c : Int32} (hc : cs[0]? = some c) : vl (cs.take 1) = ld c := by
  cases cs with
  | nil => simp at hc
  | cons d r =>
    have : d = c := by simpa using hc
    subst this
    simp only [List.take_succ_cons, List.take_zero, vl]
    rcases ld01 d with h | h <;> rw [h] <;> simp
set_option maxRecDepth 65536 in
set_option maxHeartbeats 4000000 in
theorem k_ld {Z : State} {a0 : Array Value} (hw : ∀ d ∈ tables_1, d.before a0 Z = true) (hs : Stt Z) {n0 : Nat} {h0 : Heap} {p : Int32} (O : Old Z n0 h0) :
    Con WD Z EL0 n0 (⟨"com/example/keelson/keelson/dataset/DatasetName", "isLetterOrDigit", "(C)Z"⟩ : MethodName) prog_10_method_3_code 1 (some .boolean) (Rm 0 0 0 0) [(.int p)] h0 [] (fun v h gs => v = some (.int (ld p)) ∧ gs = []) := by
  refine Con.of (a0 := a0) (by first | (simp [plainName, overriddenIn]; done) | decide +kernel) (hEL hw) hWE O (L0 := #[.val (.int p)]) (fun m => by first | rfl | (simp [entryFrame, mkF, argsToLocals, Value.category]; done)) ?_
  intro K C hh
  refine Own.iloadN C d16_0 rfl ?_
  refine Own.bipush (v := 97) C d16_1 rfl ?_
  refine icmp_lt C d16_3 (fun q1 => ?_) (fun q1 => ?_)
  · refine Own.iloadN C d16_12 rfl ?_
    refine Own.bipush (v := 48) C d16_13 rfl ?_
    refine icmp_lt C d16_15 (fun q2 => ?_) (fun q2 => ?_)
    · refine Own.iconst (v := 0) C d16_28 rfl ?_
      exact retZ C (gs := []) d16_29 (dle rfl) (dle rfl) (fun _ q => nomatch q) ⟨by rw [show ld p = 0 by simp_all [ld]]; rfl, rfl⟩
    · refine Own.iloadN C d16_18 rfl ?_
      refine Own.bipush (v := 57) C d16_19 rfl ?_
      refine icmp_gt C d16_21 (fun q3 => ?_) (fun q3 => ?_)
      · refine Own.iconst (v := 0) C d16_28 rfl ?_
        exact retZ C (gs := []) d16_29 (dle rfl) (dle rfl) (fun _ q => nomatch q) ⟨by rw [show ld p = 0 by simp_all [ld]]; rfl, rfl⟩
      · refine Own.iconst (v := 1) C d16_24 rfl ?_
        refine Own.goto_ C d16_25 ?_
        exact retZ C (gs := []) d16_29 (dle rfl) (dle rfl) (fun _ q => nomatch q) ⟨by rw [show ld p = 1 by simp_all [ld]]; rfl, rfl⟩
  · refine Own.iloadN C d16_6 rfl ?_
    refine Own.bipush (v := 122) C d16_7 rfl ?_
    refine icmp_le C d16_9 (fun q4 => ?_) (fun q4 => ?_)
    · refine Own.iconst (v := 1) C d16_24 rfl ?_
      refine Own.goto_ C d16_25 ?_
      exact retZ C (gs := []) d16_29 (dle rfl) (dle rfl) (fun _ q => nomatch q) ⟨by rw [show ld p = 1 by simp_all [ld]]; rfl, rfl⟩
    · refine Own.iloadN C d16_12 rfl ?_
      refine Own.bipush (v := 48) C d16_13 rfl ?_
      refine icmp_lt C d16_15 (fun q5 => ?_) (fun q5 => ?_)
      · refine Own.iconst (v := 0) C d16_28 rfl ?_
        exact retZ C (gs := []) d16_29 (dle rfl) (dle rfl) (fun _ q => nomatch q) ⟨by rw [show ld p = 0 by simp_all [ld]]; rfl, rfl⟩
      · refine Own.iloadN C d16_18 rfl ?_
        refine Own.bipush (v := 57) C d16_19 rfl ?_
        refine icmp_gt C d16_21 (fun q6 => ?_) (fun q6 => ?_)
        · refine Own.iconst (v := 0) C d16_28 rfl ?_
          exact retZ C (gs := []) d16_29 (dle rfl) (dle rfl) (fun _ q => nomatch q) ⟨by rw [show ld p = 0 by simp_all [ld]]; rfl, rfl⟩
        · refine Own.iconst (v := 1) C d16_24 rfl ?_
          refine Own.goto_ C d16_25 ?_
          exact retZ C (gs := []) d16_29 (dle rfl) (dle rfl) (fun _ q => nomatch q) ⟨by rw [show ld p = 1 by simp_all [ld]]; rfl, rfl⟩
set_option maxRecDepth 65536 in
set_option maxHeartbeats 4000000 in
theorem k_first {Z : State} {a0 : Array Value} (hw : ∀ d ∈ tables_1, d.before a0 Z = true) (hs : Stt Z) {n0 : Nat} {h0 : Heap} {p : Int32} (O : Old Z n0 h0) :
    Con WD Z EL0 n0 (⟨"com/example/keelson/keelson/dataset/DatasetNameIsValidPinLaw", "first", "(C)Z"⟩ : MethodName) method_2_code 1 (some .boolean) (Rm 0 0 0 0) [(.int p)] h0 [] (fun v h gs => v = some (.int (ld p)) ∧ gs = []) := by
  refine Con.of (a0 := a0) (by first | (simp [plainName, overriddenIn]; done) | decide +kernel) (hEL hw) hWE O (L0 := #[.val (.int p)]) (fun m => by first | rfl | (simp [entryFrame, mkF, argsToLocals, Value.category]; done)) ?_
  intro K C hh
  refine Own.iloadN C d1_0 rfl ?_
  refine Own.bipush (v := 97) C d1_1 rfl ?_
  refine icmp_lt C d1_3 (fun q1 => ?_) (fun q1 => ?_)
  · refine Own.iloadN C d1_12 rfl ?_
    refine Own.bipush (v := 48) C d1_13 rfl ?_
    refine icmp_lt C d1_15 (fun q2 => ?_) (fun q2 => ?_)
    · refine Own.iconst (v := 0) C d1_28 rfl ?_
      exact retZ C (gs := []) d1_29 (dle rfl) (dle rfl) (fun _ q => nomatch q) ⟨by rw [show ld p = 0 by simp_all [ld]]; rfl, rfl⟩
    · refine Own.iloadN C d1_18 rfl ?_
      refine Own.bipush (v := 57) C d1_19 rfl ?_
      refine icmp_gt C d1_21 (fun q3 => ?_) (fun q3 => ?_)
      · refine Own.iconst (v := 0) C d1_28 rfl ?_
        exact retZ C (gs := []) d1_29 (dle rfl) (dle rfl) (fun _ q => nomatch q) ⟨by rw [show ld p = 0 by simp_all [ld]]; rfl, rfl⟩
      · refine Own.iconst (v := 1) C d1_24 rfl ?_
        refine Own.goto_ C d1_25 ?_
        exact retZ C (gs := []) d1_29 (dle rfl) (dle rfl) (fun _ q => nomatch q) ⟨by rw [show ld p = 1 by simp_all [ld]]; rfl, rfl⟩
  · refine Own.iloadN C d1_6 rfl ?_
    refine Own.bipush (v := 122) C d1_7 rfl ?_
    refine icmp_le C d1_9 (fun q4 => ?_) (fun q4 => ?_)
    · refine Own.iconst (v := 1) C d1_24 rfl ?_
      refine Own.goto_ C d1_25 ?_
      exact retZ C (gs := []) d1_29 (dle rfl) (dle rfl) (fun _ q => nomatch q) ⟨by rw [show ld p = 1 by simp_all [ld]]; rfl, rfl⟩
    · refine Own.iloadN C d1_12 rfl ?_
      refine Own.bipush (v := 48) C d1_13 rfl ?_
      refine icmp_lt C d1_15 (fun q5 => ?_) (fun q5 => ?_)
      · refine Own.iconst (v := 0) C d1_28 rfl ?_
        exact retZ C (gs := []) d1_29 (dle rfl) (dle rfl) (fun _ q => nomatch q) ⟨by rw [show ld p = 0 by simp_all [ld]]; rfl, rfl⟩
      · refine Own.iloadN C d1_18 rfl ?_
        refine Own.bipush (v := 57) C d1_19 rfl ?_
        refine icmp_gt C d1_21 (fun q6 => ?_) (fun q6 => ?_)
        · refine Own.iconst (v := 0) C d1_28 rfl ?_
          exact retZ C (gs := []) d1_29 (dle rfl) (dle rfl) (fun _ q => nomatch q) ⟨by rw [show ld p = 0 by simp_all [ld]]; rfl, rfl⟩
        · refine Own.iconst (v := 1) C d1_24 rfl ?_
          refine Own.goto_ C d1_25 ?_
          exact retZ C (gs := []) d1_29 (dle rfl) (dle rfl) (fun _ q => nomatch q) ⟨by rw [show ld p = 1 by simp_all [ld]]; rfl, rfl⟩
set_option maxRecDepth 65536 in
set_option maxHeartbeats 4000000 in
theorem k_later {Z : State} {a0 : Array Value} (hw : ∀ d ∈ tables_1, d.before a0 Z = true) (hs : Stt Z) {n0 : Nat} {h0 : Heap} {p : Int32} (O : Old Z n0 h0) :
    Con WD Z EL0 n0 (⟨"com/example/keelson/keelson/dataset/DatasetNameIsValidPinLaw", "later", "(C)Z"⟩ : MethodName) method_3_code 1 (some .boolean) (Rm 1 0 0 12) [(.int p)] h0 [] (fun v h gs => v = some (.int (lt p)) ∧ gs = []) := by
  refine Con.of (a0 := a0) (by first | (simp [plainName, overriddenIn]; done) | decide +kernel) (hEL hw) hWE O (L0 := #[.val (.int p)]) (fun m => by first | rfl | (simp [entryFrame, mkF, argsToLocals, Value.category]; done)) ?_
  intro K C hh
  refine Own.iloadN C d27_0 rfl ?_
  refine callS_ C (as := [(.int p)]) (st := []) (hw _ (List.mem_of_getElem? (i := 5) rfl)) (hw _ (List.mem_of_getElem? (i := 6) rfl)) (hw _ (List.mem_of_getElem? (i := 7) rfl)) (hw _ (List.mem_of_getElem? (i := 8) rfl)) ⟨by decide, by decide⟩ pd__28C_29Z rfl (fun O => k_first hw hs O) (fun _ q => nomatch q) rfl (dle rfl) (dle rfl) (dle rfl) (dle rfl) d27_1 rfl (fun v1 hp1 gs1 K1 Q1 => ?_)
  obtain ⟨rfl, rfl⟩ := Q1
  show Go _ K Z _ n0 _ _ 4 #[.val (.int p)] [(.int (ld p))] hp1 _ _ _
  refine if_ne C d27_4 (fun q2 => ?_) (fun q2 => ?_)
  · refine Own.iconst (v := 1) C d27_25 rfl ?_
    refine Own.goto_ C d27_26 ?_
    exact retZ C (gs := []) d27_30 (dle rfl) (dle rfl) (fun _ q => nomatch q) ⟨by rw [show lt p = 1 by simp_all [lt]]; rfl, rfl⟩
  · refine Own.iloadN C d27_7 rfl ?_
    refine Own.bipush (v := 46) C d27_8 rfl ?_
    refine icmp_eq C d27_10 (fun q3 => ?_) (fun q3 => ?_)
    · refine Own.iconst (v := 1) C d27_25 rfl ?_
      refine Own.goto_ C d27_26 ?_
      exact retZ C (gs := []) d27_30 (dle rfl) (dle rfl) (fun _ q => nomatch q) ⟨by rw [show lt p = 1 by simp_all [lt]]; rfl, rfl⟩
    · refine Own.iloadN C d27_13 rfl ?_
      refine Own.bipush (v := 95) C d27_14 rfl ?_
      refine icmp_eq C d27_16 (fun q4 => ?_) (fun q4 => ?_)
      · refine Own.iconst (v := 1) C d27_25 rfl ?_
        refine Own.goto_ C d27_26 ?_
        exact retZ C (gs := []) d27_30 (dle rfl) (dle rfl) (fun _ q => nomatch q) ⟨by rw [show lt p = 1 by simp_all [lt]]; rfl, rfl⟩
      · refine Own.iloadN C d27_19 rfl ?_
        refine Own.bipush (v := 45) C d27_20 rfl ?_
        refine icmp_ne C d27_22 (fun q5 => ?_) (fun q5 => ?_)
        · refine Own.iconst (v := 0) C d27_29 rfl ?_
          exact retZ C (gs := []) d27_30 (dle rfl) (dle rfl) (fun _ q => nomatch q) ⟨by rw [show lt p = 0 by simp_all [lt]]; rfl, rfl⟩
        · refine Own.iconst (v := 1) C d27_25 rfl ?_
          refine Own.goto_ C d27_26 ?_
          exact retZ C (gs := []) d27_30 (dle rfl) (dle rfl) (fun _ q => nomatch q) ⟨by rw [show lt p = 1 by simp_all [lt]]; rfl, rfl⟩
set_option maxRecDepth 65536 in
set_option maxHeartbeats 4000000 in
theorem k_valid0 {Z : State} {a0 : Array Value} (hw : ∀ d ∈ tables_1, d.before a0 Z = true) (hs : Stt Z) {n0 : Nat} {h0 : Heap}  (O : Old Z n0 h0) :
    Con WD Z EL0 n0 (⟨"com/example/keelson/keelson/dataset/DatasetName", "isValid", "(Ljava/lang/String;)Z"⟩ : MethodName) prog_10_method_2_code 4 (some .boolean) (Rm 0 0 0 0) [.null] h0 [] (fun v h gs => v = some (.int 0) ∧ gs = []) := by
  refine Con.of (a0 := a0) (by first | (simp [plainName, overriddenIn]; done) | decide +kernel) (hEL hw) hWE O (L0 := #[.val .null, .unset, .unset, .unset]) (fun m => by first | rfl | (simp [entryFrame, mkF, argsToLocals, Value.category]; done)) ?_
  intro K C hh
  refine Own.aloadN C d0_0 rfl rfl ?_
  refine ifnullY (b := 0) C d0_1 ?_
  refine Own.iconst (v := 0) C d0_21 rfl ?_
  exact retZ C (gs := []) d0_22 (dle rfl) (dle rfl) (fun _ q => nomatch q) ⟨rfl, rfl⟩
set_option maxRecDepth 65536 in
set_option maxHeartbeats 4000000 in
theorem k_valid {Z : State} {a0 : Array Value} (hw : ∀ d ∈ tables_1, d.before a0 Z = true) (hs : Stt Z) {n0 : Nat} {h0 : Heap} {a : Addr} {cs : List Int32} (F : Str Z h0 a cs) (O : Old Z n0 h0) :
    Con WD Z EL0 n0 (⟨"com/example/keelson/keelson/dataset/DatasetName", "isValid", "(Ljava/lang/String;)Z"⟩ : MethodName) prog_10_method_2_code 4 (some .boolean) (Rm 5 0 0 66) [(.ref a)] h0 [] (fun v h gs => v = some (.int (ok cs)) ∧ gs = []) := by
  refine Con.of (a0 := a0) (by first | (simp [plainName, overriddenIn]; done) | decide +kernel) (hEL hw) hWE O (L0 := #[.val (.ref a), .unset, .unset, .unset]) (fun m => by first | rfl | (simp [entryFrame, mkF, argsToLocals, Value.category]; done)) ?_
  intro K C hh
  have hl := F.2.2.1
  have e2 := natI_toInt (i := cs.length) (by omega)
  have e128 : (128 : Int32).toInt = 128 := rfl
  have loop : ∀ (m i : Nat) (h : Heap) (s3 : Slot), 1 ≤ i → i + m = cs.length → cs.length ≤ 128 → (s3 = .unset ∨ ∃ w, s3 = .val w ∧ w.category = 1) → Str Z h a cs → Go WD K Z EL0 n0 [] (fun v h gs => v = some (.int (ok cs)) ∧ gs = []) 34 #[.val (.ref a), .val (.int (vl (cs.take i))), .val (.int (natI i)), s3] [] h [] 0 0 := by
    intro m
    induction m with
    | zero =>
      intro i h s3 h1 hm h128 hs3 F
      have e1 := natI_toInt (i := i) (by omega)
      refine Own.iloadN C d0_34 rfl ?_
      refine Own.aloadN C d0_35 rfl rfl ?_
      refine callV_ C (as' := []) (st := [(.int (natI i))]) (hw _ (List.mem_of_getElem? (i := 43) rfl)) (hw _ (List.mem_of_getElem? (i := 44) rfl)) (fun _ hZ => notFace_of_selects (args := #[]) (mvT hZ (hw _ (List.mem_of_getElem? (i := 46) rfl)))) (hw _ (List.mem_of_getElem? (i := 46) rfl)) (hw _ (List.mem_of_getElem? (i := 45) rfl)) (hw _ (List.mem_of_getElem? (i := 11) rfl)) (hw _ (List.mem_of_getElem? (i := 47) rfl)) ⟨by decide, by decide⟩ F.1 pd__28_29I rfl (fun O => k_length hw hs F O) (fun _ q => nomatch q) rfl (dle rfl) (dle rfl) (dle rfl) (dle rfl) d0_36 rfl (fun v1 hp1 gs1 K1 Q1 => ?_)
      obtain ⟨rfl, rfl⟩ := Q1
      show Go _ K Z _ n0 _ _ 39 #[.val (.ref a), .val (.int (vl (cs.take i))), .val (.int (natI i)), s3] [(.int (natI cs.length)), (.int (natI i))] hp1 _ _ _
      refine icmp_ge C d0_39 (fun q2 => ?_) (fun q2 => ?_)
      · refine Own.iloadN C d0_87 rfl ?_
        have hi : i = cs.length := by omega
        exact retZ C (gs := []) d0_88 (dle rfl) (dle rfl) (fun _ q => nomatch q) ⟨by rw [hi, List.take_length]; unfold ok; rw [if_neg (by omega)]; rcases vl01 cs with z | z <;> rw [z] <;> rfl, rfl⟩
      · rw [lt32] at q2
        omega
    | succ m ih =>
      intro i h s3 h1 hm h128 hs3 F
      have e1 := natI_toInt (i := i) (by omega)
      refine Own.iloadN C d0_34 rfl ?_
      refine Own.aloadN C d0_35 rfl rfl ?_
      refine callV_ C (as' := []) (st := [(.int (natI i))]) (hw _ (List.mem_of_getElem? (i := 43) rfl)) (hw _ (List.mem_of_getElem? (i := 44) rfl)) (fun _ hZ => notFace_of_selects (args := #[]) (mvT hZ (hw _ (List.mem_of_getElem? (i := 46) rfl)))) (hw _ (List.mem_of_getElem? (i := 46) rfl)) (hw _ (List.mem_of_getElem? (i := 45) rfl)) (hw _ (List.mem_of_getElem? (i := 11) rfl)) (hw _ (List.mem_of_getElem? (i := 47) rfl)) ⟨by decide, by decide⟩ F.1 pd__28_29I rfl (fun O => k_length hw hs F O) (fun _ q => nomatch q) rfl (dle rfl) (dle rfl) (dle rfl) (dle rfl) d0_36 rfl (fun v3 hp3 gs3 K3 Q3 => ?_)
      obtain ⟨rfl, rfl⟩ := Q3
      show Go _ K Z _ n0 _ _ 39 #[.val (.ref a), .val (.int (vl (cs.take i))), .val (.int (natI i)), s3] [(.int (natI cs.length)), (.int (natI i))] hp3 _ _ _
      refine icmp_ge C d0_39 (fun q4 => ?_) (fun q4 => ?_)
      · rw [lt32] at q4
        omega
      · obtain ⟨c, hc⟩ : ∃ c, cs[i]? = some c := ⟨_, List.getElem?_eq_getElem (by omega)⟩
        have F2 := F.keep K3
        refine Own.aloadN C d0_42 rfl rfl ?_
        refine Own.iloadN C d0_43 rfl ?_
        refine callV_ C (as' := [(.int (natI i))]) (st := []) (hw _ (List.mem_of_getElem? (i := 53) rfl)) (hw _ (List.mem_of_getElem? (i := 54) rfl)) (fun _ hZ => notFace_of_selects (args := #[]) (mvT hZ (hw _ (List.mem_of_getElem? (i := 56) rfl)))) (hw _ (List.mem_of_getElem? (i := 56) rfl)) (hw _ (List.mem_of_getElem? (i := 55) rfl)) (hw _ (List.mem_of_getElem? (i := 11) rfl)) (hw _ (List.mem_of_getElem? (i := 57) rfl)) ⟨by decide, by decide⟩ F2.1 pd__28I_29C rfl (fun O => k_charAt hw hs F2 e1 hc O) (fun _ q => nomatch q) rfl (dle rfl) (dle rfl) (dle rfl) (dle rfl) d0_44 rfl (fun v5 hp5 gs5 K5 Q5 => ?_)
        obtain ⟨rfl, rfl⟩ := Q5
        show Go _ K Z _ n0 _ _ 47 #[.val (.ref a), .val (.int (vl (cs.take i))), .val (.int (natI i)), s3] [(.int c)] hp5 _ _ _
        have F3 := F2.keep K5
        refine Own.istoreN (L' := #[.val (.ref a), .val (.int (vl (cs.take i))), .val (.int (natI i)), .val (.int c)]) C d0_47 (st1 rfl hs3 rfl rfl) ?_
        refine Own.iloadN C d0_48 rfl ?_
        refine Own.iloadN C d0_49 rfl ?_
        refine callS_ C (as := [(.int c)]) (st := [(.int (vl (cs.take i)))]) (hw _ (List.mem_of_getElem? (i := 75) rfl)) (hw _ (List.mem_of_getElem? (i := 76) rfl)) (hw _ (List.mem_of_getElem? (i := 2) rfl)) (hw _ (List.mem_of_getElem? (i := 77) rfl)) ⟨by decide, by decide⟩ pd__28C_29Z rfl (fun O => k_ld hw hs O) (fun _ q => nomatch q) rfl (dle rfl) (dle rfl) (dle rfl) (dle rfl) d0_50 rfl (fun v6 hp6 gs6 K6 Q6 => ?_)
        obtain ⟨rfl, rfl⟩ := Q6
        show Go _ K Z _ n0 _ _ 53 #[.val (.ref a), .val (.int (vl (cs.take i))), .val (.int (natI i)), .val (.int c)] [(.int (ld c)), (.int (vl (cs.take i)))] hp6 _ _ _
        have e3 := natI_succ (i := i) (by omega)
        have e5 := vl_step h1 hc
        refine if_ne C d0_53 (fun q7 => ?_) (fun q7 => ?_)
        · have e4 : lt c = 1 := by simp_all [lt]
          rw [e4] at e5
          refine Own.iconst (v := 1) C d0_74 rfl ?_
          refine Own.goto_ C d0_75 ?_
          refine Own.iand C d0_79 ?_
          refine Own.istoreN (L' := #[.val (.ref a), .val (.int ((vl (cs.take i)) &&& (1 : Int32))), .val (.int (natI i)), .val (.int c)]) C d0_80 rfl ?_
          refine Own.iinc (L' := #[.val (.ref a), .val (.int ((vl (cs.take i)) &&& (1 : Int32))), .val (.int (natI (i + 1))), .val (.int c)]) (y := (natI (i + 1))) C d0_81 rfl e3 rfl ?_
          refine Own.goto_ C d0_84 ?_
          rw [e5]
          exact ih (i + 1) _ _ (by omega) (by omega) h128 (Or.inr ⟨_, rfl, rfl⟩) (F3.keep K6)
        · refine Own.iloadN C d0_56 rfl ?_
          refine Own.bipush (v := 46) C d0_57 rfl ?_
          refine icmp_eq C d0_59 (fun q8 => ?_) (fun q8 => ?_)
          · have e4 : lt c = 1 := by simp_all [lt]
            rw [e4] at e5
            refine Own.iconst (v := 1) C d0_74 rfl ?_
            refine Own.goto_ C d0_75 ?_
            refine Own.iand C d0_79 ?_
            refine Own.istoreN (L' := #[.val (.ref a), .val (.int ((vl (cs.take i)) &&& (1 : Int32))), .val (.int (natI i)), .val (.int c)]) C d0_80 rfl ?_
            refine Own.iinc (L' := #[.val (.ref a), .val (.int ((vl (cs.take i)) &&& (1 : Int32))), .val (.int (natI (i + 1))), .val (.int c)]) (y := (natI (i + 1))) C d0_81 rfl e3 rfl ?_
            refine Own.goto_ C d0_84 ?_
            rw [e5]
            exact ih (i + 1) _ _ (by omega) (by omega) h128 (Or.inr ⟨_, rfl, rfl⟩) (F3.keep K6)
          · refine Own.iloadN C d0_62 rfl ?_
            refine Own.bipush (v := 95) C d0_63 rfl ?_
            refine icmp_eq C d0_65 (fun q9 => ?_) (fun q9 => ?_)
            · have e4 : lt c = 1 := by simp_all [lt]
              rw [e4] at e5
              refine Own.iconst (v := 1) C d0_74 rfl ?_
              refine Own.goto_ C d0_75 ?_
              refine Own.iand C d0_79 ?_
              refine Own.istoreN (L' := #[.val (.ref a), .val (.int ((vl (cs.take i)) &&& (1 : Int32))), .val (.int (natI i)), .val (.int c)]) C d0_80 rfl ?_
              refine Own.iinc (L' := #[.val (.ref a), .val (.int ((vl (cs.take i)) &&& (1 : Int32))), .val (.int (natI (i + 1))), .val (.int c)]) (y := (natI (i + 1))) C d0_81 rfl e3 rfl ?_
              refine Own.goto_ C d0_84 ?_
              rw [e5]
              exact ih (i + 1) _ _ (by omega) (by omega) h128 (Or.inr ⟨_, rfl, rfl⟩) (F3.keep K6)
            · refine Own.iloadN C d0_68 rfl ?_
              refine Own.bipush (v := 45) C d0_69 rfl ?_
              refine icmp_ne C d0_71 (fun q10 => ?_) (fun q10 => ?_)
              · have e4 : lt c = 0 := by simp_all [lt]
                rw [e4] at e5
                refine Own.iconst (v := 0) C d0_78 rfl ?_
                refine Own.iand C d0_79 ?_
                refine Own.istoreN (L' := #[.val (.ref a), .val (.int ((vl (cs.take i)) &&& (0 : Int32))), .val (.int (natI i)), .val (.int c)]) C d0_80 rfl ?_
                refine Own.iinc (L' := #[.val (.ref a), .val (.int ((vl (cs.take i)) &&& (0 : Int32))), .val (.int (natI (i + 1))), .val (.int c)]) (y := (natI (i + 1))) C d0_81 rfl e3 rfl ?_
                refine Own.goto_ C d0_84 ?_
                rw [e5]
                exact ih (i + 1) _ _ (by omega) (by omega) h128 (Or.inr ⟨_, rfl, rfl⟩) (F3.keep K6)
              · have e4 : lt c = 1 := by simp_all [lt]
                rw [e4] at e5
                refine Own.iconst (v := 1) C d0_74 rfl ?_
                refine Own.goto_ C d0_75 ?_
                refine Own.iand C d0_79 ?_
                refine Own.istoreN (L' := #[.val (.ref a), .val (.int ((vl (cs.take i)) &&& (1 : Int32))), .val (.int (natI i)), .val (.int c)]) C d0_80 rfl ?_
                refine Own.iinc (L' := #[.val (.ref a), .val (.int ((vl (cs.take i)) &&& (1 : Int32))), .val (.int (natI (i + 1))), .val (.int c)]) (y := (natI (i + 1))) C d0_81 rfl e3 rfl ?_
                refine Own.goto_ C d0_84 ?_
                rw [e5]
                exact ih (i + 1) _ _ (by omega) (by omega) h128 (Or.inr ⟨_, rfl, rfl⟩) (F3.keep K6)
  refine Own.aloadN C d0_0 rfl rfl ?_
  refine ifnullN C d0_1 ?_
  refine Own.aloadN C d0_4 rfl rfl ?_
  refine callV_ C (as' := []) (st := []) (hw _ (List.mem_of_getElem? (i := 38) rfl)) (hw _ (List.mem_of_getElem? (i := 39) rfl)) (fun _ hZ => notFace_of_selects (args := #[]) (mvT hZ (hw _ (List.mem_of_getElem? (i := 41) rfl)))) (hw _ (List.mem_of_getElem? (i := 41) rfl)) (hw _ (List.mem_of_getElem? (i := 40) rfl)) (hw _ (List.mem_of_getElem? (i := 11) rfl)) (hw _ (List.mem_of_getElem? (i := 42) rfl)) ⟨by decide, by decide⟩ F.1 pd__28_29Z rfl (fun O => k_isEmpty hw hs F O) (fun _ q => nomatch q) rfl (dle rfl) (dle rfl) (dle rfl) (dle rfl) d0_5 rfl (fun v11 hp11 gs11 K11 Q11 => ?_)
  obtain ⟨rfl, rfl⟩ := Q11
  show Go _ K Z _ n0 _ _ 8 #[.val (.ref a), .unset, .unset, .unset] [(.int (if cs.length = 0 then 1 else 0))] hp11 _ _ _
  have F2 := F.keep K11
  refine if_ne C d0_8 (fun q12 => ?_) (fun q12 => ?_)
  · have hz : cs.length = 0 := by by_cases z : cs.length = 0; exact z; exact absurd (if_neg z) q12
    refine Own.iconst (v := 0) C d0_21 rfl ?_
    exact retZ C (gs := []) d0_22 (dle rfl) (dle rfl) (fun _ q => nomatch q) ⟨by unfold ok; rw [if_pos (Or.inl hz)]; rfl, rfl⟩
  · have hz : ¬ cs.length = 0 := fun z => by rw [if_pos z] at q12; exact absurd q12 (by decide)
    refine Own.aloadN C d0_11 rfl rfl ?_
    refine callV_ C (as' := []) (st := []) (hw _ (List.mem_of_getElem? (i := 43) rfl)) (hw _ (List.mem_of_getElem? (i := 44) rfl)) (fun _ hZ => notFace_of_selects (args := #[]) (mvT hZ (hw _ (List.mem_of_getElem? (i := 46) rfl)))) (hw _ (List.mem_of_getElem? (i := 46) rfl)) (hw _ (List.mem_of_getElem? (i := 45) rfl)) (hw _ (List.mem_of_getElem? (i := 11) rfl)) (hw _ (List.mem_of_getElem? (i := 47) rfl)) ⟨by decide, by decide⟩ F2.1 pd__28_29I rfl (fun O => k_length hw hs F2 O) (fun _ q => nomatch q) rfl (dle rfl) (dle rfl) (dle rfl) (dle rfl) d0_12 rfl (fun v13 hp13 gs13 K13 Q13 => ?_)
    obtain ⟨rfl, rfl⟩ := Q13
    show Go _ K Z _ n0 _ _ 15 #[.val (.ref a), .unset, .unset, .unset] [(.int (natI cs.length))] hp13 _ _ _
    have F3 := F2.keep K13
    refine Own.sipush (v := 128) C d0_15 rfl ?_
    refine icmp_le C d0_18 (fun q14 => ?_) (fun q14 => ?_)
    · have h128 : cs.length ≤ 128 := by rw [lt32] at q14; omega
      obtain ⟨c, hc⟩ : ∃ c, cs[0]? = some c := ⟨_, List.getElem?_eq_getElem (by omega)⟩
      refine Own.aloadN C d0_23 rfl rfl ?_
      refine Own.iconst (v := 0) C d0_24 rfl ?_
      refine callV_ C (as' := [(.int (0 : Int32))]) (st := []) (hw _ (List.mem_of_getElem? (i := 53) rfl)) (hw _ (List.mem_of_getElem? (i := 54) rfl)) (fun _ hZ => notFace_of_selects (args := #[]) (mvT hZ (hw _ (List.mem_of_getElem? (i := 56) rfl)))) (hw _ (List.mem_of_getElem? (i := 56) rfl)) (hw _ (List.mem_of_getElem? (i := 55) rfl)) (hw _ (List.mem_of_getElem? (i := 11) rfl)) (hw _ (List.mem_of_getElem? (i := 57) rfl)) ⟨by decide, by decide⟩ F3.1 pd__28I_29C rfl (fun O => k_charAt hw hs F3 (i := 0) rfl hc O) (fun _ q => nomatch q) rfl (dle rfl) (dle rfl) (dle rfl) (dle rfl) d0_25 rfl (fun v15 hp15 gs15 K15 Q15 => ?_)
      obtain ⟨rfl, rfl⟩ := Q15
      show Go _ K Z _ n0 _ _ 28 #[.val (.ref a), .unset, .unset, .unset] [(.int c)] hp15 _ _ _
      have F4 := F3.keep K15
      refine callS_ C (as := [(.int c)]) (st := []) (hw _ (List.mem_of_getElem? (i := 75) rfl)) (hw _ (List.mem_of_getElem? (i := 76) rfl)) (hw _ (List.mem_of_getElem? (i := 2) rfl)) (hw _ (List.mem_of_getElem? (i := 77) rfl)) ⟨by decide, by decide⟩ pd__28C_29Z rfl (fun O => k_ld hw hs O) (fun _ q => nomatch q) rfl (dle rfl) (dle rfl) (dle rfl) (dle rfl) d0_28 rfl (fun v16 hp16 gs16 K16 Q16 => ?_)
      obtain ⟨rfl, rfl⟩ := Q16
      show Go _ K Z _ n0 _ _ 31 #[.val (.ref a), .unset, .unset, .unset] [(.int (ld c))] hp16 _ _ _
      refine Own.istoreN (L' := #[.val (.ref a), .val (.int (ld c)), .unset, .unset]) C d0_31 rfl ?_
      refine Own.iconst (v := 1) C d0_32 rfl ?_
      refine Own.istoreN (L' := #[.val (.ref a), .val (.int (ld c)), .val (.int (1 : Int32)), .unset]) C d0_33 rfl ?_
      rw [← vl_one hc]
      exact loop (cs.length - 1) 1 _ .unset (by omega) (by omega) h128 (Or.inl rfl) (F4.keep K16)
    · have h128 : 128 < cs.length := by rw [lt32] at q14; omega
      refine Own.iconst (v := 0) C d0_21 rfl ?_
      exact retZ C (gs := []) d0_22 (dle rfl) (dle rfl) (fun _ q => nomatch q) ⟨by unfold ok; rw [if_pos (Or.inr h128)]; rfl, rfl⟩
set_option maxRecDepth 65536 in
set_option maxHeartbeats 4000000 in
theorem k_fill128 {Z : State} {a0 : Array Value} (hw : ∀ d ∈ tables_1, d.before a0 Z = true) (hs : Stt Z) {n0 : Nat} {h0 : Heap} {p : Int32} (hp : isCh p) (O : Old Z n0 h0) :
    Con WD Z EL0 n0 (⟨"com/example/keelson/keelson/dataset/DatasetNameIsValidPinLaw", "fill128", "(C)[C"⟩ : MethodName) method_4_code 1 (some (.array .char)) (Rm 0 1 128 0) [(.int p)] h0 [] (fun v h gs => ∃ b : Addr, v = some (.ref b) ∧ gs = [b] ∧ h0.size ≤ b ∧ Ary Z h b .char (List.replicate 128 (.int p))) := by
  refine Con.of (a0 := a0) (by first | (simp [plainName, overriddenIn]; done) | decide +kernel) (hEL hw) hWE O (L0 := #[.val (.int p)]) (fun m => by first | rfl | (simp [entryFrame, mkF, argsToLocals, Value.category]; done)) ?_
  intro K C hh
  refine Own.sipush (v := 128) C d26_0 rfl ?_
  refine newarr C (hw _ (List.mem_of_getElem? (i := 4) rfl)) (by decide) 128 (by decide) (by decide) (dle rfl) (dle rfl) d26_3 (fun hp1 K1 lt1 le1 A1 => ?_)
  obtain ⟨b, g1⟩ : ∃ z, z = h0.size := ⟨_, rfl⟩
  rw [← g1] at A1 lt1 le1 ⊢
  have B0 : Ary Z hp1 b .char (List.replicate 0 (.int p) ++ List.replicate 128 (.int 0)) := A1
  refine Own.dup C d26_5 rfl ?_
  refine Own.iconst (v := 0) C d26_6 rfl ?_
  refine Own.iloadN C d26_7 rfl ?_
  refine castore_ C B0 0 (by decide) (by simp) (by simp) d26_8 (fun hp2 W2 A2 => ?_)
  rw [narc_id hp] at A2
  have B1 := A2.fill (j := 1) (n := 127) rfl rfl
  clear A2 B0
  refine Own.dup C d26_9 rfl ?_
  refine Own.iconst (v := 1) C d26_10 rfl ?_
  refine Own.iloadN C d26_11 rfl ?_
  refine castore_ C B1 1 (by decide) (by simp) (by simp) d26_12 (fun hp3 W3 A3 => ?_)
  rw [narc_id hp] at A3
  have B2 := A3.fill (j := 2) (n := 126) rfl rfl
  clear A3 B1
  refine Own.dup C d26_13 rfl ?_
  refine Own.iconst (v := 2) C d26_14 rfl ?_
  refine Own.iloadN C d26_15 rfl ?_
  refine castore_ C B2 2 (by decide) (by simp) (by simp) d26_16 (fun hp4 W4 A4 => ?_)
  rw [narc_id hp] at A4
  have B3 := A4.fill (j := 3) (n := 125) rfl rfl
  clear A4 B2
  refine Own.dup C d26_17 rfl ?_
  refine Own.iconst (v := 3) C d26_18 rfl ?_
  refine Own.iloadN C d26_19 rfl ?_
  refine castore_ C B3 3 (by decide) (by simp) (by simp) d26_20 (fun hp5 W5 A5 => ?_)
  rw [narc_id hp] at A5
  have B4 := A5.fill (j := 4) (n := 124) rfl rfl
  clear A5 B3
  refine Own.dup C d26_21 rfl ?_
  refine Own.iconst (v := 4) C d26_22 rfl ?_
  refine Own.iloadN C d26_23 rfl ?_
  refine castore_ C B4 4 (by decide) (by simp) (by simp) d26_24 (fun hp6 W6 A6 => ?_)
  rw [narc_id hp] at A6
  have B5 := A6.fill (j := 5) (n := 123) rfl rfl
  clear A6 B4
  refine Own.dup C d26_25 rfl ?_
  refine Own.iconst (v := 5) C d26_26 rfl ?_
  refine Own.iloadN C d26_27 rfl ?_
  refine castore_ C B5 5 (by decide) (by simp) (by simp) d26_28 (fun hp7 W7 A7 => ?_)
  rw [narc_id hp] at A7
  have B6 := A7.fill (j := 6) (n := 122) rfl rfl
  clear A7 B5
  refine Own.dup C d26_29 rfl ?_
  refine Own.bipush (v := 6) C d26_30 rfl ?_
  refine Own.iloadN C d26_32 rfl ?_
  refine castore_ C B6 6 (by decide) (by simp) (by simp) d26_33 (fun hp8 W8 A8 => ?_)
  rw [narc_id hp] at A8
  have B7 := A8.fill (j := 7) (n := 121) rfl rfl
  clear A8 B6
  refine Own.dup C d26_34 rfl ?_
  refine Own.bipush (v := 7) C d26_35 rfl ?_
  refine Own.iloadN C d26_37 rfl ?_
  refine castore_ C B7 7 (by decide) (by simp) (by simp) d26_38 (fun hp9 W9 A9 => ?_)
  rw [narc_id hp] at A9
  have B8 := A9.fill (j := 8) (n := 120) rfl rfl
  clear A9 B7
  refine Own.dup C d26_39 rfl ?_
  refine Own.bipush (v := 8) C d26_40 rfl ?_
  refine Own.iloadN C d26_42 rfl ?_
  refine castore_ C B8 8 (by decide) (by simp) (by simp) d26_43 (fun hp10 W10 A10 => ?_)
  rw [narc_id hp] at A10
  have B9 := A10.fill (j := 9) (n := 119) rfl rfl
  clear A10 B8
  refine Own.dup C d26_44 rfl ?_
  refine Own.bipush (v := 9) C d26_45 rfl ?_
  refine Own.iloadN C d26_47 rfl ?_
  refine castore_ C B9 9 (by decide) (by simp) (by simp) d26_48 (fun hp11 W11 A11 => ?_)
  rw [narc_id hp] at A11
  have B10 := A11.fill (j := 10) (n := 118) rfl rfl
  clear A11 B9
  refine Own.dup C d26_49 rfl ?_
  refine Own.bipush (v := 10) C d26_50 rfl ?_
  refine Own.iloadN C d26_52 rfl ?_
  refine castore_ C B10 10 (by decide) (by simp) (by simp) d26_53 (fun hp12 W12 A12 => ?_)
  rw [narc_id hp] at A12
  have B11 := A12.fill (j := 11) (n := 117) rfl rfl
  clear A12 B10
  refine Own.dup C d26_54 rfl ?_
  refine Own.bipush (v := 11) C d26_55 rfl ?_
  refine Own.iloadN C d26_57 rfl ?_
  refine castore_ C B11 11 (by decide) (by simp) (by simp) d26_58 (fun hp13 W13 A13 => ?_)
  rw [narc_id hp] at A13
  have B12 := A13.fill (j := 12) (n := 116) rfl rfl
  clear A13 B11
  refine Own.dup C d26_59 rfl ?_
  refine Own.bipush (v := 12) C d26_60 rfl ?_
  refine Own.iloadN C d26_62 rfl ?_
  refine castore_ C B12 12 (by decide) (by simp) (by simp) d26_63 (fun hp14 W14 A14 => ?_)
  rw [narc_id hp] at A14
  have B13 := A14.fill (j := 13) (n := 115) rfl rfl
  clear A14 B12
  refine Own.dup C d26_64 rfl ?_
  refine Own.bipush (v := 13) C d26_65 rfl ?_
  refine Own.iloadN C d26_67 rfl ?_
  refine castore_ C B13 13 (by decide) (by simp) (by simp) d26_68 (fun hp15 W15 A15 => ?_)
  rw [narc_id hp] at A15
  have B14 := A15.fill (j := 14) (n := 114) rfl rfl
  clear A15 B13
  refine Own.dup C d26_69 rfl ?_
  refine Own.bipush (v := 14) C d26_70 rfl ?_
  refine Own.iloadN C d26_72 rfl ?_
  refine castore_ C B14 14 (by decide) (by simp) (by simp) d26_73 (fun hp16 W16 A16 => ?_)
  rw [narc_id hp] at A16
  have B15 := A16.fill (j := 15) (n := 113) rfl rfl
  clear A16 B14
  refine Own.dup C d26_74 rfl ?_
  refine Own.bipush (v := 15) C d26_75 rfl ?_
  refine Own.iloadN C d26_77 rfl ?_
  refine castore_ C B15 15 (by decide) (by simp) (by simp) d26_78 (fun hp17 W17 A17 => ?_)
  rw [narc_id hp] at A17
  have B16 := A17.fill (j := 16) (n := 112) rfl rfl
  clear A17 B15
  refine Own.dup C d26_79 rfl ?_
  refine Own.bipush (v := 16) C d26_80 rfl ?_
  refine Own.iloadN C d26_82 rfl ?_
  refine castore_ C B16 16 (by decide) (by simp) (by simp) d26_83 (fun hp18 W18 A18 => ?_)
  rw [narc_id hp] at A18
  have B17 := A18.fill (j := 17) (n := 111) rfl rfl
  clear A18 B16
  refine Own.dup C d26_84 rfl ?_
  refine Own.bipush (v := 17) C d26_85 rfl ?_
  refine Own.iloadN C d26_87 rfl ?_
  refine castore_ C B17 17 (by decide) (by simp) (by simp) d26_88 (fun hp19 W19 A19 => ?_)
  rw [narc_id hp] at A19
  have B18 := A19.fill (j := 18) (n := 110) rfl rfl
  clear A19 B17
  refine Own.dup C d26_89 rfl ?_
  refine Own.bipush (v := 18) C d26_90 rfl ?_
  refine Own.iloadN C d26_92 rfl ?_
  refine castore_ C B18 18 (by decide) (by simp) (by simp) d26_93 (fun hp20 W20 A20 => ?_)
  rw [narc_id hp] at A20
  have B19 := A20.fill (j := 19) (n := 109) rfl rfl
  clear A20 B18
  refine Own.dup C d26_94 rfl ?_
  refine Own.bipush (v := 19) C d26_95 rfl ?_
  refine Own.iloadN C d26_97 rfl ?_
  refine castore_ C B19 19 (by decide) (by simp) (by simp) d26_98 (fun hp21 W21 A21 => ?_)
  rw [narc_id hp] at A21
  have B20 := A21.fill (j := 20) (n := 108) rfl rfl
  clear A21 B19
  refine Own.dup C d26_99 rfl ?_
  refine Own.bipush (v := 20) C d26_100 rfl ?_
  refine Own.iloadN C d26_102 rfl ?_
  refine castore_ C B20 20 (by decide) (by simp) (by simp) d26_103 (fun hp22 W22 A22 => ?_)
  rw [narc_id hp] at A22
  have B21 := A22.fill (j := 21) (n := 107) rfl rfl
  clear A22 B20
  refine Own.dup C d26_104 rfl ?_
  refine Own.bipush (v := 21) C d26_105 rfl ?_
  refine Own.iloadN C d26_107 rfl ?_
  refine castore_ C B21 21 (by decide) (by simp) (by simp) d26_108 (fun hp23 W23 A23 => ?_)
  rw [narc_id hp] at A23
  have B22 := A23.fill (j := 22) (n := 106) rfl rfl
  clear A23 B21
  refine Own.dup C d26_109 rfl ?_
  refine Own.bipush (v := 22) C d26_110 rfl ?_
  refine Own.iloadN C d26_112 rfl ?_
  refine castore_ C B22 22 (by decide) (by simp) (by simp) d26_113 (fun hp24 W24 A24 => ?_)
  rw [narc_id hp] at A24
  have B23 := A24.fill (j := 23) (n := 105) rfl rfl
  clear A24 B22
  refine Own.dup C d26_114 rfl ?_
  refine Own.bipush (v := 23) C d26_115 rfl ?_
  refine Own.iloadN C d26_117 rfl ?_
  refine castore_ C B23 23 (by decide) (by simp) (by simp) d26_118 (fun hp25 W25 A25 => ?_)
  rw [narc_id hp] at A25
  have B24 := A25.fill (j := 24) (n := 104) rfl rfl
  clear A25 B23
  refine Own.dup C d26_119 rfl ?_
  refine Own.bipush (v := 24) C d26_120 rfl ?_
  refine Own.iloadN C d26_122 rfl ?_
  refine castore_ C B24 24 (by decide) (by simp) (by simp) d26_123 (fun hp26 W26 A26 => ?_)
  rw [narc_id hp] at A26
  have B25 := A26.fill (j := 25) (n := 103) rfl rfl
  clear A26 B24
  refine Own.dup C d26_124 rfl ?_
  refine Own.bipush (v := 25) C d26_125 rfl ?_
  refine Own.iloadN C d26_127 rfl ?_
  refine castore_ C B25 25 (by decide) (by simp) (by simp) d26_128 (fun hp27 W27 A27 => ?_)
  rw [narc_id hp] at A27
  have B26 := A27.fill (j := 26) (n := 102) rfl rfl
  clear A27 B25
  refine Own.dup C d26_129 rfl ?_
  refine Own.bipush (v := 26) C d26_130 rfl ?_
  refine Own.iloadN C d26_132 rfl ?_
  refine castore_ C B26 26 (by decide) (by simp) (by simp) d26_133 (fun hp28 W28 A28 => ?_)
  rw [narc_id hp] at A28
  have B27 := A28.fill (j := 27) (n := 101) rfl rfl
  clear A28 B26
  refine Own.dup C d26_134 rfl ?_
  refine Own.bipush (v := 27) C d26_135 rfl ?_
  refine Own.iloadN C d26_137 rfl ?_
  refine castore_ C B27 27 (by decide) (by simp) (by simp) d26_138 (fun hp29 W29 A29 => ?_)
  rw [narc_id hp] at A29
  have B28 := A29.fill (j := 28) (n := 100) rfl rfl
  clear A29 B27
  refine Own.dup C d26_139 rfl ?_
  refine Own.bipush (v := 28) C d26_140 rfl ?_
  refine Own.iloadN C d26_142 rfl ?_
  refine castore_ C B28 28 (by decide) (by simp) (by simp) d26_143 (fun hp30 W30 A30 => ?_)
  rw [narc_id hp] at A30
  have B29 := A30.fill (j := 29) (n := 99) rfl rfl
  clear A30 B28
  refine Own.dup C d26_144 rfl ?_
  refine Own.bipush (v := 29) C d26_145 rfl ?_
  refine Own.iloadN C d26_147 rfl ?_
  refine castore_ C B29 29 (by decide) (by simp) (by simp) d26_148 (fun hp31 W31 A31 => ?_)
  rw [narc_id hp] at A31
  have B30 := A31.fill (j := 30) (n := 98) rfl rfl
  clear A31 B29
  refine Own.dup C d26_149 rfl ?_
  refine Own.bipush (v := 30) C d26_150 rfl ?_
  refine Own.iloadN C d26_152 rfl ?_
  refine castore_ C B30 30 (by decide) (by simp) (by simp) d26_153 (fun hp32 W32 A32 => ?_)
  rw [narc_id hp] at A32
  have B31 := A32.fill (j := 31) (n := 97) rfl rfl
  clear A32 B30
  refine Own.dup C d26_154 rfl ?_
  refine Own.bipush (v := 31) C d26_155 rfl ?_
  refine Own.iloadN C d26_157 rfl ?_
  refine castore_ C B31 31 (by decide) (by simp) (by simp) d26_158 (fun hp33 W33 A33 => ?_)
  rw [narc_id hp] at A33
  have B32 := A33.fill (j := 32) (n := 96) rfl rfl
  clear A33 B31
  refine Own.dup C d26_159 rfl ?_
  refine Own.bipush (v := 32) C d26_160 rfl ?_
  refine Own.iloadN C d26_162 rfl ?_
  refine castore_ C B32 32 (by decide) (by simp) (by simp) d26_163 (fun hp34 W34 A34 => ?_)
  rw [narc_id hp] at A34
  have B33 := A34.fill (j := 33) (n := 95) rfl rfl
  clear A34 B32
  refine Own.dup C d26_164 rfl ?_
  refine Own.bipush (v := 33) C d26_165 rfl ?_
  refine Own.iloadN C d26_167 rfl ?_
  refine castore_ C B33 33 (by decide) (by simp) (by simp) d26_168 (fun hp35 W35 A35 => ?_)
  rw [narc_id hp] at A35
  have B34 := A35.fill (j := 34) (n := 94) rfl rfl
  clear A35 B33
  refine Own.dup C d26_169 rfl ?_
  refine Own.bipush (v := 34) C d26_170 rfl ?_
  refine Own.iloadN C d26_172 rfl ?_
  refine castore_ C B34 34 (by decide) (by simp) (by simp) d26_173 (fun hp36 W36 A36 => ?_)
  rw [narc_id hp] at A36
  have B35 := A36.fill (j := 35) (n := 93) rfl rfl
  clear A36 B34
  refine Own.dup C d26_174 rfl ?_
  refine Own.bipush (v := 35) C d26_175 rfl ?_
  refine Own.iloadN C d26_177 rfl ?_
  refine castore_ C B35 35 (by decide) (by simp) (by simp) d26_178 (fun hp37 W37 A37 => ?_)
  rw [narc_id hp] at A37
  have B36 := A37.fill (j := 36) (n := 92) rfl rfl
  clear A37 B35
  refine Own.dup C d26_179 rfl ?_
  refine Own.bipush (v := 36) C d26_180 rfl ?_
  refine Own.iloadN C d26_182 rfl ?_
  refine castore_ C B36 36 (by decide) (by simp) (by simp) d26_183 (fun hp38 W38 A38 => ?_)
  rw [narc_id hp] at A38
  have B37 := A38.fill (j := 37) (n := 91) rfl rfl
  clear A38 B36
  refine Own.dup C d26_184 rfl ?_
  refine Own.bipush (v := 37) C d26_185 rfl ?_
  refine Own.iloadN C d26_187 rfl ?_
  refine castore_ C B37 37 (by decide) (by simp) (by simp) d26_188 (fun hp39 W39 A39 => ?_)
  rw [narc_id hp] at A39
  have B38 := A39.fill (j := 38) (n := 90) rfl rfl
  clear A39 B37
  refine Own.dup C d26_189 rfl ?_
  refine Own.bipush (v := 38) C d26_190 rfl ?_
  refine Own.iloadN C d26_192 rfl ?_
  refine castore_ C B38 38 (by decide) (by simp) (by simp) d26_193 (fun hp40 W40 A40 => ?_)
  rw [narc_id hp] at A40
  have B39 := A40.fill (j := 39) (n := 89) rfl rfl
  clear A40 B38
  refine Own.dup C d26_194 rfl ?_
  refine Own.bipush (v := 39) C d26_195 rfl ?_
  refine Own.iloadN C d26_197 rfl ?_
  refine castore_ C B39 39 (by decide) (by simp) (by simp) d26_198 (fun hp41 W41 A41 => ?_)
  rw [narc_id hp] at A41
  have B40 := A41.fill (j := 40) (n := 88) rfl rfl
  clear A41 B39
  refine Own.dup C d26_199 rfl ?_
  refine Own.bipush (v := 40) C d26_200 rfl ?_
  refine Own.iloadN C d26_202 rfl ?_
  refine castore_ C B40 40 (by decide) (by simp) (by simp) d26_203 (fun hp42 W42 A42 => ?_)
  rw [narc_id hp] at A42
  have B41 := A42.fill (j := 41) (n := 87) rfl rfl
  clear A42 B40
  refine Own.dup C d26_204 rfl ?_
  refine Own.bipush (v := 41) C d26_205 rfl ?_
  refine Own.iloadN C d26_207 rfl ?_
  refine castore_ C B41 41 (by decide) (by simp) (by simp) d26_208 (fun hp43 W43 A43 => ?_)
  rw [narc_id hp] at A43
  have B42 := A43.fill (j := 42) (n := 86) rfl rfl
  clear A43 B41
  refine Own.dup C d26_209 rfl ?_
  refine Own.bipush (v := 42) C d26_210 rfl ?_
  refine Own.iloadN C d26_212 rfl ?_
  refine castore_ C B42 42 (by decide) (by simp) (by simp) d26_213 (fun hp44 W44 A44 => ?_)
  rw [narc_id hp] at A44
  have B43 := A44.fill (j := 43) (n := 85) rfl rfl
  clear A44 B42
  refine Own.dup C d26_214 rfl ?_
  refine Own.bipush (v := 43) C d26_215 rfl ?_
  refine Own.iloadN C d26_217 rfl ?_
  refine castore_ C B43 43 (by decide) (by simp) (by simp) d26_218 (fun hp45 W45 A45 => ?_)
  rw [narc_id hp] at A45
  have B44 := A45.fill (j := 44) (n := 84) rfl rfl
  clear A45 B43
  refine Own.dup C d26_219 rfl ?_
  refine Own.bipush (v := 44) C d26_220 rfl ?_
  refine Own.iloadN C d26_222 rfl ?_
  refine castore_ C B44 44 (by decide) (by simp) (by simp) d26_223 (fun hp46 W46 A46 => ?_)
  rw [narc_id hp] at A46
  have B45 := A46.fill (j := 45) (n := 83) rfl rfl
  clear A46 B44
  refine Own.dup C d26_224 rfl ?_
  refine Own.bipush (v := 45) C d26_225 rfl ?_
  refine Own.iloadN C d26_227 rfl ?_
  refine castore_ C B45 45 (by decide) (by simp) (by simp) d26_228 (fun hp47 W47 A47 => ?_)
  rw [narc_id hp] at A47
  have B46 := A47.fill (j := 46) (n := 82) rfl rfl
  clear A47 B45
  refine Own.dup C d26_229 rfl ?_
  refine Own.bipush (v := 46) C d26_230 rfl ?_
  refine Own.iloadN C d26_232 rfl ?_
  refine castore_ C B46 46 (by decide) (by simp) (by simp) d26_233 (fun hp48 W48 A48 => ?_)
  rw [narc_id hp] at A48
  have B47 := A48.fill (j := 47) (n := 81) rfl rfl
  clear A48 B46
  refine Own.dup C d26_234 rfl ?_
  refine Own.bipush (v := 47) C d26_235 rfl ?_
  refine Own.iloadN C d26_237 rfl ?_
  refine castore_ C B47 47 (by decide) (by simp) (by simp) d26_238 (fun hp49 W49 A49 => ?_)
  rw [narc_id hp] at A49
  have B48 := A49.fill (j := 48) (n := 80) rfl rfl
  clear A49 B47
  refine Own.dup C d26_239 rfl ?_
  refine Own.bipush (v := 48) C d26_240 rfl ?_
  refine Own.iloadN C d26_242 rfl ?_
  refine castore_ C B48 48 (by decide) (by simp) (by simp) d26_243 (fun hp50 W50 A50 => ?_)
  rw [narc_id hp] at A50
  have B49 := A50.fill (j := 49) (n := 79) rfl rfl
  clear A50 B48
  refine Own.dup C d26_244 rfl ?_
  refine Own.bipush (v := 49) C d26_245 rfl ?_
  refine Own.iloadN C d26_247 rfl ?_
  refine castore_ C B49 49 (by decide) (by simp) (by simp) d26_248 (fun hp51 W51 A51 => ?_)
  rw [narc_id hp] at A51
  have B50 := A51.fill (j := 50) (n := 78) rfl rfl
  clear A51 B49
  refine Own.dup C d26_249 rfl ?_
  refine Own.bipush (v := 50) C d26_250 rfl ?_
  refine Own.iloadN C d26_252 rfl ?_
  refine castore_ C B50 50 (by decide) (by simp) (by simp) d26_253 (fun hp52 W52 A52 => ?_)
  rw [narc_id hp] at A52
  have B51 := A52.fill (j := 51) (n := 77) rfl rfl
  clear A52 B50
  refine Own.dup C d26_254 rfl ?_
  refine Own.bipush (v := 51) C d26_255 rfl ?_
  refine Own.iloadN C d26_257 rfl ?_
  refine castore_ C B51 51 (by decide) (by simp) (by simp) d26_258 (fun hp53 W53 A53 => ?_)
  rw [narc_id hp] at A53
  have B52 := A53.fill (j := 52) (n := 76) rfl rfl
  clear A53 B51
  refine Own.dup C d26_259 rfl ?_
  refine Own.bipush (v := 52) C d26_260 rfl ?_
  refine Own.iloadN C d26_262 rfl ?_
  refine castore_ C B52 52 (by decide) (by simp) (by simp) d26_263 (fun hp54 W54 A54 => ?_)
  rw [narc_id hp] at A54
  have B53 := A54.fill (j := 53) (n := 75) rfl rfl
  clear A54 B52
  refine Own.dup C d26_264 rfl ?_
  refine Own.bipush (v := 53) C d26_265 rfl ?_
  refine Own.iloadN C d26_267 rfl ?_
  refine castore_ C B53 53 (by decide) (by simp) (by simp) d26_268 (fun hp55 W55 A55 => ?_)
  rw [narc_id hp] at A55
  have B54 := A55.fill (j := 54) (n := 74) rfl rfl
  clear A55 B53
  refine Own.dup C d26_269 rfl ?_
  refine Own.bipush (v := 54) C d26_270 rfl ?_
  refine Own.iloadN C d26_272 rfl ?_
  refine castore_ C B54 54 (by decide) (by simp) (by simp) d26_273 (fun hp56 W56 A56 => ?_)
  rw [narc_id hp] at A56
  have B55 := A56.fill (j := 55) (n := 73) rfl rfl
  clear A56 B54
  refine Own.dup C d26_274 rfl ?_
  refine Own.bipush (v := 55) C d26_275 rfl ?_
  refine Own.iloadN C d26_277 rfl ?_
  refine castore_ C B55 55 (by decide) (by simp) (by simp) d26_278 (fun hp57 W57 A57 => ?_)
  rw [narc_id hp] at A57
  have B56 := A57.fill (j := 56) (n := 72) rfl rfl
  clear A57 B55
  refine Own.dup C d26_279 rfl ?_
  refine Own.bipush (v := 56) C d26_280 rfl ?_
  refine Own.iloadN C d26_282 rfl ?_
  refine castore_ C B56 56 (by decide) (by simp) (by simp) d26_283 (fun hp58 W58 A58 => ?_)
  rw [narc_id hp] at A58
  have B57 := A58.fill (j := 57) (n := 71) rfl rfl
  clear A58 B56
  refine Own.dup C d26_284 rfl ?_
  refine Own.bipush (v := 57) C d26_285 rfl ?_
  refine Own.iloadN C d26_287 rfl ?_
  refine castore_ C B57 57 (by decide) (by simp) (by simp) d26_288 (fun hp59 W59 A59 => ?_)
  rw [narc_id hp] at A59
  have B58 := A59.fill (j := 58) (n := 70) rfl rfl
  clear A59 B57
  refine Own.dup C d26_289 rfl ?_
  refine Own.bipush (v := 58) C d26_290 rfl ?_
  refine Own.iloadN C d26_292 rfl ?_
  refine castore_ C B58 58 (by decide) (by simp) (by simp) d26_293 (fun hp60 W60 A60 => ?_)
  rw [narc_id hp] at A60
  have B59 := A60.fill (j := 59) (n := 69) rfl rfl
  clear A60 B58
  refine Own.dup C d26_294 rfl ?_
  refine Own.bipush (v := 59) C d26_295 rfl ?_
  refine Own.iloadN C d26_297 rfl ?_
  refine castore_ C B59 59 (by decide) (by simp) (by simp) d26_298 (fun hp61 W61 A61 => ?_)
  rw [narc_id hp] at A61
  have B60 := A61.fill (j := 60) (n := 68) rfl rfl
  clear A61 B59
  refine Own.dup C d26_299 rfl ?_
  refine Own.bipush (v := 60) C d26_300 rfl ?_
  refine Own.iloadN C d26_302 rfl ?_
  refine castore_ C B60 60 (by decide) (by simp) (by simp) d26_303 (fun hp62 W62 A62 => ?_)
  rw [narc_id hp] at A62
  have B61 := A62.fill (j := 61) (n := 67) rfl rfl
  clear A62 B60
  refine Own.dup C d26_304 rfl ?_
  refine Own.bipush (v := 61) C d26_305 rfl ?_
  refine Own.iloadN C d26_307 rfl ?_
  refine castore_ C B61 61 (by decide) (by simp) (by simp) d26_308 (fun hp63 W63 A63 => ?_)
  rw [narc_id hp] at A63
  have B62 := A63.fill (j := 62) (n := 66) rfl rfl
  clear A63 B61
  refine Own.dup C d26_309 rfl ?_
  refine Own.bipush (v := 62) C d26_310 rfl ?_
  refine Own.iloadN C d26_312 rfl ?_
  refine castore_ C B62 62 (by decide) (by simp) (by simp) d26_313 (fun hp64 W64 A64 => ?_)
  rw [narc_id hp] at A64
  have B63 := A64.fill (j := 63) (n := 65) rfl rfl
  clear A64 B62
  refine Own.dup C d26_314 rfl ?_
  refine Own.bipush (v := 63) C d26_315 rfl ?_
  refine Own.iloadN C d26_317 rfl ?_
  refine castore_ C B63 63 (by decide) (by simp) (by simp) d26_318 (fun hp65 W65 A65 => ?_)
  rw [narc_id hp] at A65
  have B64 := A65.fill (j := 64) (n := 64) rfl rfl
  clear A65 B63
  refine Own.dup C d26_319 rfl ?_
  refine Own.bipush (v := 64) C d26_320 rfl ?_
  refine Own.iloadN C d26_322 rfl ?_
  refine castore_ C B64 64 (by decide) (by simp) (by simp) d26_323 (fun hp66 W66 A66 => ?_)
  rw [narc_id hp] at A66
  have B65 := A66.fill (j := 65) (n := 63) rfl rfl
  clear A66 B64
  refine Own.dup C d26_324 rfl ?_
  refine Own.bipush (v := 65) C d26_325 rfl ?_
  refine Own.iloadN C d26_327 rfl ?_
  refine castore_ C B65 65 (by decide) (by simp) (by simp) d26_328 (fun hp67 W67 A67 => ?_)
  rw [narc_id hp] at A67
  have B66 := A67.fill (j := 66) (n := 62) rfl rfl
  clear A67 B65
  refine Own.dup C d26_329 rfl ?_
  refine Own.bipush (v := 66) C d26_330 rfl ?_
  refine Own.iloadN C d26_332 rfl ?_
  refine castore_ C B66 66 (by decide) (by simp) (by simp) d26_333 (fun hp68 W68 A68 => ?_)
  rw [narc_id hp] at A68
  have B67 := A68.fill (j := 67) (n := 61) rfl rfl
  clear A68 B66
  refine Own.dup C d26_334 rfl ?_
  refine Own.bipush (v := 67) C d26_335 rfl ?_
  refine Own.iloadN C d26_337 rfl ?_
  refine castore_ C B67 67 (by decide) (by simp) (by simp) d26_338 (fun hp69 W69 A69 => ?_)
  rw [narc_id hp] at A69
  have B68 := A69.fill (j := 68) (n := 60) rfl rfl
  clear A69 B67
  refine Own.dup C d26_339 rfl ?_
  refine Own.bipush (v := 68) C d26_340 rfl ?_
  refine Own.iloadN C d26_342 rfl ?_
  refine castore_ C B68 68 (by decide) (by simp) (by simp) d26_343 (fun hp70 W70 A70 => ?_)
  rw [narc_id hp] at A70
  have B69 := A70.fill (j := 69) (n := 59) rfl rfl
  clear A70 B68
  refine Own.dup C d26_344 rfl ?_
  refine Own.bipush (v := 69) C d26_345 rfl ?_
  refine Own.iloadN C d26_347 rfl ?_
  refine castore_ C B69 69 (by decide) (by simp) (by simp) d26_348 (fun hp71 W71 A71 => ?_)
  rw [narc_id hp] at A71
  have B70 := A71.fill (j := 70) (n := 58) rfl rfl
  clear A71 B69
  refine Own.dup C d26_349 rfl ?_
  refine Own.bipush (v := 70) C d26_350 rfl ?_
  refine Own.iloadN C d26_352 rfl ?_
  refine castore_ C B70 70 (by decide) (by simp) (by simp) d26_353 (fun hp72 W72 A72 => ?_)
  rw [narc_id hp] at A72
  have B71 := A72.fill (j := 71) (n := 57) rfl rfl
  clear A72 B70
  refine Own.dup C d26_354 rfl ?_
  refine Own.bipush (v := 71) C d26_355 rfl ?_
  refine Own.iloadN C d26_357 rfl ?_
  refine castore_ C B71 71 (by decide) (by simp) (by simp) d26_358 (fun hp73 W73 A73 => ?_)
  rw [narc_id hp] at A73
  have B72 := A73.fill (j := 72) (n := 56) rfl rfl
  clear A73 B71
  refine Own.dup C d26_359 rfl ?_
  refine Own.bipush (v := 72) C d26_360 rfl ?_
  refine Own.iloadN C d26_362 rfl ?_
  refine castore_ C B72 72 (by decide) (by simp) (by simp) d26_363 (fun hp74 W74 A74 => ?_)
  rw [narc_id hp] at A74
  have B73 := A74.fill (j := 73) (n := 55) rfl rfl
  clear A74 B72
  refine Own.dup C d26_364 rfl ?_
  refine Own.bipush (v := 73) C d26_365 rfl ?_
  refine Own.iloadN C d26_367 rfl ?_
  refine castore_ C B73 73 (by decide) (by simp) (by simp) d26_368 (fun hp75 W75 A75 => ?_)
  rw [narc_id hp] at A75
  have B74 := A75.fill (j := 74) (n := 54) rfl rfl
  clear A75 B73
  refine Own.dup C d26_369 rfl ?_
  refine Own.bipush (v := 74) C d26_370 rfl ?_
  refine Own.iloadN C d26_372 rfl ?_
  refine castore_ C B74 74 (by decide) (by simp) (by simp) d26_373 (fun hp76 W76 A76 => ?_)
  rw [narc_id hp] at A76
  have B75 := A76.fill (j := 75) (n := 53) rfl rfl
  clear A76 B74
  refine Own.dup C d26_374 rfl ?_
  refine Own.bipush (v := 75) C d26_375 rfl ?_
  refine Own.iloadN C d26_377 rfl ?_
  refine castore_ C B75 75 (by decide) (by simp) (by simp) d26_378 (fun hp77 W77 A77 => ?_)
  rw [narc_id hp] at A77
  have B76 := A77.fill (j := 76) (n := 52) rfl rfl
  clear A77 B75
  refine Own.dup C d26_379 rfl ?_
  refine Own.bipush (v := 76) C d26_380 rfl ?_
  refine Own.iloadN C d26_382 rfl ?_
  refine castore_ C B76 76 (by decide) (by simp) (by simp) d26_383 (fun hp78 W78 A78 => ?_)
  rw [narc_id hp] at A78
  have B77 := A78.fill (j := 77) (n := 51) rfl rfl
  clear A78 B76
  refine Own.dup C d26_384 rfl ?_
  refine Own.bipush (v := 77) C d26_385 rfl ?_
  refine Own.iloadN C d26_387 rfl ?_
  refine castore_ C B77 77 (by decide) (by simp) (by simp) d26_388 (fun hp79 W79 A79 => ?_)
  rw [narc_id hp] at A79
  have B78 := A79.fill (j := 78) (n := 50) rfl rfl
  clear A79 B77
  refine Own.dup C d26_389 rfl ?_
  refine Own.bipush (v := 78) C d26_390 rfl ?_
  refine Own.iloadN C d26_392 rfl ?_
  refine castore_ C B78 78 (by decide) (by simp) (by simp) d26_393 (fun hp80 W80 A80 => ?_)
  rw [narc_id hp] at A80
  have B79 := A80.fill (j := 79) (n := 49) rfl rfl
  clear A80 B78
  refine Own.dup C d26_394 rfl ?_
  refine Own.bipush (v := 79) C d26_395 rfl ?_
  refine Own.iloadN C d26_397 rfl ?_
  refine castore_ C B79 79 (by decide) (by simp) (by simp) d26_398 (fun hp81 W81 A81 => ?_)
  rw [narc_id hp] at A81
  have B80 := A81.fill (j := 80) (n := 48) rfl rfl
  clear A81 B79
  refine Own.dup C d26_399 rfl ?_
  refine Own.bipush (v := 80) C d26_400 rfl ?_
  refine Own.iloadN C d26_402 rfl ?_
  refine castore_ C B80 80 (by decide) (by simp) (by simp) d26_403 (fun hp82 W82 A82 => ?_)
  rw [narc_id hp] at A82
  have B81 := A82.fill (j := 81) (n := 47) rfl rfl
  clear A82 B80
  refine Own.dup C d26_404 rfl ?_
  refine Own.bipush (v := 81) C d26_405 rfl ?_
  refine Own.iloadN C d26_407 rfl ?_
  refine castore_ C B81 81 (by decide) (by simp) (by simp) d26_408 (fun hp83 W83 A83 => ?_)
  rw [narc_id hp] at A83
  have B82 := A83.fill (j := 82) (n := 46) rfl rfl
  clear A83 B81
  refine Own.dup C d26_409 rfl ?_
  refine Own.bipush (v := 82) C d26_410 rfl ?_
  refine Own.iloadN C d26_412 rfl ?_
  refine castore_ C B82 82 (by decide) (by simp) (by simp) d26_413 (fun hp84 W84 A84 => ?_)
  rw [narc_id hp] at A84
  have B83 := A84.fill (j := 83) (n := 45) rfl rfl
  clear A84 B82
  refine Own.dup C d26_414 rfl ?_
  refine Own.bipush (v := 83) C d26_415 rfl ?_
  refine Own.iloadN C d26_417 rfl ?_
  refine castore_ C B83 83 (by decide) (by simp) (by simp) d26_418 (fun hp85 W85 A85 => ?_)
  rw [narc_id hp] at A85
  have B84 := A85.fill (j := 84) (n := 44) rfl rfl
  clear A85 B83
  refine Own.dup C d26_419 rfl ?_
  refine Own.bipush (v := 84) C d26_420 rfl ?_
  refine Own.iloadN C d26_422 rfl ?_
  refine castore_ C B84 84 (by decide) (by simp) (by simp) d26_423 (fun hp86 W86 A86 => ?_)
  rw [narc_id hp] at A86
  have B85 := A86.fill (j := 85) (n := 43) rfl rfl
  clear A86 B84
  refine Own.dup C d26_424 rfl ?_
  refine Own.bipush (v := 85) C d26_425 rfl ?_
  refine Own.iloadN C d26_427 rfl ?_
  refine castore_ C B85 85 (by decide) (by simp) (by simp) d26_428 (fun hp87 W87 A87 => ?_)
  rw [narc_id hp] at A87
  have B86 := A87.fill (j := 86) (n := 42) rfl rfl
  clear A87 B85
  refine Own.dup C d26_429 rfl ?_
  refine Own.bipush (v := 86) C d26_430 rfl ?_
  refine Own.iloadN C d26_432 rfl ?_
  refine castore_ C B86 86 (by decide) (by simp) (by simp) d26_433 (fun hp88 W88 A88 => ?_)
  rw [narc_id hp] at A88
  have B87 := A88.fill (j := 87) (n := 41) rfl rfl
  clear A88 B86
  refine Own.dup C d26_434 rfl ?_
  refine Own.bipush (v := 87) C d26_435 rfl ?_
  refine Own.iloadN C d26_437 rfl ?_
  refine castore_ C B87 87 (by decide) (by simp) (by simp) d26_438 (fun hp89 W89 A89 => ?_)
  rw [narc_id hp] at A89
  have B88 := A89.fill (j := 88) (n := 40) rfl rfl
  clear A89 B87
  refine Own.dup C d26_439 rfl ?_
  refine Own.bipush (v := 88) C d26_440 rfl ?_
  refine Own.iloadN C d26_442 rfl ?_
  refine castore_ C B88 88 (by decide) (by simp) (by simp) d26_443 (fun hp90 W90 A90 => ?_)
  rw [narc_id hp] at A90
  have B89 := A90.fill (j := 89) (n := 39) rfl rfl
  clear A90 B88
  refine Own.dup C d26_444 rfl ?_
  refine Own.bipush (v := 89) C d26_445 rfl ?_
  refine Own.iloadN C d26_447 rfl ?_
  refine castore_ C B89 89 (by decide) (by simp) (by simp) d26_448 (fun hp91 W91 A91 => ?_)
  rw [narc_id hp] at A91
  have B90 := A91.fill (j := 90) (n := 38) rfl rfl
  clear A91 B89
  refine Own.dup C d26_449 rfl ?_
  refine Own.bipush (v := 90) C d26_450 rfl ?_
  refine Own.iloadN C d26_452 rfl ?_
  refine castore_ C B90 90 (by decide) (by simp) (by simp) d26_453 (fun hp92 W92 A92 => ?_)
  rw [narc_id hp] at A92
  have B91 := A92.fill (j := 91) (n := 37) rfl rfl
  clear A92 B90
  refine Own.dup C d26_454 rfl ?_
  refine Own.bipush (v := 91) C d26_455 rfl ?_
  refine Own.iloadN C d26_457 rfl ?_
  refine castore_ C B91 91 (by decide) (by simp) (by simp) d26_458 (fun hp93 W93 A93 => ?_)
  rw [narc_id hp] at A93
  have B92 := A93.fill (j := 92) (n := 36) rfl rfl
  clear A93 B91
  refine Own.dup C d26_459 rfl ?_
  refine Own.bipush (v := 92) C d26_460 rfl ?_
  refine Own.iloadN C d26_462 rfl ?_
  refine castore_ C B92 92 (by decide) (by simp) (by simp) d26_463 (fun hp94 W94 A94 => ?_)
  rw [narc_id hp] at A94
  have B93 := A94.fill (j := 93) (n := 35) rfl rfl
  clear A94 B92
  refine Own.dup C d26_464 rfl ?_
  refine Own.bipush (v := 93) C d26_465 rfl ?_
  refine Own.iloadN C d26_467 rfl ?_
  refine castore_ C B93 93 (by decide) (by simp) (by simp) d26_468 (fun hp95 W95 A95 => ?_)
  rw [narc_id hp] at A95
  have B94 := A95.fill (j := 94) (n := 34) rfl rfl
  clear A95 B93
  refine Own.dup C d26_469 rfl ?_
  refine Own.bipush (v := 94) C d26_470 rfl ?_
  refine Own.iloadN C d26_472 rfl ?_
  refine castore_ C B94 94 (by decide) (by simp) (by simp) d26_473 (fun hp96 W96 A96 => ?_)
  rw [narc_id hp] at A96
  have B95 := A96.fill (j := 95) (n := 33) rfl rfl
  clear A96 B94
  refine Own.dup C d26_474 rfl ?_
  refine Own.bipush (v := 95) C d26_475 rfl ?_
  refine Own.iloadN C d26_477 rfl ?_
  refine castore_ C B95 95 (by decide) (by simp) (by simp) d26_478 (fun hp97 W97 A97 => ?_)
  rw [narc_id hp] at A97
  have B96 := A97.fill (j := 96) (n := 32) rfl rfl
  clear A97 B95
  refine Own.dup C d26_479 rfl ?_
  refine Own.bipush (v := 96) C d26_480 rfl ?_
  refine Own.iloadN C d26_482 rfl ?_
  refine castore_ C B96 96 (by decide) (by simp) (by simp) d26_483 (fun hp98 W98 A98 => ?_)
  rw [narc_id hp] at A98
  have B97 := A98.fill (j := 97) (n := 31) rfl rfl
  clear A98 B96
  refine Own.dup C d26_484 rfl ?_
  refine Own.bipush (v := 97) C d26_485 rfl ?_
  refine Own.iloadN C d26_487 rfl ?_
  refine castore_ C B97 97 (by decide) (by simp) (by simp) d26_488 (fun hp99 W99 A99 => ?_)
  rw [narc_id hp] at A99
  have B98 := A99.fill (j := 98) (n := 30) rfl rfl
  clear A99 B97
  refine Own.dup C d26_489 rfl ?_
  refine Own.bipush (v := 98) C d26_490 rfl ?_
  refine Own.iloadN C d26_492 rfl ?_
  refine castore_ C B98 98 (by decide) (by simp) (by simp) d26_493 (fun hp100 W100 A100 => ?_)
  rw [narc_id hp] at A100
  have B99 := A100.fill (j := 99) (n := 29) rfl rfl
  clear A100 B98
  refine Own.dup C d26_494 rfl ?_
  refine Own.bipush (v := 99) C d26_495 rfl ?_
  refine Own.iloadN C d26_497 rfl ?_
  refine castore_ C B99 99 (by decide) (by simp) (by simp) d26_498 (fun hp101 W101 A101 => ?_)
  rw [narc_id hp] at A101
  have B100 := A101.fill (j := 100) (n := 28) rfl rfl
  clear A101 B99
  refine Own.dup C d26_499 rfl ?_
  refine Own.bipush (v := 100) C d26_500 rfl ?_
  refine Own.iloadN C d26_502 rfl ?_
  refine castore_ C B100 100 (by decide) (by simp) (by simp) d26_503 (fun hp102 W102 A102 => ?_)
  rw [narc_id hp] at A102
  have B101 := A102.fill (j := 101) (n := 27) rfl rfl
  clear A102 B100
  refine Own.dup C d26_504 rfl ?_
  refine Own.bipush (v := 101) C d26_505 rfl ?_
  refine Own.iloadN C d26_507 rfl ?_
  refine castore_ C B101 101 (by decide) (by simp) (by simp) d26_508 (fun hp103 W103 A103 => ?_)
  rw [narc_id hp] at A103
  have B102 := A103.fill (j := 102) (n := 26) rfl rfl
  clear A103 B101
  refine Own.dup C d26_509 rfl ?_
  refine Own.bipush (v := 102) C d26_510 rfl ?_
  refine Own.iloadN C d26_512 rfl ?_
  refine castore_ C B102 102 (by decide) (by simp) (by simp) d26_513 (fun hp104 W104 A104 => ?_)
  rw [narc_id hp] at A104
  have B103 := A104.fill (j := 103) (n := 25) rfl rfl
  clear A104 B102
  refine Own.dup C d26_514 rfl ?_
  refine Own.bipush (v := 103) C d26_515 rfl ?_
  refine Own.iloadN C d26_517 rfl ?_
  refine castore_ C B103 103 (by decide) (by simp) (by simp) d26_518 (fun hp105 W105 A105 => ?_)
  rw [narc_id hp] at A105
  have B104 := A105.fill (j := 104) (n := 24) rfl rfl
  clear A105 B103
  refine Own.dup C d26_519 rfl ?_
  refine Own.bipush (v := 104) C d26_520 rfl ?_
  refine Own.iloadN C d26_522 rfl ?_
  refine castore_ C B104 104 (by decide) (by simp) (by simp) d26_523 (fun hp106 W106 A106 => ?_)
  rw [narc_id hp] at A106
  have B105 := A106.fill (j := 105) (n := 23) rfl rfl
  clear A106 B104
  refine Own.dup C d26_524 rfl ?_
  refine Own.bipush (v := 105) C d26_525 rfl ?_
  refine Own.iloadN C d26_527 rfl ?_
  refine castore_ C B105 105 (by decide) (by simp) (by simp) d26_528 (fun hp107 W107 A107 => ?_)
  rw [narc_id hp] at A107
  have B106 := A107.fill (j := 106) (n := 22) rfl rfl
  clear A107 B105
  refine Own.dup C d26_529 rfl ?_
  refine Own.bipush (v := 106) C d26_530 rfl ?_
  refine Own.iloadN C d26_532 rfl ?_
  refine castore_ C B106 106 (by decide) (by simp) (by simp) d26_533 (fun hp108 W108 A108 => ?_)
  rw [narc_id hp] at A108
  have B107 := A108.fill (j := 107) (n := 21) rfl rfl
  clear A108 B106
  refine Own.dup C d26_534 rfl ?_
  refine Own.bipush (v := 107) C d26_535 rfl ?_
  refine Own.iloadN C d26_537 rfl ?_
  refine castore_ C B107 107 (by decide) (by simp) (by simp) d26_538 (fun hp109 W109 A109 => ?_)
  rw [narc_id hp] at A109
  have B108 := A109.fill (j := 108) (n := 20) rfl rfl
  clear A109 B107
  refine Own.dup C d26_539 rfl ?_
  refine Own.bipush (v := 108) C d26_540 rfl ?_
  refine Own.iloadN C d26_542 rfl ?_
  refine castore_ C B108 108 (by decide) (by simp) (by simp) d26_543 (fun hp110 W110 A110 => ?_)
  rw [narc_id hp] at A110
  have B109 := A110.fill (j := 109) (n := 19) rfl rfl
  clear A110 B108
  refine Own.dup C d26_544 rfl ?_
  refine Own.bipush (v := 109) C d26_545 rfl ?_
  refine Own.iloadN C d26_547 rfl ?_
  refine castore_ C B109 109 (by decide) (by simp) (by simp) d26_548 (fun hp111 W111 A111 => ?_)
  rw [narc_id hp] at A111
  have B110 := A111.fill (j := 110) (n := 18) rfl rfl
  clear A111 B109
  refine Own.dup C d26_549 rfl ?_
  refine Own.bipush (v := 110) C d26_550 rfl ?_
  refine Own.iloadN C d26_552 rfl ?_
  refine castore_ C B110 110 (by decide) (by simp) (by simp) d26_553 (fun hp112 W112 A112 => ?_)
  rw [narc_id hp] at A112
  have B111 := A112.fill (j := 111) (n := 17) rfl rfl
  clear A112 B110
  refine Own.dup C d26_554 rfl ?_
  refine Own.bipush (v := 111) C d26_555 rfl ?_
  refine Own.iloadN C d26_557 rfl ?_
  refine castore_ C B111 111 (by decide) (by simp) (by simp) d26_558 (fun hp113 W113 A113 => ?_)
  rw [narc_id hp] at A113
  have B112 := A113.fill (j := 112) (n := 16) rfl rfl
  clear A113 B111
  refine Own.dup C d26_559 rfl ?_
  refine Own.bipush (v := 112) C d26_560 rfl ?_
  refine Own.iloadN C d26_562 rfl ?_
  refine castore_ C B112 112 (by decide) (by simp) (by simp) d26_563 (fun hp114 W114 A114 => ?_)
  rw [narc_id hp] at A114
  have B113 := A114.fill (j := 113) (n := 15) rfl rfl
  clear A114 B112
  refine Own.dup C d26_564 rfl ?_
  refine Own.bipush (v := 113) C d26_565 rfl ?_
  refine Own.iloadN C d26_567 rfl ?_
  refine castore_ C B113 113 (by decide) (by simp) (by simp) d26_568 (fun hp115 W115 A115 => ?_)
  rw [narc_id hp] at A115
  have B114 := A115.fill (j := 114) (n := 14) rfl rfl
  clear A115 B113
  refine Own.dup C d26_569 rfl ?_
  refine Own.bipush (v := 114) C d26_570 rfl ?_
  refine Own.iloadN C d26_572 rfl ?_
  refine castore_ C B114 114 (by decide) (by simp) (by simp) d26_573 (fun hp116 W116 A116 => ?_)
  rw [narc_id hp] at A116
  have B115 := A116.fill (j := 115) (n := 13) rfl rfl
  clear A116 B114
  refine Own.dup C d26_574 rfl ?_
  refine Own.bipush (v := 115) C d26_575 rfl ?_
  refine Own.iloadN C d26_577 rfl ?_
  refine castore_ C B115 115 (by decide) (by simp) (by simp) d26_578 (fun hp117 W117 A117 => ?_)
  rw [narc_id hp] at A117
  have B116 := A117.fill (j := 116) (n := 12) rfl rfl
  clear A117 B115
  refine Own.dup C d26_579 rfl ?_
  refine Own.bipush (v := 116) C d26_580 rfl ?_
  refine Own.iloadN C d26_582 rfl ?_
  refine castore_ C B116 116 (by decide) (by simp) (by simp) d26_583 (fun hp118 W118 A118 => ?_)
  rw [narc_id hp] at A118
  have B117 := A118.fill (j := 117) (n := 11) rfl rfl
  clear A118 B116
  refine Own.dup C d26_584 rfl ?_
  refine Own.bipush (v := 117) C d26_585 rfl ?_
  refine Own.iloadN C d26_587 rfl ?_
  refine castore_ C B117 117 (by decide) (by simp) (by simp) d26_588 (fun hp119 W119 A119 => ?_)
  rw [narc_id hp] at A119
  have B118 := A119.fill (j := 118) (n := 10) rfl rfl
  clear A119 B117
  refine Own.dup C d26_589 rfl ?_
  refine Own.bipush (v := 118) C d26_590 rfl ?_
  refine Own.iloadN C d26_592 rfl ?_
  refine castore_ C B118 118 (by decide) (by simp) (by simp) d26_593 (fun hp120 W120 A120 => ?_)
  rw [narc_id hp] at A120
  have B119 := A120.fill (j := 119) (n := 9) rfl rfl
  clear A120 B118
  refine Own.dup C d26_594 rfl ?_
  refine Own.bipush (v := 119) C d26_595 rfl ?_
  refine Own.iloadN C d26_597 rfl ?_
  refine castore_ C B119 119 (by decide) (by simp) (by simp) d26_598 (fun hp121 W121 A121 => ?_)
  rw [narc_id hp] at A121
  have B120 := A121.fill (j := 120) (n := 8) rfl rfl
  clear A121 B119
  refine Own.dup C d26_599 rfl ?_
  refine Own.bipush (v := 120) C d26_600 rfl ?_
  refine Own.iloadN C d26_602 rfl ?_
  refine castore_ C B120 120 (by decide) (by simp) (by simp) d26_603 (fun hp122 W122 A122 => ?_)
  rw [narc_id hp] at A122
  have B121 := A122.fill (j := 121) (n := 7) rfl rfl
  clear A122 B120
  refine Own.dup C d26_604 rfl ?_
  refine Own.bipush (v := 121) C d26_605 rfl ?_
  refine Own.iloadN C d26_607 rfl ?_
  refine castore_ C B121 121 (by decide) (by simp) (by simp) d26_608 (fun hp123 W123 A123 => ?_)
  rw [narc_id hp] at A123
  have B122 := A123.fill (j := 122) (n := 6) rfl rfl
  clear A123 B121
  refine Own.dup C d26_609 rfl ?_
  refine Own.bipush (v := 122) C d26_610 rfl ?_
  refine Own.iloadN C d26_612 rfl ?_
  refine castore_ C B122 122 (by decide) (by simp) (by simp) d26_613 (fun hp124 W124 A124 => ?_)
  rw [narc_id hp] at A124
  have B123 := A124.fill (j := 123) (n := 5) rfl rfl
  clear A124 B122
  refine Own.dup C d26_614 rfl ?_
  refine Own.bipush (v := 123) C d26_615 rfl ?_
  refine Own.iloadN C d26_617 rfl ?_
  refine castore_ C B123 123 (by decide) (by simp) (by simp) d26_618 (fun hp125 W125 A125 => ?_)
  rw [narc_id hp] at A125
  have B124 := A125.fill (j := 124) (n := 4) rfl rfl
  clear A125 B123
  refine Own.dup C d26_619 rfl ?_
  refine Own.bipush (v := 124) C d26_620 rfl ?_
  refine Own.iloadN C d26_622 rfl ?_
  refine castore_ C B124 124 (by decide) (by simp) (by simp) d26_623 (fun hp126 W126 A126 => ?_)
  rw [narc_id hp] at A126
  have B125 := A126.fill (j := 125) (n := 3) rfl rfl
  clear A126 B124
  refine Own.dup C d26_624 rfl ?_
  refine Own.bipush (v := 125) C d26_625 rfl ?_
  refine Own.iloadN C d26_627 rfl ?_
  refine castore_ C B125 125 (by decide) (by simp) (by simp) d26_628 (fun hp127 W127 A127 => ?_)
  rw [narc_id hp] at A127
  have B126 := A127.fill (j := 126) (n := 2) rfl rfl
  clear A127 B125
  refine Own.dup C d26_629 rfl ?_
  refine Own.bipush (v := 126) C d26_630 rfl ?_
  refine Own.iloadN C d26_632 rfl ?_
  refine castore_ C B126 126 (by decide) (by simp) (by simp) d26_633 (fun hp128 W128 A128 => ?_)
  rw [narc_id hp] at A128
  have B127 := A128.fill (j := 127) (n := 1) rfl rfl
  clear A128 B126
  refine Own.dup C d26_634 rfl ?_
  refine Own.bipush (v := 127) C d26_635 rfl ?_
  refine Own.iloadN C d26_637 rfl ?_
  refine castore_ C B127 127 (by decide) (by simp) (by simp) d26_638 (fun hp129 W129 A129 => ?_)
  rw [narc_id hp] at A129
  have B128 := A129.fill (j := 128) (n := 0) rfl rfl
  clear A129 B127
  exact retA C (gs := [b]) rfl rfl d26_639 (dle rfl) (dle rfl) (by simp) ⟨b, rfl, rfl, by rw [g1]; exact Nat.le_refl _, by simpa using B128⟩
set_option maxRecDepth 65536 in
set_option maxHeartbeats 4000000 in
theorem k_fill129 {Z : State} {a0 : Array Value} (hw : ∀ d ∈ tables_1, d.before a0 Z = true) (hs : Stt Z) {n0 : Nat} {h0 : Heap} {p : Int32} (hp : isCh p) (O : Old Z n0 h0) :
    Con WD Z EL0 n0 (⟨"com/example/keelson/keelson/dataset/DatasetNameIsValidPinLaw", "fill129", "(C)[C"⟩ : MethodName) method_5_code 1 (some (.array .char)) (Rm 0 1 129 0) [(.int p)] h0 [] (fun v h gs => ∃ b : Addr, v = some (.ref b) ∧ gs = [b] ∧ h0.size ≤ b ∧ Ary Z h b .char (List.replicate 129 (.int p))) := by
  refine Con.of (a0 := a0) (by first | (simp [plainName, overriddenIn]; done) | decide +kernel) (hEL hw) hWE O (L0 := #[.val (.int p)]) (fun m => by first | rfl | (simp [entryFrame, mkF, argsToLocals, Value.category]; done)) ?_
  intro K C hh
  refine Own.sipush (v := 129) C d25_0 rfl ?_
  refine newarr C (hw _ (List.mem_of_getElem? (i := 4) rfl)) (by decide) 129 (by decide) (by decide) (dle rfl) (dle rfl) d25_3 (fun hp1 K1 lt1 le1 A1 => ?_)
  obtain ⟨b, g1⟩ : ∃ z, z = h0.size := ⟨_, rfl⟩
  rw [← g1] at A1 lt1 le1 ⊢
  have B0 : Ary Z hp1 b .char (List.replicate 0 (.int p) ++ List.replicate 129 (.int 0)) := A1
  refine Own.dup C d25_5 rfl ?_
  refine Own.iconst (v := 0) C d25_6 rfl ?_
  refine Own.iloadN C d25_7 rfl ?_
  refine castore_ C B0 0 (by decide) (by simp) (by simp) d25_8 (fun hp2 W2 A2 => ?_)
  rw [narc_id hp] at A2
  have B1 := A2.fill (j := 1) (n := 128) rfl rfl
  clear A2 B0
  refine Own.dup C d25_9 rfl ?_
  refine Own.iconst (v := 1) C d25_10 rfl ?_
  refine Own.iloadN C d25_11 rfl ?_
  refine castore_ C B1 1 (by decide) (by simp) (by simp) d25_12 (fun hp3 W3 A3 => ?_)
  rw [narc_id hp] at A3
  have B2 := A3.fill (j := 2) (n := 127) rfl rfl
  clear A3 B1
  refine Own.dup C d25_13 rfl ?_
  refine Own.iconst (v := 2) C d25_14 rfl ?_
  refine Own.iloadN C d25_15 rfl ?_
  refine castore_ C B2 2 (by decide) (by simp) (by simp) d25_16 (fun hp4 W4 A4 => ?_)
  rw [narc_id hp] at A4
  have B3 := A4.fill (j := 3) (n := 126) rfl rfl
  clear A4 B2
  refine Own.dup C d25_17 rfl ?_
  refine Own.iconst (v := 3) C d25_18 rfl ?_
  refine Own.iloadN C d25_19 rfl ?_
  refine castore_ C B3 3 (by decide) (by simp) (by simp) d25_20 (fun hp5 W5 A5 => ?_)
  rw [narc_id hp] at A5
  have B4 := A5.fill (j := 4) (n := 125) rfl rfl
  clear A5 B3
  refine Own.dup C d25_21 rfl ?_
  refine Own.iconst (v := 4) C d25_22 rfl ?_
  refine Own.iloadN C d25_23 rfl ?_
  refine castore_ C B4 4 (by decide) (by simp) (by simp) d25_24 (fun hp6 W6 A6 => ?_)
  rw [narc_id hp] at A6
  have B5 := A6.fill (j := 5) (n := 124) rfl rfl
  clear A6 B4
  refine Own.dup C d25_25 rfl ?_
  refine Own.iconst (v := 5) C d25_26 rfl ?_
  refine Own.iloadN C d25_27 rfl ?_
  refine castore_ C B5 5 (by decide) (by simp) (by simp) d25_28 (fun hp7 W7 A7 => ?_)
  rw [narc_id hp] at A7
  have B6 := A7.fill (j := 6) (n := 123) rfl rfl
  clear A7 B5
  refine Own.dup C d25_29 rfl ?_
  refine Own.bipush (v := 6) C d25_30 rfl ?_
  refine Own.iloadN C d25_32 rfl ?_
  refine castore_ C B6 6 (by decide) (by simp) (by simp) d25_33 (fun hp8 W8 A8 => ?_)
  rw [narc_id hp] at A8
  have B7 := A8.fill (j := 7) (n := 122) rfl rfl
  clear A8 B6
  refine Own.dup C d25_34 rfl ?_
  refine Own.bipush (v := 7) C d25_35 rfl ?_
  refine Own.iloadN C d25_37 rfl ?_
  refine castore_ C B7 7 (by decide) (by simp) (by simp) d25_38 (fun hp9 W9 A9 => ?_)
  rw [narc_id hp] at A9
  have B8 := A9.fill (j := 8) (n := 121) rfl rfl
  clear A9 B7
  refine Own.dup C d25_39 rfl ?_
  refine Own.bipush (v := 8) C d25_40 rfl ?_
  refine Own.iloadN C d25_42 rfl ?_
  refine castore_ C B8 8 (by decide) (by simp) (by simp) d25_43 (fun hp10 W10 A10 => ?_)
  rw [narc_id hp] at A10
  have B9 := A10.fill (j := 9) (n := 120) rfl rfl
  clear A10 B8
  refine Own.dup C d25_44 rfl ?_
  refine Own.bipush (v := 9) C d25_45 rfl ?_
  refine Own.iloadN C d25_47 rfl ?_
  refine castore_ C B9 9 (by decide) (by simp) (by simp) d25_48 (fun hp11 W11 A11 => ?_)
  rw [narc_id hp] at A11
  have B10 := A11.fill (j := 10) (n := 119) rfl rfl
  clear A11 B9
  refine Own.dup C d25_49 rfl ?_
  refine Own.bipush (v := 10) C d25_50 rfl ?_
  refine Own.iloadN C d25_52 rfl ?_
  refine castore_ C B10 10 (by decide) (by simp) (by simp) d25_53 (fun hp12 W12 A12 => ?_)
  rw [narc_id hp] at A12
  have B11 := A12.fill (j := 11) (n := 118) rfl rfl
  clear A12 B10
  refine Own.dup C d25_54 rfl ?_
  refine Own.bipush (v := 11) C d25_55 rfl ?_
  refine Own.iloadN C d25_57 rfl ?_
  refine castore_ C B11 11 (by decide) (by simp) (by simp) d25_58 (fun hp13 W13 A13 => ?_)
  rw [narc_id hp] at A13
  have B12 := A13.fill (j := 12) (n := 117) rfl rfl
  clear A13 B11
  refine Own.dup C d25_59 rfl ?_
  refine Own.bipush (v := 12) C d25_60 rfl ?_
  refine Own.iloadN C d25_62 rfl ?_
  refine castore_ C B12 12 (by decide) (by simp) (by simp) d25_63 (fun hp14 W14 A14 => ?_)
  rw [narc_id hp] at A14
  have B13 := A14.fill (j := 13) (n := 116) rfl rfl
  clear A14 B12
  refine Own.dup C d25_64 rfl ?_
  refine Own.bipush (v := 13) C d25_65 rfl ?_
  refine Own.iloadN C d25_67 rfl ?_
  refine castore_ C B13 13 (by decide) (by simp) (by simp) d25_68 (fun hp15 W15 A15 => ?_)
  rw [narc_id hp] at A15
  have B14 := A15.fill (j := 14) (n := 115) rfl rfl
  clear A15 B13
  refine Own.dup C d25_69 rfl ?_
  refine Own.bipush (v := 14) C d25_70 rfl ?_
  refine Own.iloadN C d25_72 rfl ?_
  refine castore_ C B14 14 (by decide) (by simp) (by simp) d25_73 (fun hp16 W16 A16 => ?_)
  rw [narc_id hp] at A16
  have B15 := A16.fill (j := 15) (n := 114) rfl rfl
  clear A16 B14
  refine Own.dup C d25_74 rfl ?_
  refine Own.bipush (v := 15) C d25_75 rfl ?_
  refine Own.iloadN C d25_77 rfl ?_
  refine castore_ C B15 15 (by decide) (by simp) (by simp) d25_78 (fun hp17 W17 A17 => ?_)
  rw [narc_id hp] at A17
  have B16 := A17.fill (j := 16) (n := 113) rfl rfl
  clear A17 B15
  refine Own.dup C d25_79 rfl ?_
  refine Own.bipush (v := 16) C d25_80 rfl ?_
  refine Own.iloadN C d25_82 rfl ?_
  refine castore_ C B16 16 (by decide) (by simp) (by simp) d25_83 (fun hp18 W18 A18 => ?_)
  rw [narc_id hp] at A18
  have B17 := A18.fill (j := 17) (n := 112) rfl rfl
  clear A18 B16
  refine Own.dup C d25_84 rfl ?_
  refine Own.bipush (v := 17) C d25_85 rfl ?_
  refine Own.iloadN C d25_87 rfl ?_
  refine castore_ C B17 17 (by decide) (by simp) (by simp) d25_88 (fun hp19 W19 A19 => ?_)
  rw [narc_id hp] at A19
  have B18 := A19.fill (j := 18) (n := 111) rfl rfl
  clear A19 B17
  refine Own.dup C d25_89 rfl ?_
  refine Own.bipush (v := 18) C d25_90 rfl ?_
  refine Own.iloadN C d25_92 rfl ?_
  refine castore_ C B18 18 (by decide) (by simp) (by simp) d25_93 (fun hp20 W20 A20 => ?_)
  rw [narc_id hp] at A20
  have B19 := A20.fill (j := 19) (n := 110) rfl rfl
  clear A20 B18
  refine Own.dup C d25_94 rfl ?_
  refine Own.bipush (v := 19) C d25_95 rfl ?_
  refine Own.iloadN C d25_97 rfl ?_
  refine castore_ C B19 19 (by decide) (by simp) (by simp) d25_98 (fun hp21 W21 A21 => ?_)
  rw [narc_id hp] at A21
  have B20 := A21.fill (j := 20) (n := 109) rfl rfl
  clear A21 B19
  refine Own.dup C d25_99 rfl ?_
  refine Own.bipush (v := 20) C d25_100 rfl ?_
  refine Own.iloadN C d25_102 rfl ?_
  refine castore_ C B20 20 (by decide) (by simp) (by simp) d25_103 (fun hp22 W22 A22 => ?_)
  rw [narc_id hp] at A22
  have B21 := A22.fill (j := 21) (n := 108) rfl rfl
  clear A22 B20
  refine Own.dup C d25_104 rfl ?_
  refine Own.bipush (v := 21) C d25_105 rfl ?_
  refine Own.iloadN C d25_107 rfl ?_
  refine castore_ C B21 21 (by decide) (by simp) (by simp) d25_108 (fun hp23 W23 A23 => ?_)
  rw [narc_id hp] at A23
  have B22 := A23.fill (j := 22) (n := 107) rfl rfl
  clear A23 B21
  refine Own.dup C d25_109 rfl ?_
  refine Own.bipush (v := 22) C d25_110 rfl ?_
  refine Own.iloadN C d25_112 rfl ?_
  refine castore_ C B22 22 (by decide) (by simp) (by simp) d25_113 (fun hp24 W24 A24 => ?_)
  rw [narc_id hp] at A24
  have B23 := A24.fill (j := 23) (n := 106) rfl rfl
  clear A24 B22
  refine Own.dup C d25_114 rfl ?_
  refine Own.bipush (v := 23) C d25_115 rfl ?_
  refine Own.iloadN C d25_117 rfl ?_
  refine castore_ C B23 23 (by decide) (by simp) (by simp) d25_118 (fun hp25 W25 A25 => ?_)
  rw [narc_id hp] at A25
  have B24 := A25.fill (j := 24) (n := 105) rfl rfl
  clear A25 B23
  refine Own.dup C d25_119 rfl ?_
  refine Own.bipush (v := 24) C d25_120 rfl ?_
  refine Own.iloadN C d25_122 rfl ?_
  refine castore_ C B24 24 (by decide) (by simp) (by simp) d25_123 (fun hp26 W26 A26 => ?_)
  rw [narc_id hp] at A26
  have B25 := A26.fill (j := 25) (n := 104) rfl rfl
  clear A26 B24
  refine Own.dup C d25_124 rfl ?_
  refine Own.bipush (v := 25) C d25_125 rfl ?_
  refine Own.iloadN C d25_127 rfl ?_
  refine castore_ C B25 25 (by decide) (by simp) (by simp) d25_128 (fun hp27 W27 A27 => ?_)
  rw [narc_id hp] at A27
  have B26 := A27.fill (j := 26) (n := 103) rfl rfl
  clear A27 B25
  refine Own.dup C d25_129 rfl ?_
  refine Own.bipush (v := 26) C d25_130 rfl ?_
  refine Own.iloadN C d25_132 rfl ?_
  refine castore_ C B26 26 (by decide) (by simp) (by simp) d25_133 (fun hp28 W28 A28 => ?_)
  rw [narc_id hp] at A28
  have B27 := A28.fill (j := 27) (n := 102) rfl rfl
  clear A28 B26
  refine Own.dup C d25_134 rfl ?_
  refine Own.bipush (v := 27) C d25_135 rfl ?_
  refine Own.iloadN C d25_137 rfl ?_
  refine castore_ C B27 27 (by decide) (by simp) (by simp) d25_138 (fun hp29 W29 A29 => ?_)
  rw [narc_id hp] at A29
  have B28 := A29.fill (j := 28) (n := 101) rfl rfl
  clear A29 B27
  refine Own.dup C d25_139 rfl ?_
  refine Own.bipush (v := 28) C d25_140 rfl ?_
  refine Own.iloadN C d25_142 rfl ?_
  refine castore_ C B28 28 (by decide) (by simp) (by simp) d25_143 (fun hp30 W30 A30 => ?_)
  rw [narc_id hp] at A30
  have B29 := A30.fill (j := 29) (n := 100) rfl rfl
  clear A30 B28
  refine Own.dup C d25_144 rfl ?_
  refine Own.bipush (v := 29) C d25_145 rfl ?_
  refine Own.iloadN C d25_147 rfl ?_
  refine castore_ C B29 29 (by decide) (by simp) (by simp) d25_148 (fun hp31 W31 A31 => ?_)
  rw [narc_id hp] at A31
  have B30 := A31.fill (j := 30) (n := 99) rfl rfl
  clear A31 B29
  refine Own.dup C d25_149 rfl ?_
  refine Own.bipush (v := 30) C d25_150 rfl ?_
  refine Own.iloadN C d25_152 rfl ?_
  refine castore_ C B30 30 (by decide) (by simp) (by simp) d25_153 (fun hp32 W32 A32 => ?_)
  rw [narc_id hp] at A32
  have B31 := A32.fill (j := 31) (n := 98) rfl rfl
  clear A32 B30
  refine Own.dup C d25_154 rfl ?_
  refine Own.bipush (v := 31) C d25_155 rfl ?_
  refine Own.iloadN C d25_157 rfl ?_
  refine castore_ C B31 31 (by decide) (by simp) (by simp) d25_158 (fun hp33 W33 A33 => ?_)
  rw [narc_id hp] at A33
  have B32 := A33.fill (j := 32) (n := 97) rfl rfl
  clear A33 B31
  refine Own.dup C d25_159 rfl ?_
  refine Own.bipush (v := 32) C d25_160 rfl ?_
  refine Own.iloadN C d25_162 rfl ?_
  refine castore_ C B32 32 (by decide) (by simp) (by simp) d25_163 (fun hp34 W34 A34 => ?_)
  rw [narc_id hp] at A34
  have B33 := A34.fill (j := 33) (n := 96) rfl rfl
  clear A34 B32
  refine Own.dup C d25_164 rfl ?_
  refine Own.bipush (v := 33) C d25_165 rfl ?_
  refine Own.iloadN C d25_167 rfl ?_
  refine castore_ C B33 33 (by decide) (by simp) (by simp) d25_168 (fun hp35 W35 A35 => ?_)
  rw [narc_id hp] at A35
  have B34 := A35.fill (j := 34) (n := 95) rfl rfl
  clear A35 B33
  refine Own.dup C d25_169 rfl ?_
  refine Own.bipush (v := 34) C d25_170 rfl ?_
  refine Own.iloadN C d25_172 rfl ?_
  refine castore_ C B34 34 (by decide) (by simp) (by simp) d25_173 (fun hp36 W36 A36 => ?_)
  rw [narc_id hp] at A36
  have B35 := A36.fill (j := 35) (n := 94) rfl rfl
  clear A36 B34
  refine Own.dup C d25_174 rfl ?_
  refine Own.bipush (v := 35) C d25_175 rfl ?_
  refine Own.iloadN C d25_177 rfl ?_
  refine castore_ C B35 35 (by decide) (by simp) (by simp) d25_178 (fun hp37 W37 A37 => ?_)
  rw [narc_id hp] at A37
  have B36 := A37.fill (j := 36) (n := 93) rfl rfl
  clear A37 B35
  refine Own.dup C d25_179 rfl ?_
  refine Own.bipush (v := 36) C d25_180 rfl ?_
  refine Own.iloadN C d25_182 rfl ?_
  refine castore_ C B36 36 (by decide) (by simp) (by simp) d25_183 (fun hp38 W38 A38 => ?_)
  rw [narc_id hp] at A38
  have B37 := A38.fill (j := 37) (n := 92) rfl rfl
  clear A38 B36
  refine Own.dup C d25_184 rfl ?_
  refine Own.bipush (v := 37) C d25_185 rfl ?_
  refine Own.iloadN C d25_187 rfl ?_
  refine castore_ C B37 37 (by decide) (by simp) (by simp) d25_188 (fun hp39 W39 A39 => ?_)
  rw [narc_id hp] at A39
  have B38 := A39.fill (j := 38) (n := 91) rfl rfl
  clear A39 B37
  refine Own.dup C d25_189 rfl ?_
  refine Own.bipush (v := 38) C d25_190 rfl ?_
  refine Own.iloadN C d25_192 rfl ?_
  refine castore_ C B38 38 (by decide) (by simp) (by simp) d25_193 (fun hp40 W40 A40 => ?_)
  rw [narc_id hp] at A40
  have B39 := A40.fill (j := 39) (n := 90) rfl rfl
  clear A40 B38
  refine Own.dup C d25_194 rfl ?_
  refine Own.bipush (v := 39) C d25_195 rfl ?_
  refine Own.iloadN C d25_197 rfl ?_
  refine castore_ C B39 39 (by decide) (by simp) (by simp) d25_198 (fun hp41 W41 A41 => ?_)
  rw [narc_id hp] at A41
  have B40 := A41.fill (j := 40) (n := 89) rfl rfl
  clear A41 B39
  refine Own.dup C d25_199 rfl ?_
  refine Own.bipush (v := 40) C d25_200 rfl ?_
  refine Own.iloadN C d25_202 rfl ?_
  refine castore_ C B40 40 (by decide) (by simp) (by simp) d25_203 (fun hp42 W42 A42 => ?_)
  rw [narc_id hp] at A42
  have B41 := A42.fill (j := 41) (n := 88) rfl rfl
  clear A42 B40
  refine Own.dup C d25_204 rfl ?_
  refine Own.bipush (v := 41) C d25_205 rfl ?_
  refine Own.iloadN C d25_207 rfl ?_
  refine castore_ C B41 41 (by decide) (by simp) (by simp) d25_208 (fun hp43 W43 A43 => ?_)
  rw [narc_id hp] at A43
  have B42 := A43.fill (j := 42) (n := 87) rfl rfl
  clear A43 B41
  refine Own.dup C d25_209 rfl ?_
  refine Own.bipush (v := 42) C d25_210 rfl ?_
  refine Own.iloadN C d25_212 rfl ?_
  refine castore_ C B42 42 (by decide) (by simp) (by simp) d25_213 (fun hp44 W44 A44 => ?_)
  rw [narc_id hp] at A44
  have B43 := A44.fill (j := 43) (n := 86) rfl rfl
  clear A44 B42
  refine Own.dup C d25_214 rfl ?_
  refine Own.bipush (v := 43) C d25_215 rfl ?_
  refine Own.iloadN C d25_217 rfl ?_
  refine castore_ C B43 43 (by decide) (by simp) (by simp) d25_218 (fun hp45 W45 A45 => ?_)
  rw [narc_id hp] at A45
  have B44 := A45.fill (j := 44) (n := 85) rfl rfl
  clear A45 B43
  refine Own.dup C d25_219 rfl ?_
  refine Own.bipush (v := 44) C d25_220 rfl ?_
  refine Own.iloadN C d25_222 rfl ?_
  refine castore_ C B44 44 (by decide) (by simp) (by simp) d25_223 (fun hp46 W46 A46 => ?_)
  rw [narc_id hp] at A46
  have B45 := A46.fill (j := 45) (n := 84) rfl rfl
  clear A46 B44
  refine Own.dup C d25_224 rfl ?_
  refine Own.bipush (v := 45) C d25_225 rfl ?_
  refine Own.iloadN C d25_227 rfl ?_
  refine castore_ C B45 45 (by decide) (by simp) (by simp) d25_228 (fun hp47 W47 A47 => ?_)
  rw [narc_id hp] at A47
  have B46 := A47.fill (j := 46) (n := 83) rfl rfl
  clear A47 B45
  refine Own.dup C d25_229 rfl ?_
  refine Own.bipush (v := 46) C d25_230 rfl ?_
  refine Own.iloadN C d25_232 rfl ?_
  refine castore_ C B46 46 (by decide) (by simp) (by simp) d25_233 (fun hp48 W48 A48 => ?_)
  rw [narc_id hp] at A48
  have B47 := A48.fill (j := 47) (n := 82) rfl rfl
  clear A48 B46
  refine Own.dup C d25_234 rfl ?_
  refine Own.bipush (v := 47) C d25_235 rfl ?_
  refine Own.iloadN C d25_237 rfl ?_
  refine castore_ C B47 47 (by decide) (by simp) (by simp) d25_238 (fun hp49 W49 A49 => ?_)
  rw [narc_id hp] at A49
  have B48 := A49.fill (j := 48) (n := 81) rfl rfl
  clear A49 B47
  refine Own.dup C d25_239 rfl ?_
  refine Own.bipush (v := 48) C d25_240 rfl ?_
  refine Own.iloadN C d25_242 rfl ?_
  refine castore_ C B48 48 (by decide) (by simp) (by simp) d25_243 (fun hp50 W50 A50 => ?_)
  rw [narc_id hp] at A50
  have B49 := A50.fill (j := 49) (n := 80) rfl rfl
  clear A50 B48
  refine Own.dup C d25_244 rfl ?_
  refine Own.bipush (v := 49) C d25_245 rfl ?_
  refine Own.iloadN C d25_247 rfl ?_
  refine castore_ C B49 49 (by decide) (by simp) (by simp) d25_248 (fun hp51 W51 A51 => ?_)
  rw [narc_id hp] at A51
  have B50 := A51.fill (j := 50) (n := 79) rfl rfl
  clear A51 B49
  refine Own.dup C d25_249 rfl ?_
  refine Own.bipush (v := 50) C d25_250 rfl ?_
  refine Own.iloadN C d25_252 rfl ?_
  refine castore_ C B50 50 (by decide) (by simp) (by simp) d25_253 (fun hp52 W52 A52 => ?_)
  rw [narc_id hp] at A52
  have B51 := A52.fill (j := 51) (n := 78) rfl rfl
  clear A52 B50
  refine Own.dup C d25_254 rfl ?_
  refine Own.bipush (v := 51) C d25_255 rfl ?_
  refine Own.iloadN C d25_257 rfl ?_
  refine castore_ C B51 51 (by decide) (by simp) (by simp) d25_258 (fun hp53 W53 A53 => ?_)
  rw [narc_id hp] at A53
  have B52 := A53.fill (j := 52) (n := 77) rfl rfl
  clear A53 B51
  refine Own.dup C d25_259 rfl ?_
  refine Own.bipush (v := 52) C d25_260 rfl ?_
  refine Own.iloadN C d25_262 rfl ?_
  refine castore_ C B52 52 (by decide) (by simp) (by simp) d25_263 (fun hp54 W54 A54 => ?_)
  rw [narc_id hp] at A54
  have B53 := A54.fill (j := 53) (n := 76) rfl rfl
  clear A54 B52
  refine Own.dup C d25_264 rfl ?_
  refine Own.bipush (v := 53) C d25_265 rfl ?_
  refine Own.iloadN C d25_267 rfl ?_
  refine castore_ C B53 53 (by decide) (by simp) (by simp) d25_268 (fun hp55 W55 A55 => ?_)
  rw [narc_id hp] at A55
  have B54 := A55.fill (j := 54) (n := 75) rfl rfl
  clear A55 B53
  refine Own.dup C d25_269 rfl ?_
  refine Own.bipush (v := 54) C d25_270 rfl ?_
  refine Own.iloadN C d25_272 rfl ?_
  refine castore_ C B54 54 (by decide) (by simp) (by simp) d25_273 (fun hp56 W56 A56 => ?_)
  rw [narc_id hp] at A56
  have B55 := A56.fill (j := 55) (n := 74) rfl rfl
  clear A56 B54
  refine Own.dup C d25_274 rfl ?_
  refine Own.bipush (v := 55) C d25_275 rfl ?_
  refine Own.iloadN C d25_277 rfl ?_
  refine castore_ C B55 55 (by decide) (by simp) (by simp) d25_278 (fun hp57 W57 A57 => ?_)
  rw [narc_id hp] at A57
  have B56 := A57.fill (j := 56) (n := 73) rfl rfl
  clear A57 B55
  refine Own.dup C d25_279 rfl ?_
  refine Own.bipush (v := 56) C d25_280 rfl ?_
  refine Own.iloadN C d25_282 rfl ?_
  refine castore_ C B56 56 (by decide) (by simp) (by simp) d25_283 (fun hp58 W58 A58 => ?_)
  rw [narc_id hp] at A58
  have B57 := A58.fill (j := 57) (n := 72) rfl rfl
  clear A58 B56
  refine Own.dup C d25_284 rfl ?_
  refine Own.bipush (v := 57) C d25_285 rfl ?_
  refine Own.iloadN C d25_287 rfl ?_
  refine castore_ C B57 57 (by decide) (by simp) (by simp) d25_288 (fun hp59 W59 A59 => ?_)
  rw [narc_id hp] at A59
  have B58 := A59.fill (j := 58) (n := 71) rfl rfl
  clear A59 B57
  refine Own.dup C d25_289 rfl ?_
  refine Own.bipush (v := 58) C d25_290 rfl ?_
  refine Own.iloadN C d25_292 rfl ?_
  refine castore_ C B58 58 (by decide) (by simp) (by simp) d25_293 (fun hp60 W60 A60 => ?_)
  rw [narc_id hp] at A60
  have B59 := A60.fill (j := 59) (n := 70) rfl rfl
  clear A60 B58
  refine Own.dup C d25_294 rfl ?_
  refine Own.bipush (v := 59) C d25_295 rfl ?_
  refine Own.iloadN C d25_297 rfl ?_
  refine castore_ C B59 59 (by decide) (by simp) (by simp) d25_298 (fun hp61 W61 A61 => ?_)
  rw [narc_id hp] at A61
  have B60 := A61.fill (j := 60) (n := 69) rfl rfl
  clear A61 B59
  refine Own.dup C d25_299 rfl ?_
  refine Own.bipush (v := 60) C d25_300 rfl ?_
  refine Own.iloadN C d25_302 rfl ?_
  refine castore_ C B60 60 (by decide) (by simp) (by simp) d25_303 (fun hp62 W62 A62 => ?_)
  rw [narc_id hp] at A62
  have B61 := A62.fill (j := 61) (n := 68) rfl rfl
  clear A62 B60
  refine Own.dup C d25_304 rfl ?_
  refine Own.bipush (v := 61) C d25_305 rfl ?_
  refine Own.iloadN C d25_307 rfl ?_
  refine castore_ C B61 61 (by decide) (by simp) (by simp) d25_308 (fun hp63 W63 A63 => ?_)
  rw [narc_id hp] at A63
  have B62 := A63.fill (j := 62) (n := 67) rfl rfl
  clear A63 B61
  refine Own.dup C d25_309 rfl ?_
  refine Own.bipush (v := 62) C d25_310 rfl ?_
  refine Own.iloadN C d25_312 rfl ?_
  refine castore_ C B62 62 (by decide) (by simp) (by simp) d25_313 (fun hp64 W64 A64 => ?_)
  rw [narc_id hp] at A64
  have B63 := A64.fill (j := 63) (n := 66) rfl rfl
  clear A64 B62
  refine Own.dup C d25_314 rfl ?_
  refine Own.bipush (v := 63) C d25_315 rfl ?_
  refine Own.iloadN C d25_317 rfl ?_
  refine castore_ C B63 63 (by decide) (by simp) (by simp) d25_318 (fun hp65 W65 A65 => ?_)
  rw [narc_id hp] at A65
  have B64 := A65.fill (j := 64) (n := 65) rfl rfl
  clear A65 B63
  refine Own.dup C d25_319 rfl ?_
  refine Own.bipush (v := 64) C d25_320 rfl ?_
  refine Own.iloadN C d25_322 rfl ?_
  refine castore_ C B64 64 (by decide) (by simp) (by simp) d25_323 (fun hp66 W66 A66 => ?_)
  rw [narc_id hp] at A66
  have B65 := A66.fill (j := 65) (n := 64) rfl rfl
  clear A66 B64
  refine Own.dup C d25_324 rfl ?_
  refine Own.bipush (v := 65) C d25_325 rfl ?_
  refine Own.iloadN C d25_327 rfl ?_
  refine castore_ C B65 65 (by decide) (by simp) (by simp) d25_328 (fun hp67 W67 A67 => ?_)
  rw [narc_id hp] at A67
  have B66 := A67.fill (j := 66) (n := 63) rfl rfl
  clear A67 B65
  refine Own.dup C d25_329 rfl ?_
  refine Own.bipush (v := 66) C d25_330 rfl ?_
  refine Own.iloadN C d25_332 rfl ?_
  refine castore_ C B66 66 (by decide) (by simp) (by simp) d25_333 (fun hp68 W68 A68 => ?_)
  rw [narc_id hp] at A68
  have B67 := A68.fill (j := 67) (n := 62) rfl rfl
  clear A68 B66
  refine Own.dup C d25_334 rfl ?_
  refine Own.bipush (v := 67) C d25_335 rfl ?_
  refine Own.iloadN C d25_337 rfl ?_
  refine castore_ C B67 67 (by decide) (by simp) (by simp) d25_338 (fun hp69 W69 A69 => ?_)
  rw [narc_id hp] at A69
  have B68 := A69.fill (j := 68) (n := 61) rfl rfl
  clear A69 B67
  refine Own.dup C d25_339 rfl ?_
  refine Own.bipush (v := 68) C d25_340 rfl ?_
  refine Own.iloadN C d25_342 rfl ?_
  refine castore_ C B68 68 (by decide) (by simp) (by simp) d25_343 (fun hp70 W70 A70 => ?_)
  rw [narc_id hp] at A70
  have B69 := A70.fill (j := 69) (n := 60) rfl rfl
  clear A70 B68
  refine Own.dup C d25_344 rfl ?_
  refine Own.bipush (v := 69) C d25_345 rfl ?_
  refine Own.iloadN C d25_347 rfl ?_
  refine castore_ C B69 69 (by decide) (by simp) (by simp) d25_348 (fun hp71 W71 A71 => ?_)
  rw [narc_id hp] at A71
  have B70 := A71.fill (j := 70) (n := 59) rfl rfl
  clear A71 B69
  refine Own.dup C d25_349 rfl ?_
  refine Own.bipush (v := 70) C d25_350 rfl ?_
  refine Own.iloadN C d25_352 rfl ?_
  refine castore_ C B70 70 (by decide) (by simp) (by simp) d25_353 (fun hp72 W72 A72 => ?_)
  rw [narc_id hp] at A72
  have B71 := A72.fill (j := 71) (n := 58) rfl rfl
  clear A72 B70
  refine Own.dup C d25_354 rfl ?_
  refine Own.bipush (v := 71) C d25_355 rfl ?_
  refine Own.iloadN C d25_357 rfl ?_
  refine castore_ C B71 71 (by decide) (by simp) (by simp) d25_358 (fun hp73 W73 A73 => ?_)
  rw [narc_id hp] at A73
  have B72 := A73.fill (j := 72) (n := 57) rfl rfl
  clear A73 B71
  refine Own.dup C d25_359 rfl ?_
  refine Own.bipush (v := 72) C d25_360 rfl ?_
  refine Own.iloadN C d25_362 rfl ?_
  refine castore_ C B72 72 (by decide) (by simp) (by simp) d25_363 (fun hp74 W74 A74 => ?_)
  rw [narc_id hp] at A74
  have B73 := A74.fill (j := 73) (n := 56) rfl rfl
  clear A74 B72
  refine Own.dup C d25_364 rfl ?_
  refine Own.bipush (v := 73) C d25_365 rfl ?_
  refine Own.iloadN C d25_367 rfl ?_
  refine castore_ C B73 73 (by decide) (by simp) (by simp) d25_368 (fun hp75 W75 A75 => ?_)
  rw [narc_id hp] at A75
  have B74 := A75.fill (j := 74) (n := 55) rfl rfl
  clear A75 B73
  refine Own.dup C d25_369 rfl ?_
  refine Own.bipush (v := 74) C d25_370 rfl ?_
  refine Own.iloadN C d25_372 rfl ?_
  refine castore_ C B74 74 (by decide) (by simp) (by simp) d25_373 (fun hp76 W76 A76 => ?_)
  rw [narc_id hp] at A76
  have B75 := A76.fill (j := 75) (n := 54) rfl rfl
  clear A76 B74
  refine Own.dup C d25_374 rfl ?_
  refine Own.bipush (v := 75) C d25_375 rfl ?_
  refine Own.iloadN C d25_377 rfl ?_
  refine castore_ C B75 75 (by decide) (by simp) (by simp) d25_378 (fun hp77 W77 A77 => ?_)
  rw [narc_id hp] at A77
  have B76 := A77.fill (j := 76) (n := 53) rfl rfl
  clear A77 B75
  refine Own.dup C d25_379 rfl ?_
  refine Own.bipush (v := 76) C d25_380 rfl ?_
  refine Own.iloadN C d25_382 rfl ?_
  refine castore_ C B76 76 (by decide) (by simp) (by simp) d25_383 (fun hp78 W78 A78 => ?_)
  rw [narc_id hp] at A78
  have B77 := A78.fill (j := 77) (n := 52) rfl rfl
  clear A78 B76
  refine Own.dup C d25_384 rfl ?_
  refine Own.bipush (v := 77) C d25_385 rfl ?_
  refine Own.iloadN C d25_387 rfl ?_
  refine castore_ C B77 77 (by decide) (by simp) (by simp) d25_388 (fun hp79 W79 A79 => ?_)
  rw [narc_id hp] at A79
  have B78 := A79.fill (j := 78) (n := 51) rfl rfl
  clear A79 B77
  refine Own.dup C d25_389 rfl ?_
  refine Own.bipush (v := 78) C d25_390 rfl ?_
  refine Own.iloadN C d25_392 rfl ?_
  refine castore_ C B78 78 (by decide) (by simp) (by simp) d25_393 (fun hp80 W80 A80 => ?_)
  rw [narc_id hp] at A80
  have B79 := A80.fill (j := 79) (n := 50) rfl rfl
  clear A80 B78
  refine Own.dup C d25_394 rfl ?_
  refine Own.bipush (v := 79) C d25_395 rfl ?_
  refine Own.iloadN C d25_397 rfl ?_
  refine castore_ C B79 79 (by decide) (by simp) (by simp) d25_398 (fun hp81 W81 A81 => ?_)
  rw [narc_id hp] at A81
  have B80 := A81.fill (j := 80) (n := 49) rfl rfl
  clear A81 B79
  refine Own.dup C d25_399 rfl ?_
  refine Own.bipush (v := 80) C d25_400 rfl ?_
  refine Own.iloadN C d25_402 rfl ?_
  refine castore_ C B80 80 (by decide) (by simp) (by simp) d25_403 (fun hp82 W82 A82 => ?_)
  rw [narc_id hp] at A82
  have B81 := A82.fill (j := 81) (n := 48) rfl rfl
  clear A82 B80
  refine Own.dup C d25_404 rfl ?_
  refine Own.bipush (v := 81) C d25_405 rfl ?_
  refine Own.iloadN C d25_407 rfl ?_
  refine castore_ C B81 81 (by decide) (by simp) (by simp) d25_408 (fun hp83 W83 A83 => ?_)
  rw [narc_id hp] at A83
  have B82 := A83.fill (j := 82) (n := 47) rfl rfl
  clear A83 B81
  refine Own.dup C d25_409 rfl ?_
  refine Own.bipush (v := 82) C d25_410 rfl ?_
  refine Own.iloadN C d25_412 rfl ?_
  refine castore_ C B82 82 (by decide) (by simp) (by simp) d25_413 (fun hp84 W84 A84 => ?_)
  rw [narc_id hp] at A84
  have B83 := A84.fill (j := 83) (n := 46) rfl rfl
  clear A84 B82
  refine Own.dup C d25_414 rfl ?_
  refine Own.bipush (v := 83) C d25_415 rfl ?_
  refine Own.iloadN C d25_417 rfl ?_
  refine castore_ C B83 83 (by decide) (by simp) (by simp) d25_418 (fun hp85 W85 A85 => ?_)
  rw [narc_id hp] at A85
  have B84 := A85.fill (j := 84) (n := 45) rfl rfl
  clear A85 B83
  refine Own.dup C d25_419 rfl ?_
  refine Own.bipush (v := 84) C d25_420 rfl ?_
  refine Own.iloadN C d25_422 rfl ?_
  refine castore_ C B84 84 (by decide) (by simp) (by simp) d25_423 (fun hp86 W86 A86 => ?_)
  rw [narc_id hp] at A86
  have B85 := A86.fill (j := 85) (n := 44) rfl rfl
  clear A86 B84
  refine Own.dup C d25_424 rfl ?_
  refine Own.bipush (v := 85) C d25_425 rfl ?_
  refine Own.iloadN C d25_427 rfl ?_
  refine castore_ C B85 85 (by decide) (by simp) (by simp) d25_428 (fun hp87 W87 A87 => ?_)
  rw [narc_id hp] at A87
  have B86 := A87.fill (j := 86) (n := 43) rfl rfl
  clear A87 B85
  refine Own.dup C d25_429 rfl ?_
  refine Own.bipush (v := 86) C d25_430 rfl ?_
  refine Own.iloadN C d25_432 rfl ?_
  refine castore_ C B86 86 (by decide) (by simp) (by simp) d25_433 (fun hp88 W88 A88 => ?_)
  rw [narc_id hp] at A88
  have B87 := A88.fill (j := 87) (n := 42) rfl rfl
  clear A88 B86
  refine Own.dup C d25_434 rfl ?_
  refine Own.bipush (v := 87) C d25_435 rfl ?_
  refine Own.iloadN C d25_437 rfl ?_
  refine castore_ C B87 87 (by decide) (by simp) (by simp) d25_438 (fun hp89 W89 A89 => ?_)
  rw [narc_id hp] at A89
  have B88 := A89.fill (j := 88) (n := 41) rfl rfl
  clear A89 B87
  refine Own.dup C d25_439 rfl ?_
  refine Own.bipush (v := 88) C d25_440 rfl ?_
  refine Own.iloadN C d25_442 rfl ?_
  refine castore_ C B88 88 (by decide) (by simp) (by simp) d25_443 (fun hp90 W90 A90 => ?_)
  rw [narc_id hp] at A90
  have B89 := A90.fill (j := 89) (n := 40) rfl rfl
  clear A90 B88
  refine Own.dup C d25_444 rfl ?_
  refine Own.bipush (v := 89) C d25_445 rfl ?_
  refine Own.iloadN C d25_447 rfl ?_
  refine castore_ C B89 89 (by decide) (by simp) (by simp) d25_448 (fun hp91 W91 A91 => ?_)
  rw [narc_id hp] at A91
  have B90 := A91.fill (j := 90) (n := 39) rfl rfl
  clear A91 B89
  refine Own.dup C d25_449 rfl ?_
  refine Own.bipush (v := 90) C d25_450 rfl ?_
  refine Own.iloadN C d25_452 rfl ?_
  refine castore_ C B90 90 (by decide) (by simp) (by simp) d25_453 (fun hp92 W92 A92 => ?_)
  rw [narc_id hp] at A92
  have B91 := A92.fill (j := 91) (n := 38) rfl rfl
  clear A92 B90
  refine Own.dup C d25_454 rfl ?_
  refine Own.bipush (v := 91) C d25_455 rfl ?_
  refine Own.iloadN C d25_457 rfl ?_
  refine castore_ C B91 91 (by decide) (by simp) (by simp) d25_458 (fun hp93 W93 A93 => ?_)
  rw [narc_id hp] at A93
  have B92 := A93.fill (j := 92) (n := 37) rfl rfl
  clear A93 B91
  refine Own.dup C d25_459 rfl ?_
  refine Own.bipush (v := 92) C d25_460 rfl ?_
  refine Own.iloadN C d25_462 rfl ?_
  refine castore_ C B92 92 (by decide) (by simp) (by simp) d25_463 (fun hp94 W94 A94 => ?_)
  rw [narc_id hp] at A94
  have B93 := A94.fill (j := 93) (n := 36) rfl rfl
  clear A94 B92
  refine Own.dup C d25_464 rfl ?_
  refine Own.bipush (v := 93) C d25_465 rfl ?_
  refine Own.iloadN C d25_467 rfl ?_
  refine castore_ C B93 93 (by decide) (by simp) (by simp) d25_468 (fun hp95 W95 A95 => ?_)
  rw [narc_id hp] at A95
  have B94 := A95.fill (j := 94) (n := 35) rfl rfl
  clear A95 B93
  refine Own.dup C d25_469 rfl ?_
  refine Own.bipush (v := 94) C d25_470 rfl ?_
  refine Own.iloadN C d25_472 rfl ?_
  refine castore_ C B94 94 (by decide) (by simp) (by simp) d25_473 (fun hp96 W96 A96 => ?_)
  rw [narc_id hp] at A96
  have B95 := A96.fill (j := 95) (n := 34) rfl rfl
  clear A96 B94
  refine Own.dup C d25_474 rfl ?_
  refine Own.bipush (v := 95) C d25_475 rfl ?_
  refine Own.iloadN C d25_477 rfl ?_
  refine castore_ C B95 95 (by decide) (by simp) (by simp) d25_478 (fun hp97 W97 A97 => ?_)
  rw [narc_id hp] at A97
  have B96 := A97.fill (j := 96) (n := 33) rfl rfl
  clear A97 B95
  refine Own.dup C d25_479 rfl ?_
  refine Own.bipush (v := 96) C d25_480 rfl ?_
  refine Own.iloadN C d25_482 rfl ?_
  refine castore_ C B96 96 (by decide) (by simp) (by simp) d25_483 (fun hp98 W98 A98 => ?_)
  rw [narc_id hp] at A98
  have B97 := A98.fill (j := 97) (n := 32) rfl rfl
  clear A98 B96
  refine Own.dup C d25_484 rfl ?_
  refine Own.bipush (v := 97) C d25_485 rfl ?_
  refine Own.iloadN C d25_487 rfl ?_
  refine castore_ C B97 97 (by decide) (by simp) (by simp) d25_488 (fun hp99 W99 A99 => ?_)
  rw [narc_id hp] at A99
  have B98 := A99.fill (j := 98) (n := 31) rfl rfl
  clear A99 B97
  refine Own.dup C d25_489 rfl ?_
  refine Own.bipush (v := 98) C d25_490 rfl ?_
  refine Own.iloadN C d25_492 rfl ?_
  refine castore_ C B98 98 (by decide) (by simp) (by simp) d25_493 (fun hp100 W100 A100 => ?_)
  rw [narc_id hp] at A100
  have B99 := A100.fill (j := 99) (n := 30) rfl rfl
  clear A100 B98
  refine Own.dup C d25_494 rfl ?_
  refine Own.bipush (v := 99) C d25_495 rfl ?_
  refine Own.iloadN C d25_497 rfl ?_
  refine castore_ C B99 99 (by decide) (by simp) (by simp) d25_498 (fun hp101 W101 A101 => ?_)
  rw [narc_id hp] at A101
  have B100 := A101.fill (j := 100) (n := 29) rfl rfl
  clear A101 B99
  refine Own.dup C d25_499 rfl ?_
  refine Own.bipush (v := 100) C d25_500 rfl ?_
  refine Own.iloadN C d25_502 rfl ?_
  refine castore_ C B100 100 (by decide) (by simp) (by simp) d25_503 (fun hp102 W102 A102 => ?_)
  rw [narc_id hp] at A102
  have B101 := A102.fill (j := 101) (n := 28) rfl rfl
  clear A102 B100
  refine Own.dup C d25_504 rfl ?_
  refine Own.bipush (v := 101) C d25_505 rfl ?_
  refine Own.iloadN C d25_507 rfl ?_
  refine castore_ C B101 101 (by decide) (by simp) (by simp) d25_508 (fun hp103 W103 A103 => ?_)
  rw [narc_id hp] at A103
  have B102 := A103.fill (j := 102) (n := 27) rfl rfl
  clear A103 B101
  refine Own.dup C d25_509 rfl ?_
  refine Own.bipush (v := 102) C d25_510 rfl ?_
  refine Own.iloadN C d25_512 rfl ?_
  refine castore_ C B102 102 (by decide) (by simp) (by simp) d25_513 (fun hp104 W104 A104 => ?_)
  rw [narc_id hp] at A104
  have B103 := A104.fill (j := 103) (n := 26) rfl rfl
  clear A104 B102
  refine Own.dup C d25_514 rfl ?_
  refine Own.bipush (v := 103) C d25_515 rfl ?_
  refine Own.iloadN C d25_517 rfl ?_
  refine castore_ C B103 103 (by decide) (by simp) (by simp) d25_518 (fun hp105 W105 A105 => ?_)
  rw [narc_id hp] at A105
  have B104 := A105.fill (j := 104) (n := 25) rfl rfl
  clear A105 B103
  refine Own.dup C d25_519 rfl ?_
  refine Own.bipush (v := 104) C d25_520 rfl ?_
  refine Own.iloadN C d25_522 rfl ?_
  refine castore_ C B104 104 (by decide) (by simp) (by simp) d25_523 (fun hp106 W106 A106 => ?_)
  rw [narc_id hp] at A106
  have B105 := A106.fill (j := 105) (n := 24) rfl rfl
  clear A106 B104
  refine Own.dup C d25_524 rfl ?_
  refine Own.bipush (v := 105) C d25_525 rfl ?_
  refine Own.iloadN C d25_527 rfl ?_
  refine castore_ C B105 105 (by decide) (by simp) (by simp) d25_528 (fun hp107 W107 A107 => ?_)
  rw [narc_id hp] at A107
  have B106 := A107.fill (j := 106) (n := 23) rfl rfl
  clear A107 B105
  refine Own.dup C d25_529 rfl ?_
  refine Own.bipush (v := 106) C d25_530 rfl ?_
  refine Own.iloadN C d25_532 rfl ?_
  refine castore_ C B106 106 (by decide) (by simp) (by simp) d25_533 (fun hp108 W108 A108 => ?_)
  rw [narc_id hp] at A108
  have B107 := A108.fill (j := 107) (n := 22) rfl rfl
  clear A108 B106
  refine Own.dup C d25_534 rfl ?_
  refine Own.bipush (v := 107) C d25_535 rfl ?_
  refine Own.iloadN C d25_537 rfl ?_
  refine castore_ C B107 107 (by decide) (by simp) (by simp) d25_538 (fun hp109 W109 A109 => ?_)
  rw [narc_id hp] at A109
  have B108 := A109.fill (j := 108) (n := 21) rfl rfl
  clear A109 B107
  refine Own.dup C d25_539 rfl ?_
  refine Own.bipush (v := 108) C d25_540 rfl ?_
  refine Own.iloadN C d25_542 rfl ?_
  refine castore_ C B108 108 (by decide) (by simp) (by simp) d25_543 (fun hp110 W110 A110 => ?_)
  rw [narc_id hp] at A110
  have B109 := A110.fill (j := 109) (n := 20) rfl rfl
  clear A110 B108
  refine Own.dup C d25_544 rfl ?_
  refine Own.bipush (v := 109) C d25_545 rfl ?_
  refine Own.iloadN C d25_547 rfl ?_
  refine castore_ C B109 109 (by decide) (by simp) (by simp) d25_548 (fun hp111 W111 A111 => ?_)
  rw [narc_id hp] at A111
  have B110 := A111.fill (j := 110) (n := 19) rfl rfl
  clear A111 B109
  refine Own.dup C d25_549 rfl ?_
  refine Own.bipush (v := 110) C d25_550 rfl ?_
  refine Own.iloadN C d25_552 rfl ?_
  refine castore_ C B110 110 (by decide) (by simp) (by simp) d25_553 (fun hp112 W112 A112 => ?_)
  rw [narc_id hp] at A112
  have B111 := A112.fill (j := 111) (n := 18) rfl rfl
  clear A112 B110
  refine Own.dup C d25_554 rfl ?_
  refine Own.bipush (v := 111) C d25_555 rfl ?_
  refine Own.iloadN C d25_557 rfl ?_
  refine castore_ C B111 111 (by decide) (by simp) (by simp) d25_558 (fun hp113 W113 A113 => ?_)
  rw [narc_id hp] at A113
  have B112 := A113.fill (j := 112) (n := 17) rfl rfl
  clear A113 B111
  refine Own.dup C d25_559 rfl ?_
  refine Own.bipush (v := 112) C d25_560 rfl ?_
  refine Own.iloadN C d25_562 rfl ?_
  refine castore_ C B112 112 (by decide) (by simp) (by simp) d25_563 (fun hp114 W114 A114 => ?_)
  rw [narc_id hp] at A114
  have B113 := A114.fill (j := 113) (n := 16) rfl rfl
  clear A114 B112
  refine Own.dup C d25_564 rfl ?_
  refine Own.bipush (v := 113) C d25_565 rfl ?_
  refine Own.iloadN C d25_567 rfl ?_
  refine castore_ C B113 113 (by decide) (by simp) (by simp) d25_568 (fun hp115 W115 A115 => ?_)
  rw [narc_id hp] at A115
  have B114 := A115.fill (j := 114) (n := 15) rfl rfl
  clear A115 B113
  refine Own.dup C d25_569 rfl ?_
  refine Own.bipush (v := 114) C d25_570 rfl ?_
  refine Own.iloadN C d25_572 rfl ?_
  refine castore_ C B114 114 (by decide) (by simp) (by simp) d25_573 (fun hp116 W116 A116 => ?_)
  rw [narc_id hp] at A116
  have B115 := A116.fill (j := 115) (n := 14) rfl rfl
  clear A116 B114
  refine Own.dup C d25_574 rfl ?_
  refine Own.bipush (v := 115) C d25_575 rfl ?_
  refine Own.iloadN C d25_577 rfl ?_
  refine castore_ C B115 115 (by decide) (by simp) (by simp) d25_578 (fun hp117 W117 A117 => ?_)
  rw [narc_id hp] at A117
  have B116 := A117.fill (j := 116) (n := 13) rfl rfl
  clear A117 B115
  refine Own.dup C d25_579 rfl ?_
  refine Own.bipush (v := 116) C d25_580 rfl ?_
  refine Own.iloadN C d25_582 rfl ?_
  refine castore_ C B116 116 (by decide) (by simp) (by simp) d25_583 (fun hp118 W118 A118 => ?_)
  rw [narc_id hp] at A118
  have B117 := A118.fill (j := 117) (n := 12) rfl rfl
  clear A118 B116
  refine Own.dup C d25_584 rfl ?_
  refine Own.bipush (v := 117) C d25_585 rfl ?_
  refine Own.iloadN C d25_587 rfl ?_
  refine castore_ C B117 117 (by decide) (by simp) (by simp) d25_588 (fun hp119 W119 A119 => ?_)
  rw [narc_id hp] at A119
  have B118 := A119.fill (j := 118) (n := 11) rfl rfl
  clear A119 B117
  refine Own.dup C d25_589 rfl ?_
  refine Own.bipush (v := 118) C d25_590 rfl ?_
  refine Own.iloadN C d25_592 rfl ?_
  refine castore_ C B118 118 (by decide) (by simp) (by simp) d25_593 (fun hp120 W120 A120 => ?_)
  rw [narc_id hp] at A120
  have B119 := A120.fill (j := 119) (n := 10) rfl rfl
  clear A120 B118
  refine Own.dup C d25_594 rfl ?_
  refine Own.bipush (v := 119) C d25_595 rfl ?_
  refine Own.iloadN C d25_597 rfl ?_
  refine castore_ C B119 119 (by decide) (by simp) (by simp) d25_598 (fun hp121 W121 A121 => ?_)
  rw [narc_id hp] at A121
  have B120 := A121.fill (j := 120) (n := 9) rfl rfl
  clear A121 B119
  refine Own.dup C d25_599 rfl ?_
  refine Own.bipush (v := 120) C d25_600 rfl ?_
  refine Own.iloadN C d25_602 rfl ?_
  refine castore_ C B120 120 (by decide) (by simp) (by simp) d25_603 (fun hp122 W122 A122 => ?_)
  rw [narc_id hp] at A122
  have B121 := A122.fill (j := 121) (n := 8) rfl rfl
  clear A122 B120
  refine Own.dup C d25_604 rfl ?_
  refine Own.bipush (v := 121) C d25_605 rfl ?_
  refine Own.iloadN C d25_607 rfl ?_
  refine castore_ C B121 121 (by decide) (by simp) (by simp) d25_608 (fun hp123 W123 A123 => ?_)
  rw [narc_id hp] at A123
  have B122 := A123.fill (j := 122) (n := 7) rfl rfl
  clear A123 B121
  refine Own.dup C d25_609 rfl ?_
  refine Own.bipush (v := 122) C d25_610 rfl ?_
  refine Own.iloadN C d25_612 rfl ?_
  refine castore_ C B122 122 (by decide) (by simp) (by simp) d25_613 (fun hp124 W124 A124 => ?_)
  rw [narc_id hp] at A124
  have B123 := A124.fill (j := 123) (n := 6) rfl rfl
  clear A124 B122
  refine Own.dup C d25_614 rfl ?_
  refine Own.bipush (v := 123) C d25_615 rfl ?_
  refine Own.iloadN C d25_617 rfl ?_
  refine castore_ C B123 123 (by decide) (by simp) (by simp) d25_618 (fun hp125 W125 A125 => ?_)
  rw [narc_id hp] at A125
  have B124 := A125.fill (j := 124) (n := 5) rfl rfl
  clear A125 B123
  refine Own.dup C d25_619 rfl ?_
  refine Own.bipush (v := 124) C d25_620 rfl ?_
  refine Own.iloadN C d25_622 rfl ?_
  refine castore_ C B124 124 (by decide) (by simp) (by simp) d25_623 (fun hp126 W126 A126 => ?_)
  rw [narc_id hp] at A126
  have B125 := A126.fill (j := 125) (n := 4) rfl rfl
  clear A126 B124
  refine Own.dup C d25_624 rfl ?_
  refine Own.bipush (v := 125) C d25_625 rfl ?_
  refine Own.iloadN C d25_627 rfl ?_
  refine castore_ C B125 125 (by decide) (by simp) (by simp) d25_628 (fun hp127 W127 A127 => ?_)
  rw [narc_id hp] at A127
  have B126 := A127.fill (j := 126) (n := 3) rfl rfl
  clear A127 B125
  refine Own.dup C d25_629 rfl ?_
  refine Own.bipush (v := 126) C d25_630 rfl ?_
  refine Own.iloadN C d25_632 rfl ?_
  refine castore_ C B126 126 (by decide) (by simp) (by simp) d25_633 (fun hp128 W128 A128 => ?_)
  rw [narc_id hp] at A128
  have B127 := A128.fill (j := 127) (n := 2) rfl rfl
  clear A128 B126
  refine Own.dup C d25_634 rfl ?_
  refine Own.bipush (v := 127) C d25_635 rfl ?_
  refine Own.iloadN C d25_637 rfl ?_
  refine castore_ C B127 127 (by decide) (by simp) (by simp) d25_638 (fun hp129 W129 A129 => ?_)
  rw [narc_id hp] at A129
  have B128 := A129.fill (j := 128) (n := 1) rfl rfl
  clear A129 B127
  refine Own.dup C d25_639 rfl ?_
  refine Own.sipush (v := 128) C d25_640 rfl ?_
  refine Own.iloadN C d25_643 rfl ?_
  refine castore_ C B128 128 (by decide) (by simp) (by simp) d25_644 (fun hp130 W130 A130 => ?_)
  rw [narc_id hp] at A130
  have B129 := A130.fill (j := 129) (n := 0) rfl rfl
  clear A130 B128
  exact retA C (gs := [b]) rfl rfl d25_645 (dle rfl) (dle rfl) (by simp) ⟨b, rfl, rfl, by rw [g1]; exact Nat.le_refl _, by simpa using B129⟩
theorem big_list {ca cb cc : Int32} {j n : Nat} : ((List.replicate (n + 1) ca).set 0 cc).set (j + 1) cb = cc :: (List.replicate n ca).set j cb := by
  rw [List.replicate_succ, List.set_cons_zero, List.set_cons_succ]
theorem big_mem {ca cb : Int32} {j : Nat} (hj : j < 127) : (∀ x ∈ (List.replicate 127 ca).set j cb, lt x = 1) ↔ lt ca = 1 ∧ lt cb = 1 := by
  constructor
  · intro h
    refine ⟨?_, h cb (List.mem_set (by simpa using hj) _)⟩
    by_cases q : j = 0
    · refine h ca ?_
      have : ((List.replicate 127 ca).set j cb)[1]? = some ca := by rw [List.getElem?_set_ne (by omega)]; simp
      exact List.mem_of_getElem? this
    · refine h ca ?_
      have : ((List.replicate 127 ca).set j cb)[0]? = some ca := by rw [List.getElem?_set_ne q]; simp
      exact List.mem_of_getElem? this
  · rintro ⟨h1, h2⟩ x hx
    rcases List.mem_or_eq_of_mem_set hx with q | q
    · rw [List.mem_replicate] at q; rw [q.2]; exact h1
    · rw [q]; exact h2
theorem big_ok {ca cb cc : Int32} {j : Nat} (hj : j < 127) : ok (((List.replicate 128 ca).set 0 cc).set (j + 1) cb) = if ld cc = 1 ∧ lt ca = 1 ∧ lt cb = 1 then 1 else 0 := by
  rw [big_list (n := 127)]
  unfold ok
  rw [if_neg (by simp)]
  simp only [vl, big_mem hj]
theorem big_no {ca cb cc : Int32} {j : Nat} : ok (((List.replicate 129 ca).set 0 cc).set j cb) = 0 := by
  unfold ok
  rw [if_pos (Or.inr (by simp))]
theorem prange (e : Int32) : ∃ j : Nat, j < 127 ∧ (1 + (e &&& 2147483647) % 127).toInt = (j + 1 : Nat) := by
  have a := c_mask e 2147483647 31 (by decide) (by decide)
  have z : ((2 ^ 31 : Nat) : Int) = 2147483648 := by decide
  rw [z] at a
  have b := (c_irem (e &&& 2147483647) 127 127 (by decide)).1 (by omega)
  have c := c_iadd 1 ((e &&& 2147483647) % 127)
  have d := rng32 (1 + (e &&& 2147483647) % 127)
  have f : (1 : Int32).toInt = 1 := rfl
  exact ⟨((e &&& 2147483647) % 127).toInt.toNat, by omega, by omega⟩
theorem set_ch {ca cb cc : Int32} {n j : Nat} (h1 : isCh ca) (h2 : isCh cb) (h3 : isCh cc) : ∀ c ∈ ((List.replicate n ca).set 0 cc).set j cb, isCh c := by
  intro c hc
  rcases List.mem_or_eq_of_mem_set hc with q | q
  · rcases List.mem_or_eq_of_mem_set q with q | q
    · rw [List.mem_replicate] at q; rw [q.2]; exact h1
    · rw [q]; exact h3
  · rw [q]; exact h2
set_option maxRecDepth 65536 in
set_option maxHeartbeats 4000000 in
theorem k_law {Z : State} {a0 : Array Value} (hw : ∀ d ∈ tables_1, d.before a0 Z = true) (hs : Stt Z) {n0 : Nat} {h0 : Heap} {m a b c d e : Int32} (O : Old Z n0 h0) :
    Con WD Z EL0 n0 (⟨"com/example/keelson/keelson/dataset/DatasetNameIsValidPinLaw", "law", "(IIIIII)Z"⟩ : MethodName) code 14 (some .boolean) (Rm 9 24 2176 208) [(.int m), (.int a), (.int b), (.int c), (.int d), (.int e)] h0 [] (fun v h gs => v = some (.int 1)) := by
  refine Con.of (a0 := a0) (by first | (simp [plainName, overriddenIn]; done) | decide +kernel) (hEL hw) hWE O (L0 := #[.val (.int m), .val (.int a), .val (.int b), .val (.int c), .val (.int d), .val (.int e), .unset, .unset, .unset, .unset, .unset, .unset, .unset, .unset]) (fun m => by first | rfl | (simp [entryFrame, mkF, argsToLocals, Value.category]; done)) ?_
  intro K C hh
  have ha := narc_ch a
  have hb := narc_ch b
  have hc := narc_ch c
  have hd := narc_ch d
  refine Own.iloadN C d28_0 rfl ?_
  refine Own.bipush (v := 7) C d28_1 rfl ?_
  refine Own.iand C d28_3 ?_
  refine Own.istore (L' := #[.val (.int m), .val (.int a), .val (.int b), .val (.int c), .val (.int d), .val (.int e), .val (.int (m &&& (7 : Int32))), .unset, .unset, .unset, .unset, .unset, .unset, .unset]) C d28_4 rfl ?_
  refine Own.iloadN C d28_6 rfl ?_
  refine Own.i2c C d28_7 ?_
  refine Own.istore (L' := #[.val (.int m), .val (.int a), .val (.int b), .val (.int c), .val (.int d), .val (.int e), .val (.int (m &&& (7 : Int32))), .val (.int (nar .char a)), .unset, .unset, .unset, .unset, .unset, .unset]) C d28_8 rfl ?_
  refine Own.iloadN C d28_10 rfl ?_
  refine Own.i2c C d28_11 ?_
  refine Own.istore (L' := #[.val (.int m), .val (.int a), .val (.int b), .val (.int c), .val (.int d), .val (.int e), .val (.int (m &&& (7 : Int32))), .val (.int (nar .char a)), .val (.int (nar .char b)), .unset, .unset, .unset, .unset, .unset]) C d28_12 rfl ?_
  refine Own.iloadN C d28_14 rfl ?_
  refine Own.i2c C d28_15 ?_
  refine Own.istore (L' := #[.val (.int m), .val (.int a), .val (.int b), .val (.int c), .val (.int d), .val (.int e), .val (.int (m &&& (7 : Int32))), .val (.int (nar .char a)), .val (.int (nar .char b)), .val (.int (nar .char c)), .unset, .unset, .unset, .unset]) C d28_16 rfl ?_
  refine Own.iload C d28_18 rfl ?_
  refine Own.i2c C d28_20 ?_
  refine Own.istore (L' := #[.val (.int m), .val (.int a), .val (.int b), .val (.int c), .val (.int d), .val (.int e), .val (.int (m &&& (7 : Int32))), .val (.int (nar .char a)), .val (.int (nar .char b)), .val (.int (nar .char c)), .val (.int (nar .char d)), .unset, .unset, .unset]) C d28_21 rfl ?_
  refine Own.iload C d28_23 rfl ?_
  generalize (m &&& 7) = mode
  generalize nar .char a = ca at ha ⊢
  generalize nar .char b = cb at hb ⊢
  generalize nar .char c = cc at hc ⊢
  generalize nar .char d = cd at hd ⊢
  show Go _ K Z _ n0 _ _ 25 #[.val (.int m), .val (.int a), .val (.int b), .val (.int c), .val (.int d), .val (.int e), .val (.int mode), .val (.int ca), .val (.int cb), .val (.int cc), .val (.int cd), .unset, .unset, .unset] [(.int mode)] h0 _ _ _
  refine if_ne C d28_25 (fun q1 => ?_) (fun q1 => ?_)
  · refine Own.iload C d28_41 rfl ?_
    refine Own.iconst (v := 5) C d28_43 rfl ?_
    refine icmp_gt C d28_44 (fun q2 => ?_) (fun q2 => ?_)
    · obtain ⟨j, hj, hp⟩ := prange e
      refine Own.iconst (v := 1) C d28_289 rfl ?_
      refine Own.iload C d28_290 rfl ?_
      refine Own.ldcI C (hw _ (List.mem_of_getElem? (i := 107) rfl)) d28_292 ?_
      refine Own.iand C d28_294 ?_
      refine Own.bipush (v := 127) C d28_295 rfl ?_
      refine Own.irem C d28_297 (by decide) ?_
      refine Own.iadd C d28_298 ?_
      refine Own.istore (L' := #[.val (.int m), .val (.int a), .val (.int b), .val (.int c), .val (.int d), .val (.int e), .val (.int mode), .val (.int ca), .val (.int cb), .val (.int cc), .val (.int cd), .val (.int ((1 : Int32) + ((e &&& (2147483647 : Int32)) % (127 : Int32)))), .unset, .unset]) C d28_299 rfl ?_
      generalize (1 + (e &&& 2147483647) % 127) = p at hp
      show Go _ K Z _ n0 _ _ 301 #[.val (.int m), .val (.int a), .val (.int b), .val (.int c), .val (.int d), .val (.int e), .val (.int mode), .val (.int ca), .val (.int cb), .val (.int cc), .val (.int cd), .val (.int p), .unset, .unset] [] h0 _ _ _
      refine Own.iload C d28_301 rfl ?_
      refine Own.bipush (v := 6) C d28_303 rfl ?_
      refine icmp_ne C d28_305 (fun q3 => ?_) (fun q3 => ?_)
      · have hz := big_no (ca := ca) (cb := cb) (cc := cc) (j := j + 1)
        refine Own.iload C d28_382 rfl ?_
        refine callS_ C (as := [(.int ca)]) (st := []) (hw _ (List.mem_of_getElem? (i := 108) rfl)) (hw _ (List.mem_of_getElem? (i := 109) rfl)) (hw _ (List.mem_of_getElem? (i := 7) rfl)) (hw _ (List.mem_of_getElem? (i := 110) rfl)) ⟨by decide, by decide⟩ pd__28C_29_5bC rfl (fun O => k_fill129 hw hs ha O) (fun _ q => nomatch q) rfl (dle rfl) (dle rfl) (dle rfl) (dle rfl) d28_384 rfl (fun v4 hp4 gs4 K4 Q4 => ?_)
        obtain ⟨arr, rfl, rfl, hge, A0⟩ := Q4
        show Go _ K Z _ n0 _ _ 387 #[.val (.int m), .val (.int a), .val (.int b), .val (.int c), .val (.int d), .val (.int e), .val (.int mode), .val (.int ca), .val (.int cb), .val (.int cc), .val (.int cd), .val (.int p), .unset, .unset] [(.ref arr)] hp4 _ _ _
        refine Own.astore (L' := #[.val (.int m), .val (.int a), .val (.int b), .val (.int c), .val (.int d), .val (.int e), .val (.int mode), .val (.int ca), .val (.int cb), .val (.int cc), .val (.int cd), .val (.int p), .val (.ref arr), .unset]) C d28_387 rfl rfl ?_
        refine Own.aload C d28_389 rfl rfl ?_
        refine Own.iconst (v := 0) C d28_391 rfl ?_
        refine Own.iload C d28_392 rfl ?_
        refine castore_ C A0 0 (by decide) (by simp) (by simp) d28_394 (fun hp5 W5 A5 => ?_)
        refine Own.aload C d28_395 rfl rfl ?_
        refine Own.iload C d28_397 rfl ?_
        refine Own.iload C d28_399 rfl ?_
        refine castore_ C A5 (j + 1) hp (by simp; omega) (by simp) d28_401 (fun hp6 W6 A6 => ?_)
        have A : Ary Z hp6 arr .char (chs (((List.replicate 129 ca).set 0 cc).set (j + 1) cb)) := by have q := A6; rw [narc_id hc, narc_id hb] at q; simpa [chs, List.map_set] using q
        refine new_ C (hw _ (List.mem_of_getElem? (i := 9) rfl)) (hw _ (List.mem_of_getElem? (i := 10) rfl)) (hw _ (List.mem_of_getElem? (i := 11) rfl)) (dle rfl) (dle rfl) d28_402 (fun hp7 K7 lt7 le7 ⟨E7, F7⟩ => ?_)
        obtain ⟨a1, g7⟩ : ∃ z, z = hp6.size := ⟨_, rfl⟩
        rw [← g7] at E7 F7 lt7 le7 ⊢
        have Fv := F7 (Or.inr (hw _ (List.mem_of_getElem? (i := 37) rfl)) : Laid Z a0 "java/lang/String" "java/lang/String" "value" "[B") (ty := .array .byte) (by decide)
        have Fc := F7 (Or.inr (hw _ (List.mem_of_getElem? (i := 35) rfl)) : Laid Z a0 "java/lang/String" "java/lang/String" "coder" "B") (ty := .byte) (by decide)
        refine Own.dup C d28_405 rfl ?_
        refine Own.aload C d28_406 rfl rfl ?_
        refine callI_ C (as' := [(.ref arr)]) (st := [(.ref a1)]) rfl (hw _ (List.mem_of_getElem? (i := 12) rfl)) (hw _ (List.mem_of_getElem? (i := 13) rfl)) (hw _ (List.mem_of_getElem? (i := 11) rfl)) (hw _ (List.mem_of_getElem? (i := 14) rfl)) ⟨by decide, by decide⟩ pd__28_5bC_29V rfl (fun O => k_init (N := 129) hw hs (set_ch ha hb hc) (by simp) ⟨by simp, by decide⟩ (A.keep K7 nin0) E7 Fv Fc O) (by simp) rfl (dle rfl) (dle rfl) (dle rfl) (dle rfl) d28_408 rfl (fun v8 hp8 gs8 K8 Q8 => ?_)
        obtain ⟨rfl, rfl, S8⟩ := Q8
        show Go _ K Z _ n0 _ _ 411 #[.val (.int m), .val (.int a), .val (.int b), .val (.int c), .val (.int d), .val (.int e), .val (.int mode), .val (.int ca), .val (.int cb), .val (.int cc), .val (.int cd), .val (.int p), .val (.ref arr), .unset] [(.ref a1)] hp8 _ _ _
        refine callS_ C (as := [(.ref a1)]) (st := []) (hw _ (List.mem_of_getElem? (i := 0) rfl)) (hw _ (List.mem_of_getElem? (i := 1) rfl)) (hw _ (List.mem_of_getElem? (i := 2) rfl)) (hw _ (List.mem_of_getElem? (i := 3) rfl)) ⟨by decide, by decide⟩ pd__28Ljava_2flang_2fString_3b_29Z rfl (fun O => k_valid hw hs S8 O) (fun _ q => nomatch q) rfl (dle rfl) (dle rfl) (dle rfl) (dle rfl) d28_411 rfl (fun v9 hp9 gs9 K9 Q9 => ?_)
        obtain ⟨rfl, rfl⟩ := Q9
        rw [hz]
        show Go _ K Z _ n0 _ _ 414 #[.val (.int m), .val (.int a), .val (.int b), .val (.int c), .val (.int d), .val (.int e), .val (.int mode), .val (.int ca), .val (.int cb), .val (.int cc), .val (.int cd), .val (.int p), .val (.ref arr), .unset] [(.int (0 : Int32))] hp9 _ _ _
        refine if_ne C d28_414 (fun q10 => ?_) (fun q10 => ?_)
        · exact absurd rfl q10
        · refine Own.iconst (v := 1) C d28_417 rfl ?_
          refine Own.goto_ C d28_418 ?_
          exact retZ C (gs := []) d28_422 (dle rfl) (dle rfl) (fun _ q => nomatch q) rfl
      · have tail6 : ∀ (h : Heap) (arr : Addr) (s11 : Int32) (s13 : Slot) (ex : Int32) (cs : List Int32) (nn : Nat), nn ≤ 128 → cs.length ≤ 128 → (∀ c ∈ cs, isCh c) → Ary Z h arr .char (chs cs) → ok cs = ex → s13 = .val (.int ex) → Go WD K Z EL0 n0 [] (fun v h gs => v = some (.int 1)) 359 #[.val (.int m), .val (.int a), .val (.int b), .val (.int c), .val (.int d), .val (.int e), .val (.int mode), .val (.int ca), .val (.int cb), .val (.int cc), .val (.int cd), .val (.int s11), .val (.ref arr), s13] [] h [arr] 1 nn := by
          intro h arr s11 s13 ex cs nn hnn hl hcs A hok hs13
          subst hs13
          refine new_ C (hw _ (List.mem_of_getElem? (i := 9) rfl)) (hw _ (List.mem_of_getElem? (i := 10) rfl)) (hw _ (List.mem_of_getElem? (i := 11) rfl)) (dle rfl) (by omega) d28_359 (fun hp11 K11 lt11 le11 ⟨E11, F11⟩ => ?_)
          obtain ⟨a1, g11⟩ : ∃ z, z = h.size := ⟨_, rfl⟩
          rw [← g11] at E11 F11 lt11 le11 ⊢
          have Fv := F11 (Or.inr (hw _ (List.mem_of_getElem? (i := 37) rfl)) : Laid Z a0 "java/lang/String" "java/lang/String" "value" "[B") (ty := .array .byte) (by decide)
          have Fc := F11 (Or.inr (hw _ (List.mem_of_getElem? (i := 35) rfl)) : Laid Z a0 "java/lang/String" "java/lang/String" "coder" "B") (ty := .byte) (by decide)
          refine Own.dup C d28_362 rfl ?_
          refine Own.aload C d28_363 rfl rfl ?_
          refine callI_ C (as' := [(.ref arr)]) (st := [(.ref a1)]) rfl (hw _ (List.mem_of_getElem? (i := 12) rfl)) (hw _ (List.mem_of_getElem? (i := 13) rfl)) (hw _ (List.mem_of_getElem? (i := 11) rfl)) (hw _ (List.mem_of_getElem? (i := 14) rfl)) ⟨by decide, by decide⟩ pd__28_5bC_29V rfl (fun O => k_init (N := 128) hw hs hcs (by omega) ⟨hl, by decide⟩ (A.keep K11 nin0) E11 Fv Fc O) (by simp) rfl (dle rfl) (dle rfl) (dle rfl) (by omega) d28_365 rfl (fun v12 hp12 gs12 K12 Q12 => ?_)
          obtain ⟨rfl, rfl, S12⟩ := Q12
          show Go _ K Z _ n0 _ _ 368 #[.val (.int m), .val (.int a), .val (.int b), .val (.int c), .val (.int d), .val (.int e), .val (.int mode), .val (.int ca), .val (.int cb), .val (.int cc), .val (.int cd), .val (.int s11), .val (.ref arr), .val (.int ex)] [(.ref a1)] hp12 _ _ _
          refine callS_ C (as := [(.ref a1)]) (st := []) (hw _ (List.mem_of_getElem? (i := 0) rfl)) (hw _ (List.mem_of_getElem? (i := 1) rfl)) (hw _ (List.mem_of_getElem? (i := 2) rfl)) (hw _ (List.mem_of_getElem? (i := 3) rfl)) ⟨by decide, by decide⟩ pd__28Ljava_2flang_2fString_3b_29Z rfl (fun O => k_valid hw hs S12 O) (fun _ q => nomatch q) rfl (dle rfl) (dle rfl) (dle rfl) (by omega) d28_368 rfl (fun v13 hp13 gs13 K13 Q13 => ?_)
          obtain ⟨rfl, rfl⟩ := Q13
          rw [hok]
          show Go _ K Z _ n0 _ _ 371 #[.val (.int m), .val (.int a), .val (.int b), .val (.int c), .val (.int d), .val (.int e), .val (.int mode), .val (.int ca), .val (.int cb), .val (.int cc), .val (.int cd), .val (.int s11), .val (.ref arr), .val (.int ex)] [(.int ex)] hp13 _ _ _
          refine Own.iload C d28_371 rfl ?_
          refine icmp_ne C d28_373 (fun q14 => ?_) (fun q14 => ?_)
          · exact absurd rfl q14
          · refine Own.iconst (v := 1) C d28_376 rfl ?_
            refine Own.goto_ C d28_377 ?_
            exact retZ C (gs := []) d28_381 (dle rfl) (by omega) (fun _ q => nomatch q) rfl
        refine Own.iload C d28_308 rfl ?_
        refine callS_ C (as := [(.int ca)]) (st := []) (hw _ (List.mem_of_getElem? (i := 111) rfl)) (hw _ (List.mem_of_getElem? (i := 112) rfl)) (hw _ (List.mem_of_getElem? (i := 7) rfl)) (hw _ (List.mem_of_getElem? (i := 113) rfl)) ⟨by decide, by decide⟩ pd__28C_29_5bC rfl (fun O => k_fill128 hw hs ha O) (fun _ q => nomatch q) rfl (dle rfl) (dle rfl) (dle rfl) (dle rfl) d28_310 rfl (fun v15 hp15 gs15 K15 Q15 => ?_)
        obtain ⟨arr, rfl, rfl, hge, A0⟩ := Q15
        show Go _ K Z _ n0 _ _ 313 #[.val (.int m), .val (.int a), .val (.int b), .val (.int c), .val (.int d), .val (.int e), .val (.int mode), .val (.int ca), .val (.int cb), .val (.int cc), .val (.int cd), .val (.int p), .unset, .unset] [(.ref arr)] hp15 _ _ _
        refine Own.astore (L' := #[.val (.int m), .val (.int a), .val (.int b), .val (.int c), .val (.int d), .val (.int e), .val (.int mode), .val (.int ca), .val (.int cb), .val (.int cc), .val (.int cd), .val (.int p), .val (.ref arr), .unset]) C d28_313 rfl rfl ?_
        refine Own.aload C d28_315 rfl rfl ?_
        refine Own.iconst (v := 0) C d28_317 rfl ?_
        refine Own.iload C d28_318 rfl ?_
        refine castore_ C A0 0 (by decide) (by simp) (by simp) d28_320 (fun hp16 W16 A16 => ?_)
        refine Own.aload C d28_321 rfl rfl ?_
        refine Own.iload C d28_323 rfl ?_
        refine Own.iload C d28_325 rfl ?_
        refine castore_ C A16 (j + 1) hp (by simp; omega) (by simp) d28_327 (fun hp17 W17 A17 => ?_)
        have A : Ary Z hp17 arr .char (chs (((List.replicate 128 ca).set 0 cc).set (j + 1) cb)) := by have q := A17; rw [narc_id hc, narc_id hb] at q; simpa [chs, List.map_set] using q
        refine Own.iload C d28_328 rfl ?_
        refine callS_ C (as := [(.int cc)]) (st := []) (hw _ (List.mem_of_getElem? (i := 5) rfl)) (hw _ (List.mem_of_getElem? (i := 6) rfl)) (hw _ (List.mem_of_getElem? (i := 7) rfl)) (hw _ (List.mem_of_getElem? (i := 8) rfl)) ⟨by decide, by decide⟩ pd__28C_29Z rfl (fun O => k_first hw hs O) (fun _ q => nomatch q) rfl (dle rfl) (dle rfl) (dle rfl) (dle rfl) d28_330 rfl (fun v18 hp18 gs18 K18 Q18 => ?_)
        obtain ⟨rfl, rfl⟩ := Q18
        show Go _ K Z _ n0 _ _ 333 #[.val (.int m), .val (.int a), .val (.int b), .val (.int c), .val (.int d), .val (.int e), .val (.int mode), .val (.int ca), .val (.int cb), .val (.int cc), .val (.int cd), .val (.int p), .val (.ref arr), .unset] [(.int (ld cc))] hp18 _ _ _
        have A := A.keep K18 nin0
        refine if_eq C d28_333 (fun q19 => ?_) (fun q19 => ?_)
        · refine Own.iconst (v := 0) C d28_356 rfl ?_
          refine Own.istore (L' := #[.val (.int m), .val (.int a), .val (.int b), .val (.int c), .val (.int d), .val (.int e), .val (.int mode), .val (.int ca), .val (.int cb), .val (.int cc), .val (.int cd), .val (.int p), .val (.ref arr), .val (.int (0 : Int32))]) C d28_357 rfl ?_
          exact tail6 _ arr p _ 0 _ _ (by decide) (by simp) (set_ch ha hb hc) A (by rw [big_ok hj]; simp [q19]) rfl
        · have l0 : ld cc = 1 := (ld01 cc).resolve_left q19
          refine Own.iload C d28_336 rfl ?_
          refine callS_ C (as := [(.int ca)]) (st := []) (hw _ (List.mem_of_getElem? (i := 114) rfl)) (hw _ (List.mem_of_getElem? (i := 115) rfl)) (hw _ (List.mem_of_getElem? (i := 7) rfl)) (hw _ (List.mem_of_getElem? (i := 116) rfl)) ⟨by decide, by decide⟩ pd__28C_29Z rfl (fun O => k_later hw hs O) (fun _ q => nomatch q) rfl (dle rfl) (dle rfl) (dle rfl) (dle rfl) d28_338 rfl (fun v20 hp20 gs20 K20 Q20 => ?_)
          obtain ⟨rfl, rfl⟩ := Q20
          show Go _ K Z _ n0 _ _ 341 #[.val (.int m), .val (.int a), .val (.int b), .val (.int c), .val (.int d), .val (.int e), .val (.int mode), .val (.int ca), .val (.int cb), .val (.int cc), .val (.int cd), .val (.int p), .val (.ref arr), .unset] [(.int (lt ca))] hp20 _ _ _
          have A := A.keep K20 nin0
          refine if_eq C d28_341 (fun q21 => ?_) (fun q21 => ?_)
          · refine Own.iconst (v := 0) C d28_356 rfl ?_
            refine Own.istore (L' := #[.val (.int m), .val (.int a), .val (.int b), .val (.int c), .val (.int d), .val (.int e), .val (.int mode), .val (.int ca), .val (.int cb), .val (.int cc), .val (.int cd), .val (.int p), .val (.ref arr), .val (.int (0 : Int32))]) C d28_357 rfl ?_
            exact tail6 _ arr p _ 0 _ _ (by decide) (by simp) (set_ch ha hb hc) A (by rw [big_ok hj]; simp [l0, q21]) rfl
          · have l1 : lt ca = 1 := (lt01 ca).resolve_left q21
            refine Own.iload C d28_344 rfl ?_
            refine callS_ C (as := [(.int cb)]) (st := []) (hw _ (List.mem_of_getElem? (i := 114) rfl)) (hw _ (List.mem_of_getElem? (i := 115) rfl)) (hw _ (List.mem_of_getElem? (i := 7) rfl)) (hw _ (List.mem_of_getElem? (i := 116) rfl)) ⟨by decide, by decide⟩ pd__28C_29Z rfl (fun O => k_later hw hs O) (fun _ q => nomatch q) rfl (dle rfl) (dle rfl) (dle rfl) (dle rfl) d28_346 rfl (fun v22 hp22 gs22 K22 Q22 => ?_)
            obtain ⟨rfl, rfl⟩ := Q22
            show Go _ K Z _ n0 _ _ 349 #[.val (.int m), .val (.int a), .val (.int b), .val (.int c), .val (.int d), .val (.int e), .val (.int mode), .val (.int ca), .val (.int cb), .val (.int cc), .val (.int cd), .val (.int p), .val (.ref arr), .unset] [(.int (lt cb))] hp22 _ _ _
            have A := A.keep K22 nin0
            refine if_eq C d28_349 (fun q23 => ?_) (fun q23 => ?_)
            · refine Own.iconst (v := 0) C d28_356 rfl ?_
              refine Own.istore (L' := #[.val (.int m), .val (.int a), .val (.int b), .val (.int c), .val (.int d), .val (.int e), .val (.int mode), .val (.int ca), .val (.int cb), .val (.int cc), .val (.int cd), .val (.int p), .val (.ref arr), .val (.int (0 : Int32))]) C d28_357 rfl ?_
              exact tail6 _ arr p _ 0 _ _ (by decide) (by simp) (set_ch ha hb hc) A (by rw [big_ok hj]; simp [l0, l1, q23]) rfl
            · have l2 : lt cb = 1 := (lt01 cb).resolve_left q23
              refine Own.iconst (v := 1) C d28_352 rfl ?_
              refine Own.goto_ C d28_353 ?_
              refine Own.istore (L' := #[.val (.int m), .val (.int a), .val (.int b), .val (.int c), .val (.int d), .val (.int e), .val (.int mode), .val (.int ca), .val (.int cb), .val (.int cc), .val (.int cd), .val (.int p), .val (.ref arr), .val (.int (1 : Int32))]) C d28_357 rfl ?_
              exact tail6 _ arr p _ 1 _ _ (by decide) (by simp) (set_ch ha hb hc) A (by rw [big_ok hj]; simp [l0, l1, l2]) rfl
    · refine Own.iload C d28_47 rfl ?_
      refine Own.iconst (v := 1) C d28_49 rfl ?_
      refine Own.isub C d28_50 ?_
      refine Own.istore (L' := #[.val (.int m), .val (.int a), .val (.int b), .val (.int c), .val (.int d), .val (.int e), .val (.int mode), .val (.int ca), .val (.int cb), .val (.int cc), .val (.int cd), .val (.int (mode - (1 : Int32))), .unset, .unset]) C d28_51 rfl ?_
      generalize (mode - 1) = n
      show Go _ K Z _ n0 _ _ 53 #[.val (.int m), .val (.int a), .val (.int b), .val (.int c), .val (.int d), .val (.int e), .val (.int mode), .val (.int ca), .val (.int cb), .val (.int cc), .val (.int cd), .val (.int n), .unset, .unset] [] h0 _ _ _
      have tail4 : ∀ (h : Heap) (arr : Addr) (s11 : Int32) (s13 : Slot) (ex : Int32) (cs : List Int32) (nn : Nat), nn ≤ 4 → cs.length ≤ 4 → (∀ c ∈ cs, isCh c) → Ary Z h arr .char (chs cs) → ok cs = ex → s13 = .val (.int ex) → Go WD K Z EL0 n0 [] (fun v h gs => v = some (.int 1)) 266 #[.val (.int m), .val (.int a), .val (.int b), .val (.int c), .val (.int d), .val (.int e), .val (.int mode), .val (.int ca), .val (.int cb), .val (.int cc), .val (.int cd), .val (.int s11), .val (.ref arr), s13] [] h [arr] 1 nn := by
        intro h arr s11 s13 ex cs nn hnn hl hcs A hok hs13
        subst hs13
        refine new_ C (hw _ (List.mem_of_getElem? (i := 9) rfl)) (hw _ (List.mem_of_getElem? (i := 10) rfl)) (hw _ (List.mem_of_getElem? (i := 11) rfl)) (dle rfl) (by omega) d28_266 (fun hp24 K24 lt24 le24 ⟨E24, F24⟩ => ?_)
        obtain ⟨a1, g24⟩ : ∃ z, z = h.size := ⟨_, rfl⟩
        rw [← g24] at E24 F24 lt24 le24 ⊢
        have Fv := F24 (Or.inr (hw _ (List.mem_of_getElem? (i := 37) rfl)) : Laid Z a0 "java/lang/String" "java/lang/String" "value" "[B") (ty := .array .byte) (by decide)
        have Fc := F24 (Or.inr (hw _ (List.mem_of_getElem? (i := 35) rfl)) : Laid Z a0 "java/lang/String" "java/lang/String" "coder" "B") (ty := .byte) (by decide)
        refine Own.dup C d28_269 rfl ?_
        refine Own.aload C d28_270 rfl rfl ?_
        refine callI_ C (as' := [(.ref arr)]) (st := [(.ref a1)]) rfl (hw _ (List.mem_of_getElem? (i := 12) rfl)) (hw _ (List.mem_of_getElem? (i := 13) rfl)) (hw _ (List.mem_of_getElem? (i := 11) rfl)) (hw _ (List.mem_of_getElem? (i := 14) rfl)) ⟨by decide, by decide⟩ pd__28_5bC_29V rfl (fun O => k_init (N := 4) hw hs hcs (by omega) ⟨hl, by decide⟩ (A.keep K24 nin0) E24 Fv Fc O) (by simp) rfl (dle rfl) (dle rfl) (dle rfl) (by omega) d28_272 rfl (fun v25 hp25 gs25 K25 Q25 => ?_)
        obtain ⟨rfl, rfl, S25⟩ := Q25
        show Go _ K Z _ n0 _ _ 275 #[.val (.int m), .val (.int a), .val (.int b), .val (.int c), .val (.int d), .val (.int e), .val (.int mode), .val (.int ca), .val (.int cb), .val (.int cc), .val (.int cd), .val (.int s11), .val (.ref arr), .val (.int ex)] [(.ref a1)] hp25 _ _ _
        refine callS_ C (as := [(.ref a1)]) (st := []) (hw _ (List.mem_of_getElem? (i := 0) rfl)) (hw _ (List.mem_of_getElem? (i := 1) rfl)) (hw _ (List.mem_of_getElem? (i := 2) rfl)) (hw _ (List.mem_of_getElem? (i := 3) rfl)) ⟨by decide, by decide⟩ pd__28Ljava_2flang_2fString_3b_29Z rfl (fun O => k_valid hw hs S25 O) (fun _ q => nomatch q) rfl (dle rfl) (dle rfl) (dle rfl) (by omega) d28_275 rfl (fun v26 hp26 gs26 K26 Q26 => ?_)
        obtain ⟨rfl, rfl⟩ := Q26
        rw [hok]
        show Go _ K Z _ n0 _ _ 278 #[.val (.int m), .val (.int a), .val (.int b), .val (.int c), .val (.int d), .val (.int e), .val (.int mode), .val (.int ca), .val (.int cb), .val (.int cc), .val (.int cd), .val (.int s11), .val (.ref arr), .val (.int ex)] [(.int ex)] hp26 _ _ _
        refine Own.iload C d28_278 rfl ?_
        refine icmp_ne C d28_280 (fun q27 => ?_) (fun q27 => ?_)
        · exact absurd rfl q27
        · refine Own.iconst (v := 1) C d28_283 rfl ?_
          refine Own.goto_ C d28_284 ?_
          exact retZ C (gs := []) d28_288 (dle rfl) (by omega) (fun _ q => nomatch q) rfl
      refine Own.iload C d28_53 rfl ?_
      refine if_ne C d28_55 (fun q28 => ?_) (fun q28 => ?_)
      · refine Own.iload C d28_69 rfl ?_
        refine Own.iconst (v := 1) C d28_71 rfl ?_
        refine icmp_ne C d28_72 (fun q29 => ?_) (fun q29 => ?_)
        · refine Own.iload C d28_95 rfl ?_
          refine Own.iconst (v := 2) C d28_97 rfl ?_
          refine icmp_ne C d28_98 (fun q30 => ?_) (fun q30 => ?_)
          · refine Own.iload C d28_142 rfl ?_
            refine Own.iconst (v := 3) C d28_144 rfl ?_
            refine icmp_ne C d28_145 (fun q31 => ?_) (fun q31 => ?_)
            · refine Own.iconst (v := 4) C d28_202 rfl ?_
              refine newarr C (hw _ (List.mem_of_getElem? (i := 4) rfl)) (by decide) 4 (by decide) (by decide) (dle rfl) (dle rfl) d28_203 (fun hp32 K32 lt32 le32 A32 => ?_)
              obtain ⟨arr, g32⟩ : ∃ z, z = h0.size := ⟨_, rfl⟩
              rw [← g32] at A32 lt32 le32 ⊢
              refine Own.dup C d28_205 rfl ?_
              refine Own.iconst (v := 0) C d28_206 rfl ?_
              refine Own.iload C d28_207 rfl ?_
              refine castore_ C A32 0 (by decide) (dlt rfl) (by simp) d28_209 (fun hp33 W33 A33 => ?_)
              refine Own.dup C d28_210 rfl ?_
              refine Own.iconst (v := 1) C d28_211 rfl ?_
              refine Own.iload C d28_212 rfl ?_
              refine castore_ C A33 1 (by decide) (dlt rfl) (by simp) d28_214 (fun hp34 W34 A34 => ?_)
              refine Own.dup C d28_215 rfl ?_
              refine Own.iconst (v := 2) C d28_216 rfl ?_
              refine Own.iload C d28_217 rfl ?_
              refine castore_ C A34 2 (by decide) (dlt rfl) (by simp) d28_219 (fun hp35 W35 A35 => ?_)
              refine Own.dup C d28_220 rfl ?_
              refine Own.iconst (v := 3) C d28_221 rfl ?_
              refine Own.iload C d28_222 rfl ?_
              refine castore_ C A35 3 (by decide) (dlt rfl) (by simp) d28_224 (fun hp36 W36 A36 => ?_)
              have A : Ary Z hp36 arr .char (chs [ca, cb, cc, cd]) := by have q := A36; simp only [narc_id ha, narc_id hb, narc_id hc, narc_id hd] at q; exact q
              refine Own.astore (L' := #[.val (.int m), .val (.int a), .val (.int b), .val (.int c), .val (.int d), .val (.int e), .val (.int mode), .val (.int ca), .val (.int cb), .val (.int cc), .val (.int cd), .val (.int n), .val (.ref arr), .unset]) C d28_225 rfl rfl ?_
              refine Own.iload C d28_227 rfl ?_
              refine callS_ C (as := [(.int ca)]) (st := []) (hw _ (List.mem_of_getElem? (i := 5) rfl)) (hw _ (List.mem_of_getElem? (i := 6) rfl)) (hw _ (List.mem_of_getElem? (i := 7) rfl)) (hw _ (List.mem_of_getElem? (i := 8) rfl)) ⟨by decide, by decide⟩ pd__28C_29Z rfl (fun O => k_first hw hs O) (fun _ q => nomatch q) rfl (dle rfl) (dle rfl) (dle rfl) (dle rfl) d28_229 rfl (fun v37 hp37 gs37 K37 Q37 => ?_)
              obtain ⟨rfl, rfl⟩ := Q37
              show Go _ K Z _ n0 _ _ 232 #[.val (.int m), .val (.int a), .val (.int b), .val (.int c), .val (.int d), .val (.int e), .val (.int mode), .val (.int ca), .val (.int cb), .val (.int cc), .val (.int cd), .val (.int n), .val (.ref arr), .unset] [(.int (ld ca))] hp37 _ _ _
              have A := A.keep K37 nin0
              refine if_eq C d28_232 (fun q38 => ?_) (fun q38 => ?_)
              · refine Own.iconst (v := 0) C d28_263 rfl ?_
                refine Own.istore (L' := #[.val (.int m), .val (.int a), .val (.int b), .val (.int c), .val (.int d), .val (.int e), .val (.int mode), .val (.int ca), .val (.int cb), .val (.int cc), .val (.int cd), .val (.int n), .val (.ref arr), .val (.int (0 : Int32))]) C d28_264 rfl ?_
                exact tail4 _ arr n _ 0 [ca, cb, cc, cd] _ (dle rfl) (dle rfl) (by simp; exact ⟨ha, hb, hc, hd⟩) A (by simp [ok, vl, q38]) rfl
              · have l0 : ld ca = 1 := (ld01 ca).resolve_left q38
                refine Own.iload C d28_235 rfl ?_
                refine callS_ C (as := [(.int cb)]) (st := []) (hw _ (List.mem_of_getElem? (i := 114) rfl)) (hw _ (List.mem_of_getElem? (i := 115) rfl)) (hw _ (List.mem_of_getElem? (i := 7) rfl)) (hw _ (List.mem_of_getElem? (i := 116) rfl)) ⟨by decide, by decide⟩ pd__28C_29Z rfl (fun O => k_later hw hs O) (fun _ q => nomatch q) rfl (dle rfl) (dle rfl) (dle rfl) (dle rfl) d28_237 rfl (fun v39 hp39 gs39 K39 Q39 => ?_)
                obtain ⟨rfl, rfl⟩ := Q39
                show Go _ K Z _ n0 _ _ 240 #[.val (.int m), .val (.int a), .val (.int b), .val (.int c), .val (.int d), .val (.int e), .val (.int mode), .val (.int ca), .val (.int cb), .val (.int cc), .val (.int cd), .val (.int n), .val (.ref arr), .unset] [(.int (lt cb))] hp39 _ _ _
                have A := A.keep K39 nin0
                refine if_eq C d28_240 (fun q40 => ?_) (fun q40 => ?_)
                · refine Own.iconst (v := 0) C d28_263 rfl ?_
                  refine Own.istore (L' := #[.val (.int m), .val (.int a), .val (.int b), .val (.int c), .val (.int d), .val (.int e), .val (.int mode), .val (.int ca), .val (.int cb), .val (.int cc), .val (.int cd), .val (.int n), .val (.ref arr), .val (.int (0 : Int32))]) C d28_264 rfl ?_
                  exact tail4 _ arr n _ 0 [ca, cb, cc, cd] _ (dle rfl) (dle rfl) (by simp; exact ⟨ha, hb, hc, hd⟩) A (by simp [ok, vl, l0, q40]) rfl
                · have l1 : lt cb = 1 := (lt01 cb).resolve_left q40
                  refine Own.iload C d28_243 rfl ?_
                  refine callS_ C (as := [(.int cc)]) (st := []) (hw _ (List.mem_of_getElem? (i := 114) rfl)) (hw _ (List.mem_of_getElem? (i := 115) rfl)) (hw _ (List.mem_of_getElem? (i := 7) rfl)) (hw _ (List.mem_of_getElem? (i := 116) rfl)) ⟨by decide, by decide⟩ pd__28C_29Z rfl (fun O => k_later hw hs O) (fun _ q => nomatch q) rfl (dle rfl) (dle rfl) (dle rfl) (dle rfl) d28_245 rfl (fun v41 hp41 gs41 K41 Q41 => ?_)
                  obtain ⟨rfl, rfl⟩ := Q41
                  show Go _ K Z _ n0 _ _ 248 #[.val (.int m), .val (.int a), .val (.int b), .val (.int c), .val (.int d), .val (.int e), .val (.int mode), .val (.int ca), .val (.int cb), .val (.int cc), .val (.int cd), .val (.int n), .val (.ref arr), .unset] [(.int (lt cc))] hp41 _ _ _
                  have A := A.keep K41 nin0
                  refine if_eq C d28_248 (fun q42 => ?_) (fun q42 => ?_)
                  · refine Own.iconst (v := 0) C d28_263 rfl ?_
                    refine Own.istore (L' := #[.val (.int m), .val (.int a), .val (.int b), .val (.int c), .val (.int d), .val (.int e), .val (.int mode), .val (.int ca), .val (.int cb), .val (.int cc), .val (.int cd), .val (.int n), .val (.ref arr), .val (.int (0 : Int32))]) C d28_264 rfl ?_
                    exact tail4 _ arr n _ 0 [ca, cb, cc, cd] _ (dle rfl) (dle rfl) (by simp; exact ⟨ha, hb, hc, hd⟩) A (by simp [ok, vl, l0, l1, q42]) rfl
                  · have l2 : lt cc = 1 := (lt01 cc).resolve_left q42
                    refine Own.iload C d28_251 rfl ?_
                    refine callS_ C (as := [(.int cd)]) (st := []) (hw _ (List.mem_of_getElem? (i := 114) rfl)) (hw _ (List.mem_of_getElem? (i := 115) rfl)) (hw _ (List.mem_of_getElem? (i := 7) rfl)) (hw _ (List.mem_of_getElem? (i := 116) rfl)) ⟨by decide, by decide⟩ pd__28C_29Z rfl (fun O => k_later hw hs O) (fun _ q => nomatch q) rfl (dle rfl) (dle rfl) (dle rfl) (dle rfl) d28_253 rfl (fun v43 hp43 gs43 K43 Q43 => ?_)
                    obtain ⟨rfl, rfl⟩ := Q43
                    show Go _ K Z _ n0 _ _ 256 #[.val (.int m), .val (.int a), .val (.int b), .val (.int c), .val (.int d), .val (.int e), .val (.int mode), .val (.int ca), .val (.int cb), .val (.int cc), .val (.int cd), .val (.int n), .val (.ref arr), .unset] [(.int (lt cd))] hp43 _ _ _
                    have A := A.keep K43 nin0
                    refine if_eq C d28_256 (fun q44 => ?_) (fun q44 => ?_)
                    · refine Own.iconst (v := 0) C d28_263 rfl ?_
                      refine Own.istore (L' := #[.val (.int m), .val (.int a), .val (.int b), .val (.int c), .val (.int d), .val (.int e), .val (.int mode), .val (.int ca), .val (.int cb), .val (.int cc), .val (.int cd), .val (.int n), .val (.ref arr), .val (.int (0 : Int32))]) C d28_264 rfl ?_
                      exact tail4 _ arr n _ 0 [ca, cb, cc, cd] _ (dle rfl) (dle rfl) (by simp; exact ⟨ha, hb, hc, hd⟩) A (by simp [ok, vl, l0, l1, l2, q44]) rfl
                    · have l3 : lt cd = 1 := (lt01 cd).resolve_left q44
                      refine Own.iconst (v := 1) C d28_259 rfl ?_
                      refine Own.goto_ C d28_260 ?_
                      refine Own.istore (L' := #[.val (.int m), .val (.int a), .val (.int b), .val (.int c), .val (.int d), .val (.int e), .val (.int mode), .val (.int ca), .val (.int cb), .val (.int cc), .val (.int cd), .val (.int n), .val (.ref arr), .val (.int (1 : Int32))]) C d28_264 rfl ?_
                      exact tail4 _ arr n _ 1 [ca, cb, cc, cd] _ (dle rfl) (dle rfl) (by simp; exact ⟨ha, hb, hc, hd⟩) A (by simp [ok, vl, l0, l1, l2, l3]) rfl
            · refine Own.iconst (v := 3) C d28_148 rfl ?_
              refine newarr C (hw _ (List.mem_of_getElem? (i := 4) rfl)) (by decide) 3 (by decide) (by decide) (dle rfl) (dle rfl) d28_149 (fun hp45 K45 lt45 le45 A45 => ?_)
              obtain ⟨arr, g45⟩ : ∃ z, z = h0.size := ⟨_, rfl⟩
              rw [← g45] at A45 lt45 le45 ⊢
              refine Own.dup C d28_151 rfl ?_
              refine Own.iconst (v := 0) C d28_152 rfl ?_
              refine Own.iload C d28_153 rfl ?_
              refine castore_ C A45 0 (by decide) (dlt rfl) (by simp) d28_155 (fun hp46 W46 A46 => ?_)
              refine Own.dup C d28_156 rfl ?_
              refine Own.iconst (v := 1) C d28_157 rfl ?_
              refine Own.iload C d28_158 rfl ?_
              refine castore_ C A46 1 (by decide) (dlt rfl) (by simp) d28_160 (fun hp47 W47 A47 => ?_)
              refine Own.dup C d28_161 rfl ?_
              refine Own.iconst (v := 2) C d28_162 rfl ?_
              refine Own.iload C d28_163 rfl ?_
              refine castore_ C A47 2 (by decide) (dlt rfl) (by simp) d28_165 (fun hp48 W48 A48 => ?_)
              have A : Ary Z hp48 arr .char (chs [ca, cb, cc]) := by have q := A48; simp only [narc_id ha, narc_id hb, narc_id hc] at q; exact q
              refine Own.astore (L' := #[.val (.int m), .val (.int a), .val (.int b), .val (.int c), .val (.int d), .val (.int e), .val (.int mode), .val (.int ca), .val (.int cb), .val (.int cc), .val (.int cd), .val (.int n), .val (.ref arr), .unset]) C d28_166 rfl rfl ?_
              refine Own.iload C d28_168 rfl ?_
              refine callS_ C (as := [(.int ca)]) (st := []) (hw _ (List.mem_of_getElem? (i := 5) rfl)) (hw _ (List.mem_of_getElem? (i := 6) rfl)) (hw _ (List.mem_of_getElem? (i := 7) rfl)) (hw _ (List.mem_of_getElem? (i := 8) rfl)) ⟨by decide, by decide⟩ pd__28C_29Z rfl (fun O => k_first hw hs O) (fun _ q => nomatch q) rfl (dle rfl) (dle rfl) (dle rfl) (dle rfl) d28_170 rfl (fun v49 hp49 gs49 K49 Q49 => ?_)
              obtain ⟨rfl, rfl⟩ := Q49
              show Go _ K Z _ n0 _ _ 173 #[.val (.int m), .val (.int a), .val (.int b), .val (.int c), .val (.int d), .val (.int e), .val (.int mode), .val (.int ca), .val (.int cb), .val (.int cc), .val (.int cd), .val (.int n), .val (.ref arr), .unset] [(.int (ld ca))] hp49 _ _ _
              have A := A.keep K49 nin0
              refine if_eq C d28_173 (fun q50 => ?_) (fun q50 => ?_)
              · refine Own.iconst (v := 0) C d28_196 rfl ?_
                refine Own.istore (L' := #[.val (.int m), .val (.int a), .val (.int b), .val (.int c), .val (.int d), .val (.int e), .val (.int mode), .val (.int ca), .val (.int cb), .val (.int cc), .val (.int cd), .val (.int n), .val (.ref arr), .val (.int (0 : Int32))]) C d28_197 rfl ?_
                refine Own.goto_ C d28_199 ?_
                exact tail4 _ arr n _ 0 [ca, cb, cc] _ (dle rfl) (dle rfl) (by simp; exact ⟨ha, hb, hc⟩) A (by simp [ok, vl, q50]) rfl
              · have l0 : ld ca = 1 := (ld01 ca).resolve_left q50
                refine Own.iload C d28_176 rfl ?_
                refine callS_ C (as := [(.int cb)]) (st := []) (hw _ (List.mem_of_getElem? (i := 114) rfl)) (hw _ (List.mem_of_getElem? (i := 115) rfl)) (hw _ (List.mem_of_getElem? (i := 7) rfl)) (hw _ (List.mem_of_getElem? (i := 116) rfl)) ⟨by decide, by decide⟩ pd__28C_29Z rfl (fun O => k_later hw hs O) (fun _ q => nomatch q) rfl (dle rfl) (dle rfl) (dle rfl) (dle rfl) d28_178 rfl (fun v51 hp51 gs51 K51 Q51 => ?_)
                obtain ⟨rfl, rfl⟩ := Q51
                show Go _ K Z _ n0 _ _ 181 #[.val (.int m), .val (.int a), .val (.int b), .val (.int c), .val (.int d), .val (.int e), .val (.int mode), .val (.int ca), .val (.int cb), .val (.int cc), .val (.int cd), .val (.int n), .val (.ref arr), .unset] [(.int (lt cb))] hp51 _ _ _
                have A := A.keep K51 nin0
                refine if_eq C d28_181 (fun q52 => ?_) (fun q52 => ?_)
                · refine Own.iconst (v := 0) C d28_196 rfl ?_
                  refine Own.istore (L' := #[.val (.int m), .val (.int a), .val (.int b), .val (.int c), .val (.int d), .val (.int e), .val (.int mode), .val (.int ca), .val (.int cb), .val (.int cc), .val (.int cd), .val (.int n), .val (.ref arr), .val (.int (0 : Int32))]) C d28_197 rfl ?_
                  refine Own.goto_ C d28_199 ?_
                  exact tail4 _ arr n _ 0 [ca, cb, cc] _ (dle rfl) (dle rfl) (by simp; exact ⟨ha, hb, hc⟩) A (by simp [ok, vl, l0, q52]) rfl
                · have l1 : lt cb = 1 := (lt01 cb).resolve_left q52
                  refine Own.iload C d28_184 rfl ?_
                  refine callS_ C (as := [(.int cc)]) (st := []) (hw _ (List.mem_of_getElem? (i := 114) rfl)) (hw _ (List.mem_of_getElem? (i := 115) rfl)) (hw _ (List.mem_of_getElem? (i := 7) rfl)) (hw _ (List.mem_of_getElem? (i := 116) rfl)) ⟨by decide, by decide⟩ pd__28C_29Z rfl (fun O => k_later hw hs O) (fun _ q => nomatch q) rfl (dle rfl) (dle rfl) (dle rfl) (dle rfl) d28_186 rfl (fun v53 hp53 gs53 K53 Q53 => ?_)
                  obtain ⟨rfl, rfl⟩ := Q53
                  show Go _ K Z _ n0 _ _ 189 #[.val (.int m), .val (.int a), .val (.int b), .val (.int c), .val (.int d), .val (.int e), .val (.int mode), .val (.int ca), .val (.int cb), .val (.int cc), .val (.int cd), .val (.int n), .val (.ref arr), .unset] [(.int (lt cc))] hp53 _ _ _
                  have A := A.keep K53 nin0
                  refine if_eq C d28_189 (fun q54 => ?_) (fun q54 => ?_)
                  · refine Own.iconst (v := 0) C d28_196 rfl ?_
                    refine Own.istore (L' := #[.val (.int m), .val (.int a), .val (.int b), .val (.int c), .val (.int d), .val (.int e), .val (.int mode), .val (.int ca), .val (.int cb), .val (.int cc), .val (.int cd), .val (.int n), .val (.ref arr), .val (.int (0 : Int32))]) C d28_197 rfl ?_
                    refine Own.goto_ C d28_199 ?_
                    exact tail4 _ arr n _ 0 [ca, cb, cc] _ (dle rfl) (dle rfl) (by simp; exact ⟨ha, hb, hc⟩) A (by simp [ok, vl, l0, l1, q54]) rfl
                  · have l2 : lt cc = 1 := (lt01 cc).resolve_left q54
                    refine Own.iconst (v := 1) C d28_192 rfl ?_
                    refine Own.goto_ C d28_193 ?_
                    refine Own.istore (L' := #[.val (.int m), .val (.int a), .val (.int b), .val (.int c), .val (.int d), .val (.int e), .val (.int mode), .val (.int ca), .val (.int cb), .val (.int cc), .val (.int cd), .val (.int n), .val (.ref arr), .val (.int (1 : Int32))]) C d28_197 rfl ?_
                    refine Own.goto_ C d28_199 ?_
                    exact tail4 _ arr n _ 1 [ca, cb, cc] _ (dle rfl) (dle rfl) (by simp; exact ⟨ha, hb, hc⟩) A (by simp [ok, vl, l0, l1, l2]) rfl
          · refine Own.iconst (v := 2) C d28_101 rfl ?_
            refine newarr C (hw _ (List.mem_of_getElem? (i := 4) rfl)) (by decide) 2 (by decide) (by decide) (dle rfl) (dle rfl) d28_102 (fun hp55 K55 lt55 le55 A55 => ?_)
            obtain ⟨arr, g55⟩ : ∃ z, z = h0.size := ⟨_, rfl⟩
            rw [← g55] at A55 lt55 le55 ⊢
            refine Own.dup C d28_104 rfl ?_
            refine Own.iconst (v := 0) C d28_105 rfl ?_
            refine Own.iload C d28_106 rfl ?_
            refine castore_ C A55 0 (by decide) (dlt rfl) (by simp) d28_108 (fun hp56 W56 A56 => ?_)
            refine Own.dup C d28_109 rfl ?_
            refine Own.iconst (v := 1) C d28_110 rfl ?_
            refine Own.iload C d28_111 rfl ?_
            refine castore_ C A56 1 (by decide) (dlt rfl) (by simp) d28_113 (fun hp57 W57 A57 => ?_)
            have A : Ary Z hp57 arr .char (chs [ca, cb]) := by have q := A57; simp only [narc_id ha, narc_id hb] at q; exact q
            refine Own.astore (L' := #[.val (.int m), .val (.int a), .val (.int b), .val (.int c), .val (.int d), .val (.int e), .val (.int mode), .val (.int ca), .val (.int cb), .val (.int cc), .val (.int cd), .val (.int n), .val (.ref arr), .unset]) C d28_114 rfl rfl ?_
            refine Own.iload C d28_116 rfl ?_
            refine callS_ C (as := [(.int ca)]) (st := []) (hw _ (List.mem_of_getElem? (i := 5) rfl)) (hw _ (List.mem_of_getElem? (i := 6) rfl)) (hw _ (List.mem_of_getElem? (i := 7) rfl)) (hw _ (List.mem_of_getElem? (i := 8) rfl)) ⟨by decide, by decide⟩ pd__28C_29Z rfl (fun O => k_first hw hs O) (fun _ q => nomatch q) rfl (dle rfl) (dle rfl) (dle rfl) (dle rfl) d28_118 rfl (fun v58 hp58 gs58 K58 Q58 => ?_)
            obtain ⟨rfl, rfl⟩ := Q58
            show Go _ K Z _ n0 _ _ 121 #[.val (.int m), .val (.int a), .val (.int b), .val (.int c), .val (.int d), .val (.int e), .val (.int mode), .val (.int ca), .val (.int cb), .val (.int cc), .val (.int cd), .val (.int n), .val (.ref arr), .unset] [(.int (ld ca))] hp58 _ _ _
            have A := A.keep K58 nin0
            refine if_eq C d28_121 (fun q59 => ?_) (fun q59 => ?_)
            · refine Own.iconst (v := 0) C d28_136 rfl ?_
              refine Own.istore (L' := #[.val (.int m), .val (.int a), .val (.int b), .val (.int c), .val (.int d), .val (.int e), .val (.int mode), .val (.int ca), .val (.int cb), .val (.int cc), .val (.int cd), .val (.int n), .val (.ref arr), .val (.int (0 : Int32))]) C d28_137 rfl ?_
              refine Own.goto_ C d28_139 ?_
              exact tail4 _ arr n _ 0 [ca, cb] _ (dle rfl) (dle rfl) (by simp; exact ⟨ha, hb⟩) A (by simp [ok, vl, q59]) rfl
            · have l0 : ld ca = 1 := (ld01 ca).resolve_left q59
              refine Own.iload C d28_124 rfl ?_
              refine callS_ C (as := [(.int cb)]) (st := []) (hw _ (List.mem_of_getElem? (i := 114) rfl)) (hw _ (List.mem_of_getElem? (i := 115) rfl)) (hw _ (List.mem_of_getElem? (i := 7) rfl)) (hw _ (List.mem_of_getElem? (i := 116) rfl)) ⟨by decide, by decide⟩ pd__28C_29Z rfl (fun O => k_later hw hs O) (fun _ q => nomatch q) rfl (dle rfl) (dle rfl) (dle rfl) (dle rfl) d28_126 rfl (fun v60 hp60 gs60 K60 Q60 => ?_)
              obtain ⟨rfl, rfl⟩ := Q60
              show Go _ K Z _ n0 _ _ 129 #[.val (.int m), .val (.int a), .val (.int b), .val (.int c), .val (.int d), .val (.int e), .val (.int mode), .val (.int ca), .val (.int cb), .val (.int cc), .val (.int cd), .val (.int n), .val (.ref arr), .unset] [(.int (lt cb))] hp60 _ _ _
              have A := A.keep K60 nin0
              refine if_eq C d28_129 (fun q61 => ?_) (fun q61 => ?_)
              · refine Own.iconst (v := 0) C d28_136 rfl ?_
                refine Own.istore (L' := #[.val (.int m), .val (.int a), .val (.int b), .val (.int c), .val (.int d), .val (.int e), .val (.int mode), .val (.int ca), .val (.int cb), .val (.int cc), .val (.int cd), .val (.int n), .val (.ref arr), .val (.int (0 : Int32))]) C d28_137 rfl ?_
                refine Own.goto_ C d28_139 ?_
                exact tail4 _ arr n _ 0 [ca, cb] _ (dle rfl) (dle rfl) (by simp; exact ⟨ha, hb⟩) A (by simp [ok, vl, l0, q61]) rfl
              · have l1 : lt cb = 1 := (lt01 cb).resolve_left q61
                refine Own.iconst (v := 1) C d28_132 rfl ?_
                refine Own.goto_ C d28_133 ?_
                refine Own.istore (L' := #[.val (.int m), .val (.int a), .val (.int b), .val (.int c), .val (.int d), .val (.int e), .val (.int mode), .val (.int ca), .val (.int cb), .val (.int cc), .val (.int cd), .val (.int n), .val (.ref arr), .val (.int (1 : Int32))]) C d28_137 rfl ?_
                refine Own.goto_ C d28_139 ?_
                exact tail4 _ arr n _ 1 [ca, cb] _ (dle rfl) (dle rfl) (by simp; exact ⟨ha, hb⟩) A (by simp [ok, vl, l0, l1]) rfl
        · refine Own.iconst (v := 1) C d28_75 rfl ?_
          refine newarr C (hw _ (List.mem_of_getElem? (i := 4) rfl)) (by decide) 1 (by decide) (by decide) (dle rfl) (dle rfl) d28_76 (fun hp62 K62 lt62 le62 A62 => ?_)
          obtain ⟨arr, g62⟩ : ∃ z, z = h0.size := ⟨_, rfl⟩
          rw [← g62] at A62 lt62 le62 ⊢
          refine Own.dup C d28_78 rfl ?_
          refine Own.iconst (v := 0) C d28_79 rfl ?_
          refine Own.iload C d28_80 rfl ?_
          refine castore_ C A62 0 (by decide) (dlt rfl) (by simp) d28_82 (fun hp63 W63 A63 => ?_)
          have A : Ary Z hp63 arr .char (chs [ca]) := by have q := A63; simp only [narc_id ha] at q; exact q
          refine Own.astore (L' := #[.val (.int m), .val (.int a), .val (.int b), .val (.int c), .val (.int d), .val (.int e), .val (.int mode), .val (.int ca), .val (.int cb), .val (.int cc), .val (.int cd), .val (.int n), .val (.ref arr), .unset]) C d28_83 rfl rfl ?_
          refine Own.iload C d28_85 rfl ?_
          refine callS_ C (as := [(.int ca)]) (st := []) (hw _ (List.mem_of_getElem? (i := 5) rfl)) (hw _ (List.mem_of_getElem? (i := 6) rfl)) (hw _ (List.mem_of_getElem? (i := 7) rfl)) (hw _ (List.mem_of_getElem? (i := 8) rfl)) ⟨by decide, by decide⟩ pd__28C_29Z rfl (fun O => k_first hw hs O) (fun _ q => nomatch q) rfl (dle rfl) (dle rfl) (dle rfl) (dle rfl) d28_87 rfl (fun v64 hp64 gs64 K64 Q64 => ?_)
          obtain ⟨rfl, rfl⟩ := Q64
          show Go _ K Z _ n0 _ _ 90 #[.val (.int m), .val (.int a), .val (.int b), .val (.int c), .val (.int d), .val (.int e), .val (.int mode), .val (.int ca), .val (.int cb), .val (.int cc), .val (.int cd), .val (.int n), .val (.ref arr), .unset] [(.int (ld ca))] hp64 _ _ _
          have A := A.keep K64 nin0
          refine Own.istore (L' := #[.val (.int m), .val (.int a), .val (.int b), .val (.int c), .val (.int d), .val (.int e), .val (.int mode), .val (.int ca), .val (.int cb), .val (.int cc), .val (.int cd), .val (.int n), .val (.ref arr), .val (.int (ld ca))]) C d28_90 rfl ?_
          refine Own.goto_ C d28_92 ?_
          exact tail4 _ arr n _ (ld ca) [ca] _ (dle rfl) (dle rfl) (by simp; exact ha) A (by rcases ld01 ca with z | z <;> simp [ok, vl, z]) rfl
      · refine Own.iconst (v := 0) C d28_58 rfl ?_
        refine newarr C (hw _ (List.mem_of_getElem? (i := 4) rfl)) (by decide) 0 (by decide) (by decide) (dle rfl) (dle rfl) d28_59 (fun hp65 K65 lt65 le65 A65 => ?_)
        obtain ⟨arr, g65⟩ : ∃ z, z = h0.size := ⟨_, rfl⟩
        rw [← g65] at A65 lt65 le65 ⊢
        have A : Ary Z hp65 arr .char (chs []) := A65
        refine Own.astore (L' := #[.val (.int m), .val (.int a), .val (.int b), .val (.int c), .val (.int d), .val (.int e), .val (.int mode), .val (.int ca), .val (.int cb), .val (.int cc), .val (.int cd), .val (.int n), .val (.ref arr), .unset]) C d28_61 rfl rfl ?_
        refine Own.iconst (v := 0) C d28_63 rfl ?_
        refine Own.istore (L' := #[.val (.int m), .val (.int a), .val (.int b), .val (.int c), .val (.int d), .val (.int e), .val (.int mode), .val (.int ca), .val (.int cb), .val (.int cc), .val (.int cd), .val (.int n), .val (.ref arr), .val (.int (0 : Int32))]) C d28_64 rfl ?_
        refine Own.goto_ C d28_66 ?_
        exact tail4 _ arr n _ 0 [] _ (dle rfl) (dle rfl) (by simp) A rfl rfl
  · refine Own.aconstNull C d28_28 ?_
    refine callS_ C (as := [.null]) (st := []) (hw _ (List.mem_of_getElem? (i := 0) rfl)) (hw _ (List.mem_of_getElem? (i := 1) rfl)) (hw _ (List.mem_of_getElem? (i := 2) rfl)) (hw _ (List.mem_of_getElem? (i := 3) rfl)) ⟨by decide, by decide⟩ pd__28Ljava_2flang_2fString_3b_29Z rfl (fun O => k_valid0 hw hs O) (fun _ q => nomatch q) rfl (dle rfl) (dle rfl) (dle rfl) (dle rfl) d28_29 rfl (fun v66 hp66 gs66 K66 Q66 => ?_)
    obtain ⟨rfl, rfl⟩ := Q66
    show Go _ K Z _ n0 _ _ 32 #[.val (.int m), .val (.int a), .val (.int b), .val (.int c), .val (.int d), .val (.int e), .val (.int mode), .val (.int ca), .val (.int cb), .val (.int cc), .val (.int cd), .unset, .unset, .unset] [(.int (0 : Int32))] hp66 _ _ _
    refine if_ne C d28_32 (fun q67 => ?_) (fun q67 => ?_)
    · exact absurd rfl q67
    · refine Own.iconst (v := 1) C d28_35 rfl ?_
      refine Own.goto_ C d28_36 ?_
      exact retZ C (gs := []) d28_40 (dle rfl) (dle rfl) (fun _ q => nomatch q) rfl
set_option maxRecDepth 65536 in
set_option maxHeartbeats 4000000 in
theorem comes_1 {Post : Tables → Env → Array Value → State → Outcome → State → Prop} (hpost : ∀ tb e args s v u, (limb_1_1.after args s (.returned v) u = true ∧ limb_1_2.after args s (.returned v) u = true ∧ True) → ReturnedEndW s (.returned v) u (Jvm.fieldLocs frame_1_writes args s ++ Jvm.arrayLocs frame_1_arrays args s ++ Jvm.staticLocs frame_1_statics s) 24 2176 → Post tb e args s (.returned v) u) :
    ArmFor flags0 classFile x code maxLocals ret World_1 tables_1 room_1 Calls_1 rest_1 Pre_1 Post := by
  intro l hfl _ _ p e ha hc hk s m args below hf hA hF happ hP
  obtain ⟨hcalls, hrest, hpre⟩ := hP
  obtain ⟨-, -, -, hnamed, -, -, -, hat⟩ := (Spec.applies_iff hf).mp happ
  obtain ⟨hg, hn⟩ := and_e (Cond.before_iff.mp (show (Jvm.Cond.and given_1 narrow_1).before args s = true from hpre))
  obtain ⟨h1, h2⟩ := and_e hg
  obtain ⟨j0, h2⟩ := and_e h2
  obtain ⟨j1, h2⟩ := and_e h2
  obtain ⟨j2, h2⟩ := and_e h2
  obtain ⟨j3, h2⟩ := and_e h2
  obtain ⟨j4, h2⟩ := and_e h2
  have j5 := h2
  obtain ⟨w0, w1, w2, w3, w4, w5, rfl⟩ : ∃ w0 w1 w2 w3 w4 w5 : Value, args = #[w0, w1, w2, w3, w4, w5] := by
    have hs : args.size = 6 := by simpa [Cond.value, given_1] using h1
    obtain ⟨L⟩ := args
    match L, hs with
    | [w0, w1, w2, w3, w4, w5], _ => exact ⟨w0, w1, w2, w3, w4, w5, rfl⟩
  have hw := fun d (hd : d ∈ tables_1) => atoms_spec (ws := Jvm.Cond.code x code maxLocals ret :: tables_1) hat d (List.mem_cons_of_mem _ hd)
  obtain ⟨hsets, hown0⟩ := atoms_of _ (rest_1_c_eq ▸ (show rest_1_c.before _ s = true from hrest))
  obtain ⟨x0, f0⟩ := is_v j0
  obtain rfl : w0 = (.int x0) := Option.some.inj f0
  obtain ⟨x1, f1⟩ := is_v j1
  obtain rfl : w1 = (.int x1) := Option.some.inj f1
  obtain ⟨x2, f2⟩ := is_v j2
  obtain rfl : w2 = (.int x2) := Option.some.inj f2
  obtain ⟨x3, f3⟩ := is_v j3
  obtain rfl : w3 = (.int x3) := Option.some.inj f3
  obtain ⟨x4, f4⟩ := is_v j4
  obtain rfl : w4 = (.int x4) := Option.some.inj f4
  obtain ⟨x5, f5⟩ := is_v j5
  obtain rfl : w5 = (.int x5) := Option.some.inj f5
  have n0 := not_v (Cond.before_iff.mp (hsets _ (List.mem_of_getElem? (i := 2) rfl)))
  obtain ⟨i0, e0⟩ := is_v (Cond.before_iff.mp (hsets _ (List.mem_of_getElem? (i := 1) rfl)))
  have S0 : Sta s s.heap "java/lang/String" "COMPACT_STRINGS" "Z" (.int i0) := Sta.start e0 (Or.inl (hsets _ (List.mem_of_getElem? (i := 0) rfl)))
  have c0 : ¬ (i0 = (0 : Int32)) := gotF (Cond.eq_ints e0 (Term.int_eval (0))) n0
  obtain ⟨v1, e1, r1⟩ := isR_v (Cond.before_iff.mp (hsets _ (List.mem_of_getElem? (i := 8) rfl)))
  have S1 : Sta s s.heap "jdk/internal/util/Preconditions" "SIOOBE_FORMATTER" "Ljava/util/function/BiFunction;" v1 := Sta.start e1 (Or.inl (hsets _ (List.mem_of_getElem? (i := 7) rfl)))
  have S2 : Sta s s.heap "java/lang/StringUTF16" "$assertionsDisabled" "Z" (.int 1) := Sta.start (eq_val (Cond.before_iff.mp (hsets _ (List.mem_of_getElem? (i := 12) rfl)))) (Or.inl (hsets _ (List.mem_of_getElem? (i := 11) rfl)))
  have S3 : Sta s s.heap "java/lang/StringUTF16" "HI_BYTE_SHIFT" "I" (.int 0) := Sta.start (eq_val (Cond.before_iff.mp (hsets _ (List.mem_of_getElem? (i := 15) rfl)))) (Or.inl (hsets _ (List.mem_of_getElem? (i := 14) rfl)))
  have S4 : Sta s s.heap "java/lang/StringUTF16" "LO_BYTE_SHIFT" "I" (.int 8) := Sta.start (eq_val (Cond.before_iff.mp (hsets _ (List.mem_of_getElem? (i := 18) rfl)))) (Or.inl (hsets _ (List.mem_of_getElem? (i := 17) rfl)))
  have hCH : CHv s EL0 s.vm s.heap := CHv.start (hEL hw) (fun p hp => (show Jvm.Lit.constHeld s p.1 p.2 from hcalls.1 p hp)) (show Jvm.Lit.compactW.before _ s = true from (hsets _ (List.mem_of_getElem? (i := 2) rfl))) (hw _ (List.mem_of_getElem? (i := 27) rfl)) (hw _ (List.mem_of_getElem? (i := 10) rfl))
  obtain ⟨n, o, h1, h2, h3, v, L, gs, rfl, rfl, N, -, -, -, -, hq⟩ := k_law hw ⟨⟨i0, c0, S0⟩, ⟨v1, r1, S1⟩, S2, S3, S4, trivial⟩ (m := x0) (a := x1) (b := x2) (c := x3) (d := x4) (e := x5) (Old.start s) l tables_1 p e ha hc hk s m _ below hf ((Spec.applies_iff_loose hf).mp happ).1 ⟨rfl, State.Warmed39.refl s, rfl, hCH, fun _ hx => absurd hx List.not_mem_nil⟩ trivial
  refine ⟨n, _, h1, h2, h3, hpost _ _ _ _ _ _ ⟨Cond.after_iff.mpr rfl, Cond.after_iff.mpr (eq_i res_at (Term.int_eval (1)) rfl), trivial⟩ ⟨hq.1, hq.2.1, hq.2.2.1, (hq.2.2.2.sift fun y hy => Or.inr (N y hy)).mono (by decide) (by decide)⟩⟩
theorem main_1_1 : Claimed_1_1 := comes_1 fun _ _ _ _ _ _ h hF => ⟨h.1, hF⟩
theorem main_1_2 : Claimed_1_2 := comes_1 fun _ _ _ _ _ _ h hF => ⟨h.2.1, hF⟩
end Jvm.Pilot.@@N@@
namespace Jvm.Pilot.@@N@@
open Jvm Jvm.ClassFile Sem Op Lib Jvm.Free Jvm.Stand Jvm.Pilot.@@N@@.Jvm.D
/-! MADE BY PROGRAM (witnessworld.py) out of the Statement's table words and the real class files: 20 classes; the members and pool entries that the words name. The judged class is class 1, her method 5. -/
namespace start1
open Jvm.ClassFile
def u (s : String) : CpInfo := .utf8 (stringToUtf16 s)
/-- a pool by its gaps: so many unusable entries, then the entry; so many at the end -/
def gap : Nat → List CpInfo → List CpInfo
  | 0, r => r
  | n + 1, r => .unusable :: gap n r
def poolList (es : List (Nat × CpInfo)) (last : Nat) : List CpInfo := es.foldr (fun e r => gap e.1 (e.2 :: r)) (gap last [])
def pool (es : List (Nat × CpInfo)) (last : Nat) : Array CpInfo := ⟨poolList es last⟩
def fileOf (pool : Array CpInfo) (this : Nat) (attrs : Array Attribute := #[]) (ms : Array MethodInfo := #[]) (fl : Nat := 33) (sup : Nat := 0) (ifs : Array Nat := #[]) (fds : Array FieldInfo := #[]) : ClassFile where
  minorVersion := 0
  majorVersion := 65
  constantPool := pool
  accessFlags := fl
  thisClass := this
  superClass := sup
  interfaces := ifs
  fields := fds
  methods := ms
  attributes := attrs
def plain (name : String) (sup : Option ClassId) : Class where
  name := name
  kind := .ordinary
  loader := none
  accessFlags := 33
  super := sup
  interfaces := #[]
  cf := none
  fields := #[]
  methods := #[]
  instanceTypes := #[]
  staticTypes := #[]
  resolved := #[]
  callSites := []
  init := .initialized
  statics := none
  mirror := none

def pool0 : Array CpInfo := pool [(5, u "<init>"), (0, u "()V"), (1, .class_ 10), (1, u "java/lang/Object")] 113

def k0c0 : Code := { maxStack := 0, maxLocals := 1, code := object_method_1_code, exceptionTable := #[], attributes := #[] }
def k0m0 : Method := { name := "<init>", desc := "()V", sig := { parameters := [], returnType := none }, accessFlags := 1, code := some k0c0 }
/-- java/lang/Object -/
def k0 : Class := { plain "java/lang/Object" none with
  accessFlags := 33
  interfaces := #[]
  cf := some (fileOf pool0 8 #[] #[{ accessFlags := 1, nameIndex := 5, descriptorIndex := 6, attributes := #[] }] 33 0 #[] #[])
  fields := #[]
  methods := #[k0m0]
  instanceTypes := #[]
  staticTypes := #[]
  resolved := Array.replicate 124 none
  statics := none }

def pool1 : Array CpInfo := pool [(2, .class_ 4), (1, u "java/lang/Object"), (0, u "<init>"), (0, u "()V"), (0, .methodref 8 9), (0, .class_ 10), (0, .nameAndType 11 12), (0, u "com/example/keelson/keelson/dataset/DatasetNameIsValidPinLaw"), (0, u "first"), (0, u "(C)Z"), (0, .methodref 14 15), (0, .class_ 16), (0, .nameAndType 17 18), (0, u "com/example/keelson/keelson/dataset/DatasetName"), (0, u "isValid"), (0, u "(Ljava/lang/String;)Z"), (0, .methodref 8 20), (0, .nameAndType 21 12), (0, u "later"), (0, .class_ 23), (0, u "java/lang/String"), (0, .methodref 22 25), (0, .nameAndType 5 26), (0, u "([C)V"), (0, .integer 2147483647), (0, .methodref 8 29), (0, .nameAndType 30 31), (0, u "fill128"), (0, u "(C)[C"), (0, .methodref 8 33), (0, .nameAndType 34 31), (0, u "fill129"), (3, u "law"), (0, u "(IIIIII)Z")] 4

def k1m0 : Method := { name := "<init>", desc := "()V", sig := { parameters := [], returnType := none }, accessFlags := 1, code := none }
def k1c1 : Code := { maxStack := 2, maxLocals := 1, code := method_2_code, exceptionTable := #[], attributes := #[] }
def k1m1 : Method := { name := "first", desc := "(C)Z", sig := { parameters := [.char], returnType := some .boolean }, accessFlags := 10, code := some k1c1 }
def k1c2 : Code := { maxStack := 2, maxLocals := 1, code := method_3_code, exceptionTable := #[], attributes := #[] }
def k1m2 : Method := { name := "later", desc := "(C)Z", sig := { parameters := [.char], returnType := some .boolean }, accessFlags := 10, code := some k1c2 }
def k1c3 : Code := { maxStack := 4, maxLocals := 1, code := method_4_code, exceptionTable := #[], attributes := #[] }
def k1m3 : Method := { name := "fill128", desc := "(C)[C", sig := { parameters := [.char], returnType := some (.array .char) }, accessFlags := 10, code := some k1c3 }
def k1c4 : Code := { maxStack := 4, maxLocals := 1, code := method_5_code, exceptionTable := #[], attributes := #[] }
def k1m4 : Method := { name := "fill129", desc := "(C)[C", sig := { parameters := [.char], returnType := some (.array .char) }, accessFlags := 10, code := some k1c4 }
def k1c5 : Code := { maxStack := 4, maxLocals := 14, code := code, exceptionTable := #[], attributes := #[] }
def k1m5 : Method := { name := "law", desc := "(IIIIII)Z", sig := { parameters := [.int, .int, .int, .int, .int, .int], returnType := some .boolean }, accessFlags := 9, code := some k1c5 }
/-- com/example/keelson/keelson/dataset/DatasetNameIsValidPinLaw -/
def k1 : Class := { plain "com/example/keelson/keelson/dataset/DatasetNameIsValidPinLaw" (some 0) with
  accessFlags := 49
  interfaces := #[]
  cf := some (fileOf pool1 8 #[] #[{ accessFlags := 1, nameIndex := 5, descriptorIndex := 6, attributes := #[] }, { accessFlags := 10, nameIndex := 11, descriptorIndex := 12, attributes := #[] }, { accessFlags := 10, nameIndex := 21, descriptorIndex := 12, attributes := #[] }, { accessFlags := 10, nameIndex := 30, descriptorIndex := 31, attributes := #[] }, { accessFlags := 10, nameIndex := 34, descriptorIndex := 31, attributes := #[] }, { accessFlags := 9, nameIndex := 38, descriptorIndex := 39, attributes := #[] }] 49 2 #[] #[])
  fields := #[]
  methods := #[k1m0, k1m1, k1m2, k1m3, k1m4, k1m5]
  instanceTypes := #[]
  staticTypes := #[]
  resolved := Array.replicate 44 none
  statics := none }

def pool2 : Array CpInfo := pool [(2, .class_ 4), (1, u "java/lang/Object"), (0, u "<init>"), (0, u "()V"), (0, .methodref 8 9), (0, .class_ 10), (0, .nameAndType 11 12), (0, u "java/lang/String"), (0, u "isEmpty"), (0, u "()Z"), (0, .methodref 8 14), (0, .nameAndType 15 16), (0, u "length"), (0, u "()I"), (0, .class_ 18), (0, u "com/example/keelson/keelson/dataset/DatasetName"), (0, .methodref 8 20), (0, .nameAndType 21 22), (0, u "charAt"), (0, u "(I)C"), (0, .methodref 17 24), (0, .nameAndType 25 26), (0, u "isLetterOrDigit"), (0, u "(C)Z"), (0, u "LONGEST"), (0, u "I"), (4, u "isValid"), (0, u "(Ljava/lang/String;)Z")] 3

def k2m0 : Method := { name := "<init>", desc := "()V", sig := { parameters := [], returnType := none }, accessFlags := 2, code := none }
def k2c1 : Code := { maxStack := 3, maxLocals := 4, code := prog_10_method_2_code, exceptionTable := #[], attributes := #[] }
def k2m1 : Method := { name := "isValid", desc := "(Ljava/lang/String;)Z", sig := { parameters := [(.object "java/lang/String")], returnType := some .boolean }, accessFlags := 9, code := some k2c1 }
def k2c2 : Code := { maxStack := 2, maxLocals := 1, code := prog_10_method_3_code, exceptionTable := #[], attributes := #[] }
def k2m2 : Method := { name := "isLetterOrDigit", desc := "(C)Z", sig := { parameters := [.char], returnType := some .boolean }, accessFlags := 10, code := some k2c2 }
/-- com/example/keelson/keelson/dataset/DatasetName -/
def k2 : Class := { plain "com/example/keelson/keelson/dataset/DatasetName" (some 0) with
  accessFlags := 33
  interfaces := #[]
  cf := some (fileOf pool2 17 #[] #[{ accessFlags := 2, nameIndex := 5, descriptorIndex := 6, attributes := #[] }, { accessFlags := 9, nameIndex := 33, descriptorIndex := 34, attributes := #[] }, { accessFlags := 10, nameIndex := 25, descriptorIndex := 26, attributes := #[] }] 33 2 #[] #[{ accessFlags := 26, nameIndex := 27, descriptorIndex := 28, attributes := #[] }])
  fields := #[{ name := "LONGEST", type := .int, accessFlags := 26, slot := 0, constantValue := 0 }]
  methods := #[k2m0, k2m1, k2m2]
  instanceTypes := #[]
  staticTypes := #[.int]
  resolved := Array.replicate 38 none
  statics := none }

def pool3 : Array CpInfo := pool [(1, .class_ 2), (0, u "java/io/Serializable"), (0, .class_ 4), (0, u "java/lang/Object")] 2

/-- java/io/Serializable -/
def k3 : Class := { plain "java/io/Serializable" (some 0) with
  accessFlags := 1537
  interfaces := #[]
  cf := some (fileOf pool3 1 #[] #[] 1537 3 #[] #[])
  fields := #[]
  methods := #[]
  instanceTypes := #[]
  staticTypes := #[]
  resolved := Array.replicate 7 none
  statics := none }

def pool4 : Array CpInfo := pool [(1, .class_ 2), (0, u "java/lang/Comparable"), (0, .class_ 4), (0, u "java/lang/Object")] 7

/-- java/lang/Comparable -/
def k4 : Class := { plain "java/lang/Comparable" (some 0) with
  accessFlags := 1537
  interfaces := #[]
  cf := some (fileOf pool4 1 #[] #[] 1537 3 #[] #[])
  fields := #[]
  methods := #[]
  instanceTypes := #[]
  staticTypes := #[]
  resolved := Array.replicate 12 none
  statics := none }

def pool5 : Array CpInfo := pool [(2, .class_ 4), (1, u "java/lang/CharSequence"), (42, .class_ 48), (0, u "java/lang/CharSequence$1CodePointIterator"), (10, .class_ 60), (0, u "java/lang/CharSequence$1CharIterator"), (5, .class_ 67), (0, u "java/lang/Object")] 63

/-- java/lang/CharSequence -/
def k5 : Class := { plain "java/lang/CharSequence" (some 0) with
  accessFlags := 1537
  interfaces := #[]
  cf := some (fileOf pool5 2 #[.nestMembers #[47, 59]] #[] 1537 66 #[] #[])
  fields := #[]
  methods := #[]
  instanceTypes := #[]
  staticTypes := #[]
  resolved := Array.replicate 131 none
  statics := none }

def pool6 : Array CpInfo := pool [(1, .class_ 2), (0, u "java/lang/constant/Constable"), (0, .class_ 4), (0, u "java/lang/Object")] 6

/-- java/lang/constant/Constable -/
def k6 : Class := { plain "java/lang/constant/Constable" (some 0) with
  accessFlags := 1537
  interfaces := #[]
  cf := some (fileOf pool6 1 #[] #[] 1537 3 #[] #[])
  fields := #[]
  methods := #[]
  instanceTypes := #[]
  staticTypes := #[]
  resolved := Array.replicate 11 none
  statics := none }

def pool7 : Array CpInfo := pool [(1, .class_ 2), (0, u "java/lang/constant/ConstantDesc"), (0, .class_ 4), (0, u "java/lang/Object")] 32

/-- java/lang/constant/ConstantDesc -/
def k7 : Class := { plain "java/lang/constant/ConstantDesc" (some 0) with
  accessFlags := 1537
  interfaces := #[]
  cf := some (fileOf pool7 1 #[] #[] 1537 3 #[] #[])
  fields := #[]
  methods := #[]
  instanceTypes := #[]
  staticTypes := #[]
  resolved := Array.replicate 37 none
  statics := none }

def pool8 : Array CpInfo := pool [(1, .methodref 2 3), (0, .class_ 4), (0, .nameAndType 5 6), (0, u "java/lang/Object"), (0, u "<init>"), (0, u "()V"), (0, .string 8), (0, u ""), (0, .fieldref 10 11), (0, .class_ 12), (0, .nameAndType 13 14), (0, u "java/lang/String"), (0, u "value"), (0, u "[B"), (0, .fieldref 10 16), (0, .nameAndType 17 18), (0, u "coder"), (0, u "B"), (2, u "hash"), (0, u "I"), (2, u "hashIsZero"), (0, u "Z"), (0, .methodref 10 28), (0, .nameAndType 5 29), (0, u "([CIILjava/lang/Void;)V"), (8, .fieldref 10 39), (0, .nameAndType 40 26), (0, u "COMPACT_STRINGS"), (1, .class_ 44), (1, u "java/lang/StringUTF16"), (0, u "compress"), (1, .methodref 42 48), (0, .nameAndType 49 50), (0, u "coderFromArrayLen"), (0, u "([BI)B"), (56, .class_ 109), (1, u "java/lang/StringLatin1"), (32, u "()Z"), (34, .methodref 42 178), (0, .nameAndType 45 179), (0, u "([CII)[B"), (154, u "()I"), (0, .methodref 10 336), (0, .nameAndType 17 337), (0, u "()B"), (25, u "([BI)C"), (27, u "(II)V"), (35, u "(I)C"), (64, .methodref 10 493), (0, .nameAndType 494 142), (0, u "isLatin1"), (0, .methodref 107 496), (0, .nameAndType 497 363), (0, u "charAt"), (0, .methodref 42 496), (2, u "checkIndex"), (5, u "length"), (67, .class_ 576), (0, u "java/lang/CharSequence"), (22, u "CASE_INSENSITIVE_ORDER"), (0, u "Ljava/util/Comparator;"), (91, u "isEmpty"), (317, u "([C)V"), (42, .fieldref 1054 1055), (0, .class_ 1056), (0, .nameAndType 1057 1058), (0, u "jdk/internal/util/Preconditions"), (0, u "SIOOBE_FORMATTER"), (0, u "Ljava/util/function/BiFunction;"), (0, .methodref 1054 1060), (0, .nameAndType 501 1061), (0, u "(IILjava/util/function/BiFunction;)I"), (39, u "serialPersistentFields"), (0, u "[Ljava/io/ObjectStreamField;"), (0, .class_ 1104), (0, u "java/lang/String$CaseInsensitiveComparator"), (1, .class_ 1107), (0, u "java/io/Serializable"), (0, .class_ 1109), (0, u "java/lang/Comparable"), (0, .class_ 1111), (0, u "java/lang/constant/Constable"), (0, .class_ 1113), (0, u "java/lang/constant/ConstantDesc"), (2, u "serialVersionUID"), (0, u "J"), (3, u "REPL"), (0, u "C"), (2, u "LATIN1"), (1, u "UTF16")] 323

def k8m0 : Method := { name := "<init>", desc := "()V", sig := { parameters := [], returnType := none }, accessFlags := 1, code := none }
def k8c1 : Code := { maxStack := 5, maxLocals := 2, code := jdk_42_method_3_code, exceptionTable := #[], attributes := #[] }
def k8m1 : Method := { name := "<init>", desc := "([C)V", sig := { parameters := [(.array .char)], returnType := none }, accessFlags := 1, code := some k8c1 }
def k8c2 : Code := { maxStack := 2, maxLocals := 1, code := jdk_42_method_54_code, exceptionTable := #[], attributes := #[] }
def k8m2 : Method := { name := "length", desc := "()I", sig := { parameters := [], returnType := some .int }, accessFlags := 1, code := some k8c2 }
def k8c3 : Code := { maxStack := 1, maxLocals := 1, code := jdk_42_method_55_code, exceptionTable := #[], attributes := #[] }
def k8m3 : Method := { name := "isEmpty", desc := "()Z", sig := { parameters := [], returnType := some .boolean }, accessFlags := 1, code := some k8c3 }
def k8c4 : Code := { maxStack := 2, maxLocals := 2, code := jdk_42_method_56_code, exceptionTable := #[], attributes := #[] }
def k8m4 : Method := { name := "charAt", desc := "(I)C", sig := { parameters := [.int], returnType := some .char }, accessFlags := 1, code := some k8c4 }
def k8c5 : Code := { maxStack := 4, maxLocals := 6, code := jdk_42_method_149_code, exceptionTable := #[], attributes := #[] }
def k8m5 : Method := { name := "<init>", desc := "([CIILjava/lang/Void;)V", sig := { parameters := [(.array .char), .int, .int, (.object "java/lang/Void")], returnType := none }, accessFlags := 2, code := some k8c5 }
def k8c6 : Code := { maxStack := 1, maxLocals := 1, code := jdk_42_method_152_code, exceptionTable := #[], attributes := #[] }
def k8m6 : Method := { name := "coder", desc := "()B", sig := { parameters := [], returnType := some .byte }, accessFlags := 0, code := some k8c6 }
def k8c7 : Code := { maxStack := 1, maxLocals := 1, code := jdk_42_method_154_code, exceptionTable := #[], attributes := #[] }
def k8m7 : Method := { name := "isLatin1", desc := "()Z", sig := { parameters := [], returnType := some .boolean }, accessFlags := 0, code := some k8c7 }
def k8c8 : Code := { maxStack := 3, maxLocals := 2, code := jdk_42_method_155_code, exceptionTable := #[], attributes := #[] }
def k8m8 : Method := { name := "checkIndex", desc := "(II)V", sig := { parameters := [.int, .int], returnType := none }, accessFlags := 8, code := some k8c8 }
/-- java/lang/String -/
def k8 : Class := { plain "java/lang/String" (some 0) with
  accessFlags := 49
  interfaces := #[3, 4, 5, 6, 7]
  cf := some (fileOf pool8 10 #[.nestMembers #[1103]] #[{ accessFlags := 1, nameIndex := 5, descriptorIndex := 6, attributes := #[] }, { accessFlags := 1, nameIndex := 5, descriptorIndex := 1010, attributes := #[] }, { accessFlags := 1, nameIndex := 507, descriptorIndex := 334, attributes := #[] }, { accessFlags := 1, nameIndex := 692, descriptorIndex := 142, attributes := #[] }, { accessFlags := 1, nameIndex := 497, descriptorIndex := 427, attributes := #[] }, { accessFlags := 2, nameIndex := 5, descriptorIndex := 29, attributes := #[] }, { accessFlags := 0, nameIndex := 17, descriptorIndex := 337, attributes := #[] }, { accessFlags := 0, nameIndex := 494, descriptorIndex := 142, attributes := #[] }, { accessFlags := 8, nameIndex := 501, descriptorIndex := 391, attributes := #[] }] 49 2 #[1106, 1108, 575, 1110, 1112] #[{ accessFlags := 18, nameIndex := 13, descriptorIndex := 14, attributes := #[] }, { accessFlags := 18, nameIndex := 17, descriptorIndex := 18, attributes := #[] }, { accessFlags := 2, nameIndex := 21, descriptorIndex := 22, attributes := #[] }, { accessFlags := 2, nameIndex := 25, descriptorIndex := 26, attributes := #[] }, { accessFlags := 26, nameIndex := 1116, descriptorIndex := 1117, attributes := #[] }, { accessFlags := 24, nameIndex := 40, descriptorIndex := 26, attributes := #[] }, { accessFlags := 26, nameIndex := 1101, descriptorIndex := 1102, attributes := #[] }, { accessFlags := 26, nameIndex := 1121, descriptorIndex := 1122, attributes := #[] }, { accessFlags := 25, nameIndex := 599, descriptorIndex := 600, attributes := #[] }, { accessFlags := 24, nameIndex := 1125, descriptorIndex := 18, attributes := #[] }, { accessFlags := 24, nameIndex := 1127, descriptorIndex := 18, attributes := #[] }])
  fields := #[{ name := "value", type := (.array .byte), accessFlags := 18, slot := 0, constantValue := 0 }, { name := "coder", type := .byte, accessFlags := 18, slot := 1, constantValue := 0 }, { name := "hash", type := .int, accessFlags := 2, slot := 2, constantValue := 0 }, { name := "hashIsZero", type := .boolean, accessFlags := 2, slot := 3, constantValue := 0 }, { name := "serialVersionUID", type := .long, accessFlags := 26, slot := 0, constantValue := 0 }, { name := "COMPACT_STRINGS", type := .boolean, accessFlags := 24, slot := 1, constantValue := 0 }, { name := "serialPersistentFields", type := (.array (.object "java/io/ObjectStreamField")), accessFlags := 26, slot := 2, constantValue := 0 }, { name := "REPL", type := .char, accessFlags := 26, slot := 3, constantValue := 0 }, { name := "CASE_INSENSITIVE_ORDER", type := (.object "java/util/Comparator"), accessFlags := 25, slot := 4, constantValue := 0 }, { name := "LATIN1", type := .byte, accessFlags := 24, slot := 5, constantValue := 0 }, { name := "UTF16", type := .byte, accessFlags := 24, slot := 6, constantValue := 0 }]
  methods := #[k8m0, k8m1, k8m2, k8m3, k8m4, k8m5, k8m6, k8m7, k8m8]
  instanceTypes := #[(.array .byte), .byte, .int, .boolean]
  staticTypes := #[.long, .boolean, (.array (.object "java/io/ObjectStreamField")), .char, (.object "java/util/Comparator"), .byte, .byte]
  resolved := Array.replicate 1451 none
  statics := some 0 }

def pool9 : Array CpInfo := pool [(3, .class_ 4), (0, u "java/lang/String"), (1, .class_ 8), (1, u "java/lang/Object"), (0, u "<init>"), (0, u "()V"), (0, .methodref 12 13), (0, .class_ 14), (0, .nameAndType 15 16), (0, u "java/lang/StringUTF16"), (0, u "newBytesLength"), (0, u "(I)I"), (3, .integer 1073741823), (23, .fieldref 12 45), (0, .nameAndType 46 47), (0, u "$assertionsDisabled"), (0, u "Z"), (0, .methodref 12 49), (0, .nameAndType 50 51), (0, u "length"), (0, u "([B)I"), (7, .fieldref 12 60), (0, .nameAndType 61 62), (0, u "HI_BYTE_SHIFT"), (0, u "I"), (0, .fieldref 12 64), (0, .nameAndType 65 62), (0, u "LO_BYTE_SHIFT"), (1, .methodref 12 68), (0, .nameAndType 69 70), (0, u "checkIndex"), (0, u "(I[B)V"), (0, .methodref 12 72), (0, .nameAndType 73 74), (0, u "getChar"), (0, u "([BI)C"), (32, .methodref 12 108), (0, .nameAndType 109 110), (0, u "newBytesFor"), (0, u "(I)[B"), (0, .methodref 12 112), (0, .nameAndType 113 114), (0, u "putChar"), (0, u "([BII)V"), (0, .methodref 12 116), (0, .nameAndType 117 118), (0, u "compress"), (0, u "([CI[BII)I"), (0, .methodref 12 120), (0, .nameAndType 121 122), (0, u "toBytes"), (0, u "([CII)[B"), (138, u "coderFromArrayLen"), (0, u "([BI)B"), (106, .class_ 371), (1, u "java/lang/StringUTF16$LinesSpliterator"), (20, u "charAt"), (21, .methodref 3 415), (0, .nameAndType 69 416), (0, u "(II)V"), (13, u "MAX_LENGTH"), (196, .class_ 628), (0, u "java/lang/StringUTF16$CodePointsSpliterator"), (0, .class_ 630), (0, u "java/lang/StringUTF16$CharsSpliterator")] 4

def k9m0 : Method := { name := "<init>", desc := "()V", sig := { parameters := [], returnType := none }, accessFlags := 0, code := none }
def k9c1 : Code := { maxStack := 1, maxLocals := 1, code := jdk_52_method_2_code, exceptionTable := #[], attributes := #[] }
def k9m1 : Method := { name := "newBytesFor", desc := "(I)[B", sig := { parameters := [.int], returnType := some (.array .byte) }, accessFlags := 9, code := some k9c1 }
def k9c2 : Code := { maxStack := 4, maxLocals := 1, code := jdk_52_method_3_code, exceptionTable := #[], attributes := #[] }
def k9m2 : Method := { name := "newBytesLength", desc := "(I)I", sig := { parameters := [.int], returnType := some .int }, accessFlags := 9, code := some k9c2 }
def k9c3 : Code := { maxStack := 4, maxLocals := 3, code := jdk_52_method_4_code, exceptionTable := #[], attributes := #[] }
def k9m3 : Method := { name := "putChar", desc := "([BII)V", sig := { parameters := [(.array .byte), .int, .int], returnType := none }, accessFlags := 8, code := some k9c3 }
def k9c4 : Code := { maxStack := 3, maxLocals := 2, code := jdk_52_method_5_code, exceptionTable := #[], attributes := #[] }
def k9m4 : Method := { name := "getChar", desc := "([BI)C", sig := { parameters := [(.array .byte), .int], returnType := some .char }, accessFlags := 8, code := some k9c4 }
def k9c5 : Code := { maxStack := 2, maxLocals := 1, code := jdk_52_method_6_code, exceptionTable := #[], attributes := #[] }
def k9m5 : Method := { name := "length", desc := "([B)I", sig := { parameters := [(.array .byte)], returnType := some .int }, accessFlags := 9, code := some k9c5 }
def k9c6 : Code := { maxStack := 4, maxLocals := 5, code := jdk_52_method_14_code, exceptionTable := #[], attributes := #[] }
def k9m6 : Method := { name := "toBytes", desc := "([CII)[B", sig := { parameters := [(.array .char), .int, .int], returnType := some (.array .byte) }, accessFlags := 9, code := some k9c6 }
def k9c7 : Code := { maxStack := 2, maxLocals := 2, code := jdk_52_method_15_code, exceptionTable := #[], attributes := #[] }
def k9m7 : Method := { name := "coderFromArrayLen", desc := "([BI)B", sig := { parameters := [(.array .byte), .int], returnType := some .byte }, accessFlags := 8, code := some k9c7 }
def k9c8 : Code := { maxStack := 5, maxLocals := 6, code := jdk_52_method_16_code, exceptionTable := #[], attributes := #[] }
def k9m8 : Method := { name := "compress", desc := "([CII)[B", sig := { parameters := [(.array .char), .int, .int], returnType := some (.array .byte) }, accessFlags := 9, code := some k9c8 }
def k9c9 : Code := { maxStack := 3, maxLocals := 7, code := jdk_52_method_21_code, exceptionTable := #[], attributes := #[] }
def k9m9 : Method := { name := "compress", desc := "([CI[BII)I", sig := { parameters := [(.array .char), .int, (.array .byte), .int, .int], returnType := some .int }, accessFlags := 9, code := some k9c9 }
def k9c10 : Code := { maxStack := 2, maxLocals := 2, code := jdk_52_method_83_code, exceptionTable := #[], attributes := #[] }
def k9m10 : Method := { name := "charAt", desc := "([BI)C", sig := { parameters := [(.array .byte), .int], returnType := some .char }, accessFlags := 9, code := some k9c10 }
def k9c11 : Code := { maxStack := 2, maxLocals := 2, code := jdk_52_method_91_code, exceptionTable := #[], attributes := #[] }
def k9m11 : Method := { name := "checkIndex", desc := "(I[B)V", sig := { parameters := [.int, (.array .byte)], returnType := none }, accessFlags := 9, code := some k9c11 }
/-- java/lang/StringUTF16 -/
def k9 : Class := { plain "java/lang/StringUTF16" (some 0) with
  accessFlags := 48
  interfaces := #[]
  cf := some (fileOf pool9 12 #[.nestMembers #[627, 629, 369]] #[{ accessFlags := 0, nameIndex := 9, descriptorIndex := 10, attributes := #[] }, { accessFlags := 9, nameIndex := 109, descriptorIndex := 110, attributes := #[] }, { accessFlags := 9, nameIndex := 15, descriptorIndex := 16, attributes := #[] }, { accessFlags := 8, nameIndex := 113, descriptorIndex := 114, attributes := #[] }, { accessFlags := 8, nameIndex := 73, descriptorIndex := 74, attributes := #[] }, { accessFlags := 9, nameIndex := 50, descriptorIndex := 51, attributes := #[] }, { accessFlags := 9, nameIndex := 121, descriptorIndex := 122, attributes := #[] }, { accessFlags := 8, nameIndex := 261, descriptorIndex := 262, attributes := #[] }, { accessFlags := 9, nameIndex := 117, descriptorIndex := 122, attributes := #[] }, { accessFlags := 9, nameIndex := 117, descriptorIndex := 118, attributes := #[] }, { accessFlags := 9, nameIndex := 392, descriptorIndex := 74, attributes := #[] }, { accessFlags := 9, nameIndex := 69, descriptorIndex := 70, attributes := #[] }] 48 6 #[] #[{ accessFlags := 26, nameIndex := 61, descriptorIndex := 62, attributes := #[] }, { accessFlags := 26, nameIndex := 65, descriptorIndex := 62, attributes := #[] }, { accessFlags := 24, nameIndex := 430, descriptorIndex := 62, attributes := #[] }, { accessFlags := 4120, nameIndex := 46, descriptorIndex := 47, attributes := #[] }])
  fields := #[{ name := "HI_BYTE_SHIFT", type := .int, accessFlags := 26, slot := 0, constantValue := 0 }, { name := "LO_BYTE_SHIFT", type := .int, accessFlags := 26, slot := 1, constantValue := 0 }, { name := "MAX_LENGTH", type := .int, accessFlags := 24, slot := 2, constantValue := 0 }, { name := "$assertionsDisabled", type := .boolean, accessFlags := 4120, slot := 3, constantValue := 0 }]
  methods := #[k9m0, k9m1, k9m2, k9m3, k9m4, k9m5, k9m6, k9m7, k9m8, k9m9, k9m10, k9m11]
  instanceTypes := #[]
  staticTypes := #[.int, .int, .int, .boolean]
  resolved := Array.replicate 635 none
  statics := some 1 }

def pool10 : Array CpInfo := pool [(1, .class_ 2), (0, u "java/lang/String"), (1, .class_ 6), (1, u "java/lang/Object"), (0, u "<init>"), (0, u "()V"), (0, .methodref 1 10), (0, .nameAndType 11 12), (0, u "checkIndex"), (0, u "(II)V"), (1, .class_ 16), (1, u "java/lang/StringLatin1"), (36, u "([BI)C"), (67, u "$assertionsDisabled"), (0, u "Z"), (98, .class_ 223), (1, u "java/lang/StringLatin1$LinesSpliterator"), (28, u "charAt"), (137, .class_ 391), (0, u "java/lang/StringLatin1$CharsSpliterator")] 3

def k10m0 : Method := { name := "<init>", desc := "()V", sig := { parameters := [], returnType := none }, accessFlags := 0, code := none }
def k10c1 : Code := { maxStack := 2, maxLocals := 2, code := jdk_43_method_2_code, exceptionTable := #[], attributes := #[] }
def k10m1 : Method := { name := "charAt", desc := "([BI)C", sig := { parameters := [(.array .byte), .int], returnType := some .char }, accessFlags := 9, code := some k10c1 }
/-- java/lang/StringLatin1 -/
def k10 : Class := { plain "java/lang/StringLatin1" (some 0) with
  accessFlags := 48
  interfaces := #[]
  cf := some (fileOf pool10 14 #[.nestMembers #[390, 221]] #[{ accessFlags := 0, nameIndex := 7, descriptorIndex := 8, attributes := #[] }, { accessFlags := 9, nameIndex := 252, descriptorIndex := 53, attributes := #[] }] 48 4 #[] #[{ accessFlags := 4120, nameIndex := 121, descriptorIndex := 122, attributes := #[] }])
  fields := #[{ name := "$assertionsDisabled", type := .boolean, accessFlags := 4120, slot := 0, constantValue := 0 }]
  methods := #[k10m0, k10m1]
  instanceTypes := #[]
  staticTypes := #[.boolean]
  resolved := Array.replicate 395 none
  statics := none }

def pool11 : Array CpInfo := pool [(2, .class_ 4), (1, u "java/lang/Object"), (0, u "<init>"), (0, u "()V"), (17, .class_ 26), (1, u "jdk/internal/util/Preconditions"), (6, u "checkIndex"), (21, .class_ 56), (0, u "jdk/internal/util/Preconditions$4"), (57, .class_ 115), (0, u "jdk/internal/util/Preconditions$1"), (7, u "SIOOBE_FORMATTER"), (0, u "Ljava/util/function/BiFunction;"), (0, .class_ 126), (0, u "jdk/internal/util/Preconditions$2"), (3, u "AIOOBE_FORMATTER"), (0, .class_ 132), (0, u "jdk/internal/util/Preconditions$3"), (3, u "IOOBE_FORMATTER"), (41, u "(IILjava/util/function/BiFunction;)I")] 15

def k11m0 : Method := { name := "<init>", desc := "()V", sig := { parameters := [], returnType := none }, accessFlags := 1, code := none }
def k11c1 : Code := { maxStack := 3, maxLocals := 3, code := jdk_41_method_11_code, exceptionTable := #[], attributes := #[] }
def k11m1 : Method := { name := "checkIndex", desc := "(IILjava/util/function/BiFunction;)I", sig := { parameters := [.int, .int, (.object "java/util/function/BiFunction")], returnType := some .int }, accessFlags := 9, code := some k11c1 }
/-- jdk/internal/util/Preconditions -/
def k11 : Class := { plain "jdk/internal/util/Preconditions" (some 0) with
  accessFlags := 33
  interfaces := #[]
  cf := some (fileOf pool11 24 #[.nestMembers #[55, 131, 125, 114]] #[{ accessFlags := 1, nameIndex := 5, descriptorIndex := 6, attributes := #[] }, { accessFlags := 9, nameIndex := 33, descriptorIndex := 178, attributes := #[] }] 33 2 #[] #[{ accessFlags := 25, nameIndex := 123, descriptorIndex := 124, attributes := #[] }, { accessFlags := 25, nameIndex := 130, descriptorIndex := 124, attributes := #[] }, { accessFlags := 25, nameIndex := 136, descriptorIndex := 124, attributes := #[] }])
  fields := #[{ name := "SIOOBE_FORMATTER", type := (.object "java/util/function/BiFunction"), accessFlags := 25, slot := 0, constantValue := 0 }, { name := "AIOOBE_FORMATTER", type := (.object "java/util/function/BiFunction"), accessFlags := 25, slot := 1, constantValue := 0 }, { name := "IOOBE_FORMATTER", type := (.object "java/util/function/BiFunction"), accessFlags := 25, slot := 2, constantValue := 0 }]
  methods := #[k11m0, k11m1]
  instanceTypes := #[]
  staticTypes := #[(.object "java/util/function/BiFunction"), (.object "java/util/function/BiFunction"), (.object "java/util/function/BiFunction")]
  resolved := Array.replicate 194 none
  statics := some 2 }

def pool12 : Array CpInfo := pool [(9, u "<init>"), (6, .class_ 18), (1, u "java/lang/Object"), (0, u "()V"), (1, .class_ 23), (1, u "jdk/internal/util/ArraysSupport"), (0, u "LOG2_ARRAY_LONG_INDEX_SCALE"), (0, u "I"), (2, u "U"), (0, u "Ljdk/internal/misc/Unsafe;"), (8, u "BIG_ENDIAN"), (0, u "Z"), (8, u "LOG2_BYTE_BIT_SIZE"), (4, u "LOG2_ARRAY_INT_INDEX_SCALE"), (54, u "JLA"), (0, u "Ljdk/internal/access/JavaLangAccess;"), (11, u "LOG2_ARRAY_BOOLEAN_INDEX_SCALE"), (9, u "LOG2_ARRAY_BYTE_INDEX_SCALE"), (5, u "LOG2_ARRAY_CHAR_INDEX_SCALE"), (5, u "LOG2_ARRAY_SHORT_INDEX_SCALE"), (18, u "LOG2_ARRAY_FLOAT_INDEX_SCALE"), (24, u "LOG2_ARRAY_DOUBLE_INDEX_SCALE"), (89, u "T_BOOLEAN"), (2, u "T_CHAR"), (1, u "T_FLOAT"), (1, u "T_DOUBLE"), (1, u "T_BYTE"), (1, u "T_SHORT"), (1, u "T_INT"), (1, u "T_LONG"), (1, u "SOFT_MAX_ARRAY_LENGTH")] 83

def k12m0 : Method := { name := "<init>", desc := "()V", sig := { parameters := [], returnType := none }, accessFlags := 2, code := none }
/-- jdk/internal/util/ArraysSupport -/
def k12 : Class := { plain "jdk/internal/util/ArraysSupport" (some 0) with
  accessFlags := 33
  interfaces := #[]
  cf := some (fileOf pool12 21 #[] #[{ accessFlags := 2, nameIndex := 9, descriptorIndex := 19, attributes := #[] }] 33 16 #[] #[{ accessFlags := 24, nameIndex := 28, descriptorIndex := 29, attributes := #[] }, { accessFlags := 26, nameIndex := 38, descriptorIndex := 39, attributes := #[] }, { accessFlags := 25, nameIndex := 121, descriptorIndex := 25, attributes := #[] }, { accessFlags := 25, nameIndex := 131, descriptorIndex := 25, attributes := #[] }, { accessFlags := 25, nameIndex := 137, descriptorIndex := 25, attributes := #[] }, { accessFlags := 25, nameIndex := 143, descriptorIndex := 25, attributes := #[] }, { accessFlags := 25, nameIndex := 53, descriptorIndex := 25, attributes := #[] }, { accessFlags := 25, nameIndex := 24, descriptorIndex := 25, attributes := #[] }, { accessFlags := 25, nameIndex := 162, descriptorIndex := 25, attributes := #[] }, { accessFlags := 25, nameIndex := 187, descriptorIndex := 25, attributes := #[] }, { accessFlags := 26, nameIndex := 48, descriptorIndex := 25, attributes := #[] }, { accessFlags := 25, nameIndex := 277, descriptorIndex := 25, attributes := #[] }, { accessFlags := 25, nameIndex := 280, descriptorIndex := 25, attributes := #[] }, { accessFlags := 25, nameIndex := 282, descriptorIndex := 25, attributes := #[] }, { accessFlags := 25, nameIndex := 284, descriptorIndex := 25, attributes := #[] }, { accessFlags := 25, nameIndex := 286, descriptorIndex := 25, attributes := #[] }, { accessFlags := 25, nameIndex := 288, descriptorIndex := 25, attributes := #[] }, { accessFlags := 25, nameIndex := 290, descriptorIndex := 25, attributes := #[] }, { accessFlags := 25, nameIndex := 292, descriptorIndex := 25, attributes := #[] }, { accessFlags := 26, nameIndex := 108, descriptorIndex := 109, attributes := #[] }, { accessFlags := 25, nameIndex := 294, descriptorIndex := 25, attributes := #[] }])
  fields := #[{ name := "U", type := (.object "jdk/internal/misc/Unsafe"), accessFlags := 24, slot := 0, constantValue := 0 }, { name := "BIG_ENDIAN", type := .boolean, accessFlags := 26, slot := 1, constantValue := 0 }, { name := "LOG2_ARRAY_BOOLEAN_INDEX_SCALE", type := .int, accessFlags := 25, slot := 2, constantValue := 0 }, { name := "LOG2_ARRAY_BYTE_INDEX_SCALE", type := .int, accessFlags := 25, slot := 3, constantValue := 0 }, { name := "LOG2_ARRAY_CHAR_INDEX_SCALE", type := .int, accessFlags := 25, slot := 4, constantValue := 0 }, { name := "LOG2_ARRAY_SHORT_INDEX_SCALE", type := .int, accessFlags := 25, slot := 5, constantValue := 0 }, { name := "LOG2_ARRAY_INT_INDEX_SCALE", type := .int, accessFlags := 25, slot := 6, constantValue := 0 }, { name := "LOG2_ARRAY_LONG_INDEX_SCALE", type := .int, accessFlags := 25, slot := 7, constantValue := 0 }, { name := "LOG2_ARRAY_FLOAT_INDEX_SCALE", type := .int, accessFlags := 25, slot := 8, constantValue := 0 }, { name := "LOG2_ARRAY_DOUBLE_INDEX_SCALE", type := .int, accessFlags := 25, slot := 9, constantValue := 0 }, { name := "LOG2_BYTE_BIT_SIZE", type := .int, accessFlags := 26, slot := 10, constantValue := 0 }, { name := "T_BOOLEAN", type := .int, accessFlags := 25, slot := 11, constantValue := 0 }, { name := "T_CHAR", type := .int, accessFlags := 25, slot := 12, constantValue := 0 }, { name := "T_FLOAT", type := .int, accessFlags := 25, slot := 13, constantValue := 0 }, { name := "T_DOUBLE", type := .int, accessFlags := 25, slot := 14, constantValue := 0 }, { name := "T_BYTE", type := .int, accessFlags := 25, slot := 15, constantValue := 0 }, { name := "T_SHORT", type := .int, accessFlags := 25, slot := 16, constantValue := 0 }, { name := "T_INT", type := .int, accessFlags := 25, slot := 17, constantValue := 0 }, { name := "T_LONG", type := .int, accessFlags := 25, slot := 18, constantValue := 0 }, { name := "JLA", type := (.object "jdk/internal/access/JavaLangAccess"), accessFlags := 26, slot := 19, constantValue := 0 }, { name := "SOFT_MAX_ARRAY_LENGTH", type := .int, accessFlags := 25, slot := 20, constantValue := 0 }]
  methods := #[k12m0]
  instanceTypes := #[]
  staticTypes := #[(.object "jdk/internal/misc/Unsafe"), .boolean, .int, .int, .int, .int, .int, .int, .int, .int, .int, .int, .int, .int, .int, .int, .int, .int, .int, (.object "jdk/internal/access/JavaLangAccess"), .int]
  resolved := Array.replicate 378 none
  statics := none }

def pool13 : Array CpInfo := pool [(1, u "java/lang/Cloneable"), (0, .class_ 1), (0, u "java/lang/Object"), (0, .class_ 3)] 3

/-- java/lang/Cloneable -/
def k13 : Class := { plain "java/lang/Cloneable" (some 0) with
  accessFlags := 1537
  interfaces := #[]
  cf := some (fileOf pool13 2 #[] #[] 1537 4 #[] #[])
  fields := #[]
  methods := #[]
  instanceTypes := #[]
  staticTypes := #[]
  resolved := Array.replicate 8 none
  statics := none }

/-- the primitive byte -/
def k14 : Class := { plain "byte" none with kind := .primitive 'B', accessFlags := 0x411 }
/-- [B -/
def k15 : Class := { plain "[B" (some 0) with kind := .array 14 .byte, interfaces := #[13, 3], accessFlags := 1041 }

/-- the primitive char -/
def k16 : Class := { plain "char" none with kind := .primitive 'C', accessFlags := 0x411 }
/-- [C -/
def k17 : Class := { plain "[C" (some 0) with kind := .array 16 .char, interfaces := #[13, 3], accessFlags := 1041 }

/-- the primitive int -/
def k18 : Class := { plain "int" none with kind := .primitive 'I', accessFlags := 0x411 }
/-- [I -/
def k19 : Class := { plain "[I" (some 0) with kind := .array 18 .int, interfaces := #[13, 3], accessFlags := 1041 }

def heap : Heap := #[{ cls := 8, slots := #[.long 0, .int 1, .null, .int 0, .null, .int 0, .int 0], vm := .statics 8 },
  { cls := 9, slots := #[.int 0, .int 8, .int 0, .int 1], vm := .statics 9 },
  { cls := 11, slots := #[.null, .null, .null], vm := .statics 11 }]
def classes : Array Class := #[k0, k1, k2, k3, k4, k5, k6, k7, k8, k9, k10, k11, k12, k13, k14, k15, k16, k17, k18, k19]
def interned : List (Array UInt16 × Addr) := []
def slotsUsed : Nat := 14
def theMethod : MethodId := ⟨1, 5⟩
def args0 : Array Value := #[.int 5, .int 97, .int 98, .int 99, .int 100, .int 10]
def aboutOver (below : List Frame) : State where
  vm := { classes := classes, interned := interned.toArray }
  heap := heap
  slotsUsed := slotsUsed
  threads := #[{ frames := .invoking theMethod args0 :: below }]
def below0 : List Frame := [.native { method := ⟨0, 0⟩, args := #[] }]
def about1 : State := aboutOver below0
def p0 : Program := .bare "" "" ""
def e0 : Env := launch0.env 0 0 0
theorem w_frames : about1.frames = Frame.invoking theMethod args0 :: below0 := rfl
set_option maxRecDepth 65536 in
theorem w_args : argsFit about1.vm theMethod args0 = true := by decide +kernel
set_option maxRecDepth 65536 in
theorem w_heap : heapFits about1 = true := by decide +kernel
set_option maxRecDepth 65536 in
theorem w_runnable : about1.curStatus? = some .runnable := by decide +kernel
set_option maxRecDepth 65536 in
theorem w_alone : about1.alone = true := by decide +kernel
set_option maxRecDepth 65536 in
theorem w_named : about1.methodNamed? x = some theMethod := by decide +kernel
set_option maxRecDepth 65536 in
theorem w_hears : about1.hears theMethod below0 = true := by decide +kernel
set_option maxRecDepth 65536 in
theorem w_ripe : about1.ripe theMethod args0 below0 = true := by decide +kernel
theorem w_running : about1.status = .running := rfl
set_option maxRecDepth 65536 in
theorem w_room : about1.hasRoom e0.platform room_1 = true :=
  launch0.hasRoom_least _ room_1 (by decide +kernel) (by decide +kernel) (by decide +kernel) (by decide +kernel) (by decide +kernel) (by decide +kernel)
theorem allAtoms_all (ts : List Jvm.Cond) (a : Array Jvm.Value) (st : Jvm.State) : (allAtoms ts).before a st = ts.all (fun c => c.before a st) := by
  induction ts with
  | nil => rfl
  | cons c t ih =>
    show (Jvm.Cond.and c (allAtoms t)).before a st = _
    rw [Jvm.Cond.before_and, ih, List.all_cons]
def words1 : List Jvm.Cond := Jvm.Cond.code x code maxLocals ret :: tables_1
/-- a 'code' word, met by the world's own term for the bytes: nothing is compared byte by byte -/
theorem code_word {y : MethodName} {bytes : ByteArray} {mx : Nat} {rt : Option FieldType} {a : Array Value} {s : State} {m : MethodId} {meth : Method} {c : Code} (h1 : s.methodNamed? y = some m) (h2 : s.vm.method? m = some meth) (h3 : meth.code = some c) (h4 : c.code = bytes)
    (h5 : (c.maxLocals == mx && c.exceptionTable.isEmpty && decide (c.maxStack ≤ mostOperands) && decide (meth.sig.returnType = rt) && !meth.locks && decide (parseMethodDescriptor y.desc = some meth.sig)) = true) : (Jvm.Cond.code y bytes mx rt).before a s = true := by
  simp only [Bool.and_eq_true, beq_iff_eq, Bool.not_eq_true', decide_eq_true_eq] at h5
  obtain ⟨⟨⟨⟨⟨g1, g2⟩, g3⟩, g4⟩, g5⟩, g6⟩ := h5
  simp [Cond.before, Cond.holds, Cond.value, h1, h2, h3, h4, g1, g2, g3, g4, g5, g6]
def isCode : Jvm.Cond → Bool
  | .code _ _ _ _ => true
  | _ => false
theorem all_split {L : List Jvm.Cond} {P : Jvm.Cond → Bool} (h1 : L.all (fun c => isCode c || P c) = true) (h2 : ∀ c ∈ L.filter isCode, P c = true) : L.all P = true := by
  refine List.all_eq_true.mpr fun c hc => ?_
  have h := List.all_eq_true.mp h1 c hc
  rcases Bool.eq_false_or_eq_true (isCode c) with hi | hi
  · exact h2 c (List.mem_filter.mpr ⟨hc, hi⟩)
  · simpa [hi] using h
set_option maxRecDepth 65536 in
theorem w_c0 : (Jvm.Cond.code x code maxLocals ret).before args0 about1 = true := code_word (m := ⟨1, 5⟩) (meth := k1m5) (c := k1c5) (by decide +kernel) rfl rfl rfl (by decide +kernel)
set_option maxRecDepth 65536 in
theorem w_c1 : (Jvm.Cond.code ({ cls := "com/example/keelson/keelson/dataset/DatasetName", name := "isValid", desc := "(Ljava/lang/String;)Z" } : Jvm.MethodName) prog_10_method_2_code (4 : Nat) (Option.some Jvm.ClassFile.FieldType.boolean)).before args0 about1 = true := code_word (m := ⟨2, 1⟩) (meth := k2m1) (c := k2c1) (by decide +kernel) rfl rfl rfl (by decide +kernel)
set_option maxRecDepth 65536 in
theorem w_c2 : (Jvm.Cond.code ({ cls := "com/example/keelson/keelson/dataset/DatasetNameIsValidPinLaw", name := "first", desc := "(C)Z" } : Jvm.MethodName) method_2_code (1 : Nat) (Option.some Jvm.ClassFile.FieldType.boolean)).before args0 about1 = true := code_word (m := ⟨1, 1⟩) (meth := k1m1) (c := k1c1) (by decide +kernel) rfl rfl rfl (by decide +kernel)
set_option maxRecDepth 65536 in
theorem w_c3 : (Jvm.Cond.code ({ cls := "java/lang/String", name := "<init>", desc := "([C)V" } : Jvm.MethodName) jdk_42_method_3_code (2 : Nat) (Option.none : Option Jvm.ClassFile.FieldType)).before args0 about1 = true := code_word (m := ⟨8, 1⟩) (meth := k8m1) (c := k8c1) (by decide +kernel) rfl rfl rfl (by decide +kernel)
set_option maxRecDepth 65536 in
theorem w_c4 : (Jvm.Cond.code ({ cls := "java/lang/String", name := "<init>", desc := "([CIILjava/lang/Void;)V" } : Jvm.MethodName) jdk_42_method_149_code (6 : Nat) (Option.none : Option Jvm.ClassFile.FieldType)).before args0 about1 = true := code_word (m := ⟨8, 5⟩) (meth := k8m5) (c := k8c5) (by decide +kernel) rfl rfl rfl (by decide +kernel)
set_option maxRecDepth 65536 in
theorem w_c5 : (Jvm.Cond.code ({ cls := "java/lang/Object", name := "<init>", desc := "()V" } : Jvm.MethodName) object_method_1_code (1 : Nat) (Option.none : Option Jvm.ClassFile.FieldType)).before args0 about1 = true := code_word (m := ⟨0, 0⟩) (meth := k0m0) (c := k0c0) (by decide +kernel) rfl rfl rfl (by decide +kernel)
set_option maxRecDepth 65536 in
theorem w_c6 : (Jvm.Cond.code ({ cls := "java/lang/StringUTF16", name := "compress", desc := "([CII)[B" } : Jvm.MethodName) jdk_52_method_16_code (6 : Nat) (Option.some (Jvm.ClassFile.FieldType.array Jvm.ClassFile.FieldType.byte))).before args0 about1 = true := code_word (m := ⟨9, 8⟩) (meth := k9m8) (c := k9c8) (by decide +kernel) rfl rfl rfl (by decide +kernel)
set_option maxRecDepth 65536 in
theorem w_c7 : (Jvm.Cond.code ({ cls := "java/lang/StringUTF16", name := "compress", desc := "([CI[BII)I" } : Jvm.MethodName) jdk_52_method_21_code (7 : Nat) (Option.some Jvm.ClassFile.FieldType.int)).before args0 about1 = true := code_word (m := ⟨9, 9⟩) (meth := k9m9) (c := k9c9) (by decide +kernel) rfl rfl rfl (by decide +kernel)
set_option maxRecDepth 65536 in
theorem w_c8 : (Jvm.Cond.code ({ cls := "java/lang/StringUTF16", name := "coderFromArrayLen", desc := "([BI)B" } : Jvm.MethodName) jdk_52_method_15_code (2 : Nat) (Option.some Jvm.ClassFile.FieldType.byte)).before args0 about1 = true := code_word (m := ⟨9, 7⟩) (meth := k9m7) (c := k9c7) (by decide +kernel) rfl rfl rfl (by decide +kernel)
set_option maxRecDepth 65536 in
theorem w_c9 : (Jvm.Cond.code ({ cls := "java/lang/String", name := "isEmpty", desc := "()Z" } : Jvm.MethodName) jdk_42_method_55_code (1 : Nat) (Option.some Jvm.ClassFile.FieldType.boolean)).before args0 about1 = true := code_word (m := ⟨8, 3⟩) (meth := k8m3) (c := k8c3) (by decide +kernel) rfl rfl rfl (by decide +kernel)
set_option maxRecDepth 65536 in
theorem w_c10 : (Jvm.Cond.code ({ cls := "java/lang/String", name := "length", desc := "()I" } : Jvm.MethodName) jdk_42_method_54_code (1 : Nat) (Option.some Jvm.ClassFile.FieldType.int)).before args0 about1 = true := code_word (m := ⟨8, 2⟩) (meth := k8m2) (c := k8c2) (by decide +kernel) rfl rfl rfl (by decide +kernel)
set_option maxRecDepth 65536 in
theorem w_c11 : (Jvm.Cond.code ({ cls := "java/lang/String", name := "coder", desc := "()B" } : Jvm.MethodName) jdk_42_method_152_code (1 : Nat) (Option.some Jvm.ClassFile.FieldType.byte)).before args0 about1 = true := code_word (m := ⟨8, 6⟩) (meth := k8m6) (c := k8c6) (by decide +kernel) rfl rfl rfl (by decide +kernel)
set_option maxRecDepth 65536 in
theorem w_c12 : (Jvm.Cond.code ({ cls := "java/lang/String", name := "charAt", desc := "(I)C" } : Jvm.MethodName) jdk_42_method_56_code (2 : Nat) (Option.some Jvm.ClassFile.FieldType.char)).before args0 about1 = true := code_word (m := ⟨8, 4⟩) (meth := k8m4) (c := k8c4) (by decide +kernel) rfl rfl rfl (by decide +kernel)
set_option maxRecDepth 65536 in
theorem w_c13 : (Jvm.Cond.code ({ cls := "java/lang/String", name := "isLatin1", desc := "()Z" } : Jvm.MethodName) jdk_42_method_154_code (1 : Nat) (Option.some Jvm.ClassFile.FieldType.boolean)).before args0 about1 = true := code_word (m := ⟨8, 7⟩) (meth := k8m7) (c := k8c7) (by decide +kernel) rfl rfl rfl (by decide +kernel)
set_option maxRecDepth 65536 in
theorem w_c14 : (Jvm.Cond.code ({ cls := "java/lang/StringLatin1", name := "charAt", desc := "([BI)C" } : Jvm.MethodName) jdk_43_method_2_code (2 : Nat) (Option.some Jvm.ClassFile.FieldType.char)).before args0 about1 = true := code_word (m := ⟨10, 1⟩) (meth := k10m1) (c := k10c1) (by decide +kernel) rfl rfl rfl (by decide +kernel)
set_option maxRecDepth 65536 in
theorem w_c15 : (Jvm.Cond.code ({ cls := "java/lang/String", name := "checkIndex", desc := "(II)V" } : Jvm.MethodName) jdk_42_method_155_code (2 : Nat) (Option.none : Option Jvm.ClassFile.FieldType)).before args0 about1 = true := code_word (m := ⟨8, 8⟩) (meth := k8m8) (c := k8c8) (by decide +kernel) rfl rfl rfl (by decide +kernel)
set_option maxRecDepth 65536 in
theorem w_c16 : (Jvm.Cond.code ({ cls := "jdk/internal/util/Preconditions", name := "checkIndex", desc := "(IILjava/util/function/BiFunction;)I" } : Jvm.MethodName) jdk_41_method_11_code (3 : Nat) (Option.some Jvm.ClassFile.FieldType.int)).before args0 about1 = true := code_word (m := ⟨11, 1⟩) (meth := k11m1) (c := k11c1) (by decide +kernel) rfl rfl rfl (by decide +kernel)
set_option maxRecDepth 65536 in
theorem w_c17 : (Jvm.Cond.code ({ cls := "com/example/keelson/keelson/dataset/DatasetName", name := "isLetterOrDigit", desc := "(C)Z" } : Jvm.MethodName) prog_10_method_3_code (1 : Nat) (Option.some Jvm.ClassFile.FieldType.boolean)).before args0 about1 = true := code_word (m := ⟨2, 2⟩) (meth := k2m2) (c := k2c2) (by decide +kernel) rfl rfl rfl (by decide +kernel)
set_option maxRecDepth 65536 in
theorem w_c18 : (Jvm.Cond.code ({ cls := "java/lang/StringUTF16", name := "toBytes", desc := "([CII)[B" } : Jvm.MethodName) jdk_52_method_14_code (5 : Nat) (Option.some (Jvm.ClassFile.FieldType.array Jvm.ClassFile.FieldType.byte))).before args0 about1 = true := code_word (m := ⟨9, 6⟩) (meth := k9m6) (c := k9c6) (by decide +kernel) rfl rfl rfl (by decide +kernel)
set_option maxRecDepth 65536 in
theorem w_c19 : (Jvm.Cond.code ({ cls := "java/lang/StringUTF16", name := "newBytesFor", desc := "(I)[B" } : Jvm.MethodName) jdk_52_method_2_code (1 : Nat) (Option.some (Jvm.ClassFile.FieldType.array Jvm.ClassFile.FieldType.byte))).before args0 about1 = true := code_word (m := ⟨9, 1⟩) (meth := k9m1) (c := k9c1) (by decide +kernel) rfl rfl rfl (by decide +kernel)
set_option maxRecDepth 65536 in
theorem w_c20 : (Jvm.Cond.code ({ cls := "java/lang/StringUTF16", name := "newBytesLength", desc := "(I)I" } : Jvm.MethodName) jdk_52_method_3_code (1 : Nat) (Option.some Jvm.ClassFile.FieldType.int)).before args0 about1 = true := code_word (m := ⟨9, 2⟩) (meth := k9m2) (c := k9c2) (by decide +kernel) rfl rfl rfl (by decide +kernel)
set_option maxRecDepth 65536 in
theorem w_c21 : (Jvm.Cond.code ({ cls := "java/lang/StringUTF16", name := "putChar", desc := "([BII)V" } : Jvm.MethodName) jdk_52_method_4_code (3 : Nat) (Option.none : Option Jvm.ClassFile.FieldType)).before args0 about1 = true := code_word (m := ⟨9, 3⟩) (meth := k9m3) (c := k9c3) (by decide +kernel) rfl rfl rfl (by decide +kernel)
set_option maxRecDepth 65536 in
theorem w_c22 : (Jvm.Cond.code ({ cls := "java/lang/StringUTF16", name := "getChar", desc := "([BI)C" } : Jvm.MethodName) jdk_52_method_5_code (2 : Nat) (Option.some Jvm.ClassFile.FieldType.char)).before args0 about1 = true := code_word (m := ⟨9, 4⟩) (meth := k9m4) (c := k9c4) (by decide +kernel) rfl rfl rfl (by decide +kernel)
set_option maxRecDepth 65536 in
theorem w_c23 : (Jvm.Cond.code ({ cls := "java/lang/StringUTF16", name := "charAt", desc := "([BI)C" } : Jvm.MethodName) jdk_52_method_83_code (2 : Nat) (Option.some Jvm.ClassFile.FieldType.char)).before args0 about1 = true := code_word (m := ⟨9, 10⟩) (meth := k9m10) (c := k9c10) (by decide +kernel) rfl rfl rfl (by decide +kernel)
set_option maxRecDepth 65536 in
theorem w_c24 : (Jvm.Cond.code ({ cls := "java/lang/StringUTF16", name := "checkIndex", desc := "(I[B)V" } : Jvm.MethodName) jdk_52_method_91_code (2 : Nat) (Option.none : Option Jvm.ClassFile.FieldType)).before args0 about1 = true := code_word (m := ⟨9, 11⟩) (meth := k9m11) (c := k9c11) (by decide +kernel) rfl rfl rfl (by decide +kernel)
set_option maxRecDepth 65536 in
theorem w_c25 : (Jvm.Cond.code ({ cls := "java/lang/StringUTF16", name := "length", desc := "([B)I" } : Jvm.MethodName) jdk_52_method_6_code (1 : Nat) (Option.some Jvm.ClassFile.FieldType.int)).before args0 about1 = true := code_word (m := ⟨9, 5⟩) (meth := k9m5) (c := k9c5) (by decide +kernel) rfl rfl rfl (by decide +kernel)
set_option maxRecDepth 65536 in
theorem w_c26 : (Jvm.Cond.code ({ cls := "com/example/keelson/keelson/dataset/DatasetNameIsValidPinLaw", name := "fill129", desc := "(C)[C" } : Jvm.MethodName) method_5_code (1 : Nat) (Option.some (Jvm.ClassFile.FieldType.array Jvm.ClassFile.FieldType.char))).before args0 about1 = true := code_word (m := ⟨1, 4⟩) (meth := k1m4) (c := k1c4) (by decide +kernel) rfl rfl rfl (by decide +kernel)
set_option maxRecDepth 65536 in
theorem w_c27 : (Jvm.Cond.code ({ cls := "com/example/keelson/keelson/dataset/DatasetNameIsValidPinLaw", name := "fill128", desc := "(C)[C" } : Jvm.MethodName) method_4_code (1 : Nat) (Option.some (Jvm.ClassFile.FieldType.array Jvm.ClassFile.FieldType.char))).before args0 about1 = true := code_word (m := ⟨1, 3⟩) (meth := k1m3) (c := k1c3) (by decide +kernel) rfl rfl rfl (by decide +kernel)
set_option maxRecDepth 65536 in
theorem w_c28 : (Jvm.Cond.code ({ cls := "com/example/keelson/keelson/dataset/DatasetNameIsValidPinLaw", name := "later", desc := "(C)Z" } : Jvm.MethodName) method_3_code (1 : Nat) (Option.some Jvm.ClassFile.FieldType.boolean)).before args0 about1 = true := code_word (m := ⟨1, 2⟩) (meth := k1m2) (c := k1c2) (by decide +kernel) rfl rfl rfl (by decide +kernel)
def codes1 : List Jvm.Cond := [Jvm.Cond.code x code maxLocals ret, Jvm.Cond.code ({ cls := "com/example/keelson/keelson/dataset/DatasetName", name := "isValid", desc := "(Ljava/lang/String;)Z" } : Jvm.MethodName) prog_10_method_2_code (4 : Nat) (Option.some Jvm.ClassFile.FieldType.boolean), Jvm.Cond.code ({ cls := "com/example/keelson/keelson/dataset/DatasetNameIsValidPinLaw", name := "first", desc := "(C)Z" } : Jvm.MethodName) method_2_code (1 : Nat) (Option.some Jvm.ClassFile.FieldType.boolean), Jvm.Cond.code ({ cls := "java/lang/String", name := "<init>", desc := "([C)V" } : Jvm.MethodName) jdk_42_method_3_code (2 : Nat) (Option.none : Option Jvm.ClassFile.FieldType), Jvm.Cond.code ({ cls := "java/lang/String", name := "<init>", desc := "([CIILjava/lang/Void;)V" } : Jvm.MethodName) jdk_42_method_149_code (6 : Nat) (Option.none : Option Jvm.ClassFile.FieldType), Jvm.Cond.code ({ cls := "java/lang/Object", name := "<init>", desc := "()V" } : Jvm.MethodName) object_method_1_code (1 : Nat) (Option.none : Option Jvm.ClassFile.FieldType), Jvm.Cond.code ({ cls := "java/lang/StringUTF16", name := "compress", desc := "([CII)[B" } : Jvm.MethodName) jdk_52_method_16_code (6 : Nat) (Option.some (Jvm.ClassFile.FieldType.array Jvm.ClassFile.FieldType.byte)), Jvm.Cond.code ({ cls := "java/lang/StringUTF16", name := "compress", desc := "([CI[BII)I" } : Jvm.MethodName) jdk_52_method_21_code (7 : Nat) (Option.some Jvm.ClassFile.FieldType.int), Jvm.Cond.code ({ cls := "java/lang/StringUTF16", name := "coderFromArrayLen", desc := "([BI)B" } : Jvm.MethodName) jdk_52_method_15_code (2 : Nat) (Option.some Jvm.ClassFile.FieldType.byte), Jvm.Cond.code ({ cls := "java/lang/String", name := "isEmpty", desc := "()Z" } : Jvm.MethodName) jdk_42_method_55_code (1 : Nat) (Option.some Jvm.ClassFile.FieldType.boolean), Jvm.Cond.code ({ cls := "java/lang/String", name := "length", desc := "()I" } : Jvm.MethodName) jdk_42_method_54_code (1 : Nat) (Option.some Jvm.ClassFile.FieldType.int), Jvm.Cond.code ({ cls := "java/lang/String", name := "coder", desc := "()B" } : Jvm.MethodName) jdk_42_method_152_code (1 : Nat) (Option.some Jvm.ClassFile.FieldType.byte), Jvm.Cond.code ({ cls := "java/lang/String", name := "charAt", desc := "(I)C" } : Jvm.MethodName) jdk_42_method_56_code (2 : Nat) (Option.some Jvm.ClassFile.FieldType.char), Jvm.Cond.code ({ cls := "java/lang/String", name := "isLatin1", desc := "()Z" } : Jvm.MethodName) jdk_42_method_154_code (1 : Nat) (Option.some Jvm.ClassFile.FieldType.boolean), Jvm.Cond.code ({ cls := "java/lang/StringLatin1", name := "charAt", desc := "([BI)C" } : Jvm.MethodName) jdk_43_method_2_code (2 : Nat) (Option.some Jvm.ClassFile.FieldType.char), Jvm.Cond.code ({ cls := "java/lang/String", name := "checkIndex", desc := "(II)V" } : Jvm.MethodName) jdk_42_method_155_code (2 : Nat) (Option.none : Option Jvm.ClassFile.FieldType), Jvm.Cond.code ({ cls := "jdk/internal/util/Preconditions", name := "checkIndex", desc := "(IILjava/util/function/BiFunction;)I" } : Jvm.MethodName) jdk_41_method_11_code (3 : Nat) (Option.some Jvm.ClassFile.FieldType.int), Jvm.Cond.code ({ cls := "com/example/keelson/keelson/dataset/DatasetName", name := "isLetterOrDigit", desc := "(C)Z" } : Jvm.MethodName) prog_10_method_3_code (1 : Nat) (Option.some Jvm.ClassFile.FieldType.boolean), Jvm.Cond.code ({ cls := "java/lang/StringUTF16", name := "toBytes", desc := "([CII)[B" } : Jvm.MethodName) jdk_52_method_14_code (5 : Nat) (Option.some (Jvm.ClassFile.FieldType.array Jvm.ClassFile.FieldType.byte)), Jvm.Cond.code ({ cls := "java/lang/StringUTF16", name := "newBytesFor", desc := "(I)[B" } : Jvm.MethodName) jdk_52_method_2_code (1 : Nat) (Option.some (Jvm.ClassFile.FieldType.array Jvm.ClassFile.FieldType.byte)), Jvm.Cond.code ({ cls := "java/lang/StringUTF16", name := "newBytesLength", desc := "(I)I" } : Jvm.MethodName) jdk_52_method_3_code (1 : Nat) (Option.some Jvm.ClassFile.FieldType.int), Jvm.Cond.code ({ cls := "java/lang/StringUTF16", name := "putChar", desc := "([BII)V" } : Jvm.MethodName) jdk_52_method_4_code (3 : Nat) (Option.none : Option Jvm.ClassFile.FieldType), Jvm.Cond.code ({ cls := "java/lang/StringUTF16", name := "getChar", desc := "([BI)C" } : Jvm.MethodName) jdk_52_method_5_code (2 : Nat) (Option.some Jvm.ClassFile.FieldType.char), Jvm.Cond.code ({ cls := "java/lang/StringUTF16", name := "charAt", desc := "([BI)C" } : Jvm.MethodName) jdk_52_method_83_code (2 : Nat) (Option.some Jvm.ClassFile.FieldType.char), Jvm.Cond.code ({ cls := "java/lang/StringUTF16", name := "checkIndex", desc := "(I[B)V" } : Jvm.MethodName) jdk_52_method_91_code (2 : Nat) (Option.none : Option Jvm.ClassFile.FieldType), Jvm.Cond.code ({ cls := "java/lang/StringUTF16", name := "length", desc := "([B)I" } : Jvm.MethodName) jdk_52_method_6_code (1 : Nat) (Option.some Jvm.ClassFile.FieldType.int), Jvm.Cond.code ({ cls := "com/example/keelson/keelson/dataset/DatasetNameIsValidPinLaw", name := "fill129", desc := "(C)[C" } : Jvm.MethodName) method_5_code (1 : Nat) (Option.some (Jvm.ClassFile.FieldType.array Jvm.ClassFile.FieldType.char)), Jvm.Cond.code ({ cls := "com/example/keelson/keelson/dataset/DatasetNameIsValidPinLaw", name := "fill128", desc := "(C)[C" } : Jvm.MethodName) method_4_code (1 : Nat) (Option.some (Jvm.ClassFile.FieldType.array Jvm.ClassFile.FieldType.char)), Jvm.Cond.code ({ cls := "com/example/keelson/keelson/dataset/DatasetNameIsValidPinLaw", name := "later", desc := "(C)Z" } : Jvm.MethodName) method_3_code (1 : Nat) (Option.some Jvm.ClassFile.FieldType.boolean)]
set_option maxRecDepth 65536 in
theorem codes_eq : words1.filter isCode = codes1 := rfl
theorem w_codes : ∀ c ∈ words1.filter isCode, c.before args0 about1 = true := by
  rw [codes_eq]
  intro c hc
  simp only [codes1, List.mem_cons, List.not_mem_nil, or_false] at hc
  rcases hc with rfl | rfl | rfl | rfl | rfl | rfl | rfl | rfl | rfl | rfl | rfl | rfl | rfl | rfl | rfl | rfl | rfl | rfl | rfl | rfl | rfl | rfl | rfl | rfl | rfl | rfl | rfl | rfl | rfl
  · exact w_c0
  · exact w_c1
  · exact w_c2
  · exact w_c3
  · exact w_c4
  · exact w_c5
  · exact w_c6
  · exact w_c7
  · exact w_c8
  · exact w_c9
  · exact w_c10
  · exact w_c11
  · exact w_c12
  · exact w_c13
  · exact w_c14
  · exact w_c15
  · exact w_c16
  · exact w_c17
  · exact w_c18
  · exact w_c19
  · exact w_c20
  · exact w_c21
  · exact w_c22
  · exact w_c23
  · exact w_c24
  · exact w_c25
  · exact w_c26
  · exact w_c27
  · exact w_c28
set_option maxRecDepth 65536 in
theorem w_t1 : (words1.take 24).all (fun c => isCode c || c.before args0 about1) = true := by decide +kernel
set_option maxRecDepth 65536 in
theorem w_t2 : ((words1.drop 24).take 24).all (fun c => isCode c || c.before args0 about1) = true := by decide +kernel
set_option maxRecDepth 65536 in
theorem w_t3 : (((words1.drop 24).drop 24).take 24).all (fun c => isCode c || c.before args0 about1) = true := by decide +kernel
set_option maxRecDepth 65536 in
theorem w_t4 : ((((words1.drop 24).drop 24).drop 24).take 24).all (fun c => isCode c || c.before args0 about1) = true := by decide +kernel
set_option maxRecDepth 65536 in
theorem w_t5 : (((((words1.drop 24).drop 24).drop 24).drop 24).take 24).all (fun c => isCode c || c.before args0 about1) = true := by decide +kernel
set_option maxRecDepth 65536 in
theorem w_t6 : (((((words1.drop 24).drop 24).drop 24).drop 24).drop 24).all (fun c => isCode c || c.before args0 about1) = true := by decide +kernel
theorem w_tables : (allAtoms (Jvm.Cond.code x code maxLocals ret :: tables_1)).before args0 about1 = true := by
  rw [allAtoms_all]
  show words1.all (fun c => c.before args0 about1) = true
  refine all_split ?_ w_codes
  rw [← List.take_append_drop 24 words1, List.all_append, w_t1, ← List.take_append_drop 24 (words1.drop 24), List.all_append, w_t2, ← List.take_append_drop 24 ((words1.drop 24).drop 24), List.all_append, w_t3, ← List.take_append_drop 24 (((words1.drop 24).drop 24).drop 24), List.all_append, w_t4, ← List.take_append_drop 24 ((((words1.drop 24).drop 24).drop 24).drop 24), List.all_append, w_t5, w_t6]
  rfl
set_option maxRecDepth 65536 in
theorem w_rest : rest_1_c.before args0 about1 = true := by decide +kernel
set_option maxRecDepth 65536 in
theorem w_case : (Jvm.Cond.and given_1 narrow_1).before args0 about1 = true := by decide +kernel
set_option maxRecDepth 65536 in
theorem w_consts : constsHeld consts_1 about1 := Jvm.Lit.constsHeldB_iff.mp (by decide +kernel)
theorem w_applies : (headSpec (Jvm.Cond.code x code maxLocals ret :: tables_1) room_1).applies x e0.platform about1 = true :=
  (Spec.applies_iff w_frames).mpr ⟨w_running, w_runnable, w_alone, w_named, w_hears, w_ripe, w_room, w_tables⟩
theorem atStart : AtStart classFile x code maxLocals ret World_1 tables_1 room_1 Calls_1 rest_1 Pre_1 launch0 p0 e0 about1 theMethod args0 below0 :=
  ⟨lists_1, trivial, launch0.admits_env _ _ _, launch0.least_env, fairChoices_fair.cas, fairChoices_fair.clock, w_frames, w_args, w_heap, w_applies, ⟨w_consts, trivial⟩, w_rest, w_case⟩
end start1
theorem witness_1 : WitnessClaimed_1 := ⟨start1.p0, start1.e0, start1.about1, start1.theMethod, start1.args0, start1.below0, start1.atStart⟩
end Jvm.Pilot.@@N@@
