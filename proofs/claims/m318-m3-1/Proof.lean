import JvmDerived
import JvmDerived.Pilot.@@N@@Statement
import JvmDerived.Pilot.@@N@@Code
set_option linter.unusedVariables false
set_option linter.unusedSimpArgs false
namespace Jvm.Own
open Jvm Jvm.ClassFile Sem Op Lib Jvm.Free Jvm.Stand Jvm.LawKit Jvm.RoadKit
/-! OWN KIT 1: a walk as a weakest precondition. 'Go pc L st h ss k n': from any state of this invocation that stands at pc with locals L, stack st, heap h, the writable addresses ss, k cells and n slots made so far, the run ends as Q says. -/
abbrev IV : Type := Program × Launch × Env × Room × State × MethodId × Array Value × List Frame × Method × Code
abbrev IV.p (K : IV) : Program := K.1
abbrev IV.l (K : IV) : Launch := K.2.1
abbrev IV.e (K : IV) : Env := K.2.2.1
abbrev IV.R (K : IV) : Room := K.2.2.2.1
abbrev IV.s (K : IV) : State := K.2.2.2.2.1
abbrev IV.m (K : IV) : MethodId := K.2.2.2.2.2.1
abbrev IV.args (K : IV) : Array Value := K.2.2.2.2.2.2.1
abbrev IV.below (K : IV) : List Frame := K.2.2.2.2.2.2.2.1
abbrev IV.meth (K : IV) : Method := K.2.2.2.2.2.2.2.2.1
abbrev IV.c (K : IV) : Code := K.2.2.2.2.2.2.2.2.2
def Sf (Z : State) (EL : List (String × Nat)) (n0 : Nat) (vm : Vm) (h : Heap) (ss0 : List Addr) (h0 : Heap) (ss : List Addr) : Prop := ∀ x ∈ ss, n0 ≤ x ∧ x < h.size ∧ Safe Z EL vm h x ∧ (x ∈ ss0 ∨ h0.size ≤ x)
def EndW (w : Bool) (s : State) (o : Outcome) (t : State) (L : List Loc) (k n : Nat) : Prop := match w with
  | true => ReturnedEndW s o t L k n
  | false => FrameEnd s o t L k n
def Here (w : Bool) (K : IV) (Z : State) (EL : List (String × Nat)) (n0 : Nat) (ss0 : List Addr) (T : State) (h : Heap) (ss : List Addr) (k n : Nat) : Prop :=
  ∃ (vm0 : Vm) (locs : List Loc) (k0 : Nat), Stand K.p K.l K.e K.R (K.s.setVm vm0) K.m K.args K.below K.meth K.c T locs k n ∧ Fr n0 locs ∧ T.heap = h ∧ K.s.Since vm0 k0 ∧ k0 ≤ h.size ∧ Z.Warmed39 vm0 ∧ (w = false → vm0 = K.s.vm) ∧ CHr Z EL K.s.vm K.s.heap vm0 h ∧ Sf Z EL n0 vm0 h ss0 K.s.heap ss ∧ Old Z n0 h ∧ Keep K.s.heap h ss0
def Fns (w : Bool) (K : IV) (Z : State) (EL : List (String × Nat)) (n0 : Nat) (ss0 : List Addr) (Q : Option Value → Heap → List Addr → Prop) (u : State) : Prop :=
  ∃ (t : State) (v : Option Value) (L : List Loc) (gs : List Addr), Steps K.p.tables K.e K.below u t ∧ t.status = .running ∧ Ended t K.below (.returned v) ∧ Q v t.heap gs ∧ Fr n0 L ∧ CHr Z EL K.s.vm K.s.heap t.vm t.heap ∧ Keep K.s.heap t.heap ss0 ∧ Sf Z EL n0 t.vm t.heap ss0 K.s.heap gs ∧ Old Z n0 t.heap ∧ EndW w K.s (.returned v) t L K.R.cells K.R.slots
def Go (w : Bool) (K : IV) (Z : State) (EL : List (String × Nat)) (n0 : Nat) (ss0 : List Addr) (Q : Option Value → Heap → List Addr → Prop) (pc : Nat) (L : Array Slot) (st : List Value) (h : Heap) (ss : List Addr) (k n : Nat) : Prop :=
  ∀ T, Here w K Z EL n0 ss0 T h ss k n → Fns w K Z EL n0 ss0 Q (T.setTop (mkF K.m pc L st))
def Cx (w : Bool) (K : IV) (Z : State) (a0 : Array Value) (EL : List (String × Nat)) (own : String) (code : ByteArray) (ml : Nat) (rt : Option FieldType) (mn : String) (R : Room) : Prop :=
  K.p.tables.exec = Jvm.exec ∧ K.c.code = code ∧ K.c.maxLocals = ml ∧ K.s.vm.findClass own = some K.m.cls ∧ K.meth.sig.returnType = rt ∧ K.meth.locks = false ∧ K.meth.name = mn ∧ K.R = R ∧ EW Z a0 EL ∧ (w = false → EL = [])
abbrev Rm (f c s l : Nat) : Room := { frames := f, cells := c, slots := s, locals := l }
def Con (w : Bool) (Z : State) (EL : List (String × Nat)) (n0 : Nat) (y : MethodName) (bytes : ByteArray) (ml : Nat) (rt : Option FieldType) (R : Room) (as : List Value) (h0 : Heap) (ss0 : List Addr) (Q : Option Value → Heap → List Addr → Prop) : Prop :=
  ∀ (l : Launch) (ws : List Cond), MetFree l y (head1 (Cond.code y bytes ml rt :: ws) R) (fun a U => a = as.toArray ∧ Z.Warmed39 U.vm ∧ U.heap = h0 ∧ CHv Z EL U.vm h0 ∧ ∀ x ∈ ss0, n0 ≤ x ∧ x < h0.size ∧ Safe Z EL U.vm h0 x) (fun _ _ _ _ _ => True)
    (fun _ U o U' => ∃ (v : Option Value) (L : List Loc) (gs : List Addr), o = .returned v ∧ Q v U'.heap gs ∧ Fr n0 L ∧ CHr Z EL U.vm h0 U'.vm U'.heap ∧ Keep h0 U'.heap ss0 ∧ Sf Z EL n0 U'.vm U'.heap ss0 h0 gs ∧ Old Z n0 U'.heap ∧ EndW w U o U' L R.cells R.slots)
theorem dle {a b : Nat} (h : Nat.ble a b = true) : a ≤ b := Nat.le_of_ble_eq_true h
theorem dlt {a b : Nat} (h : Nat.ble (a + 1) b = true) : a < b := Nat.le_of_ble_eq_true h
section Kit
variable {w : Bool} {K : IV} {Z : State} {a0 : Array Value} {EL : List (String × Nat)} {n0 : Nat} {ss0 ss : List Addr} {Q : Option Value → Heap → List Addr → Prop} {pc pc' pcT : Nat} {L L' : Array Slot} {st st' : List Value} {h h' : Heap} {k n : Nat} {own : String} {code : ByteArray} {ml : Nat} {rt : Option FieldType} {mn : String} {R : Room}
theorem chr_nil {vm vm' : Vm} (q : h.size ≤ h'.size) : CHr Z [] vm h vm' h' := ⟨fun _ hp => absurd hp List.not_mem_nil, q, fun y ⟨p, hp, _⟩ => absurd hp List.not_mem_nil⟩
theorem Fns.steps {u u' : State} (hs : ∀ t, Steps K.p.tables K.e K.below u' t → Steps K.p.tables K.e K.below u t) (F : Fns w K Z EL n0 ss0 Q u') : Fns w K Z EL n0 ss0 Q u := by
  obtain ⟨t, v, L, gs, h1, r⟩ := F
  exact ⟨t, v, L, gs, hs t h1, r⟩
theorem Go.plain (hs : ∀ {T : State}, At T K.m K.c K.below → ∀ t, Steps K.p.tables K.e K.below (T.setTop (mkF K.m pc' L' st')) t → Steps K.p.tables K.e K.below (T.setTop (mkF K.m pc L st)) t) (G : Go w K Z EL n0 ss0 Q pc' L' st' h ss k n) : Go w K Z EL n0 ss0 Q pc L st h ss k n := by
  intro T H
  have H' := H
  obtain ⟨vm0, locs, k0, X, -⟩ := H
  exact Fns.steps (hs X.here) (G T H')
theorem fcl {vm0 : Vm} {k0 : Nat} (C : Cx w K Z a0 EL own code ml rt mn R) (hS : K.s.Since vm0 k0) : vm0.findClass own = some K.m.cls := by
  rw [hS.1.alike.findClass]; exact C.2.2.2.1
/-- a step that moves the tables alone -/
theorem Go.same (C : Cx w K Z a0 EL own code ml rt mn R) (hs : ∀ {T : State} {vm0 : Vm} {locs : List Loc}, Stand K.p K.l K.e K.R (K.s.setVm vm0) K.m K.args K.below K.meth K.c T locs k n → T.heap = h → Z.Warmed39 (K.s.setVm vm0).vm → (K.s.setVm vm0).vm.findClass own = some K.m.cls → Ext Z.heap h →
      ∃ T', Stand K.p K.l K.e K.R (K.s.setVm vm0) K.m K.args K.below K.meth K.c T' locs k n ∧ T'.heap = h ∧ ∀ t, Steps K.p.tables K.e K.below (T'.setTop (mkF K.m pc' L' st')) t → Steps K.p.tables K.e K.below (T.setTop (mkF K.m pc L st)) t)
    (G : Go w K Z EL n0 ss0 Q pc' L' st' h ss k n) : Go w K Z EL n0 ss0 Q pc L st h ss k n := by
  intro T H
  obtain ⟨vm0, locs, k0, X, N, eT, hS, hk, hZ, hv, hC, hF, hO, hK⟩ := H
  obtain ⟨T', X', eT', st'⟩ := hs X eT hZ (fcl C hS) hO.2
  exact Fns.steps st' (G T' ⟨vm0, locs, k0, X', N, eT', hS, hk, hZ, hv, hC, hF, hO, hK⟩)
theorem Sf.ext {vm : Vm} {h0 : Heap} (E : Ext h h') (H : CHv Z EL vm h) (S : Sf Z EL n0 vm h ss0 h0 ss) : Sf Z EL n0 vm h' ss0 h0 ss := fun x hx => by
  obtain ⟨a, b, c, d⟩ := S x hx
  exact ⟨a, Nat.lt_of_lt_of_le b E.1, Safe.ext E H c, d⟩
/-- a step that makes one cell (or more) at the heap's end, the first at h.size -/
theorem Go.grow (C : Cx w K Z a0 EL own code ml rt mn R) {dk dn : Nat} {P : Heap → Prop} (hsz : ∀ h', P h' → h.size < h'.size) (hs : ∀ {T : State} {vm0 : Vm} {locs : List Loc}, Stand K.p K.l K.e K.R (K.s.setVm vm0) K.m K.args K.below K.meth K.c T locs k n → T.heap = h → Z.Warmed39 (K.s.setVm vm0).vm → (K.s.setVm vm0).vm.findClass own = some K.m.cls →
      ∃ T' h', Stand K.p K.l K.e K.R (K.s.setVm vm0) K.m K.args K.below K.meth K.c T' locs (k + dk) (n + dn) ∧ T'.heap = h' ∧ Ext h h' ∧ P h' ∧ ∀ t, Steps K.p.tables K.e K.below (T'.setTop (mkF K.m pc' L' st')) t → Steps K.p.tables K.e K.below (T.setTop (mkF K.m pc L st)) t)
    (G : ∀ h', Keep h h' [] → h.size < h'.size → n0 ≤ h.size → P h' → Go w K Z EL n0 ss0 Q pc' L' st' h' (h.size :: ss) (k + dk) (n + dn)) : Go w K Z EL n0 ss0 Q pc L st h ss k n := by
  intro T H
  obtain ⟨vm0, locs, k0, X, N, eT, hS, hk, hZ, hv, hC, hF, hO, hK⟩ := H
  obtain ⟨T', h', X', eT', E, hP, st'⟩ := hs X eT hZ (fcl C hS)
  have hn0 : n0 ≤ h.size := hO.1 ▸ hO.2.1
  refine Fns.steps st' (G h' ((Keep.refl h []).ext E) (hsz _ hP) hn0 hP T' ⟨vm0, locs, k0, X', N, eT', hS, Nat.le_trans hk E.1, hZ, hv, hC.trans (CHr.ext E hC.1), ?_, hO.ext E, hK.ext E⟩)
  intro x hx
  rcases List.mem_cons.mp hx with rfl | hx
  · exact ⟨hn0, hsz _ hP, Safe.ext E hC.1 (Safe.new (Nat.le_refl _)), Or.inr hK.1⟩
  · exact hF.ext E hC.1 x hx
/-- a step that writes one slot of a writable cell -/
theorem Go.write (C : Cx w K Z a0 EL own code ml rt mn R) {a : Addr} {sl : Nat} {v : Value} (ha : a ∈ ss) (hs : ∀ {T : State} {vm0 : Vm} {locs : List Loc}, Stand K.p K.l K.e K.R (K.s.setVm vm0) K.m K.args K.below K.meth K.c T locs k n → T.heap = h → Z.Warmed39 (K.s.setVm vm0).vm → (K.s.setVm vm0).vm.findClass own = some K.m.cls →
      ∃ T' h', Stand K.p K.l K.e K.R (K.s.setVm vm0) K.m K.args K.below K.meth K.c T' (locs ++ [⟨a, sl⟩]) k n ∧ T'.heap = h' ∧ Wr h h' a sl v ∧ ∀ t, Steps K.p.tables K.e K.below (T'.setTop (mkF K.m pc' L' st')) t → Steps K.p.tables K.e K.below (T.setTop (mkF K.m pc L st)) t)
    (G : ∀ h', Wr h h' a sl v → Go w K Z EL n0 ss0 Q pc' L' st' h' ss k n) : Go w K Z EL n0 ss0 Q pc L st h ss k n := by
  intro T H
  obtain ⟨vm0, locs, k0, X, N, eT, hS, hk, hZ, hv, hC, hF, hO, hK⟩ := H
  obtain ⟨T', h', X', eT', W, st'⟩ := hs X eT hZ (fcl C hS)
  obtain ⟨f1, f2, f3, f4⟩ := hF a ha
  refine Fns.steps st' (G h' W T' ⟨vm0, _, k0, X', Fr.snoc X' N f1, eT', hS, by rw [W.size]; exact hk, hZ, hv, hC.trans (CHr.wr W f3 hC.1), ?_, hO.wr W f1, hK.wr W f4⟩)
  intro x hx
  obtain ⟨g1, g2, g3, g4⟩ := hF x hx
  exact ⟨g1, by rw [W.size]; exact g2, Safe.wr W f3 hC.1 g3, g4⟩
/-- the end -/
theorem Go.leave (C : Cx w K Z a0 EL own code ml rt mn R) {v : Option Value} {gs : List Addr} (hv : rt = none → v = none) (hs : ∀ {T : State} {vm0 : Vm} {locs : List Loc}, Stand K.p K.l K.e K.R (K.s.setVm vm0) K.m K.args K.below K.meth K.c T locs k n → ∀ {fs : List Frame}, (∀ (f : JFrame) (acts : List Action), f.method = K.m → f.locked = none → f.entered = [] → (doReturn K.e (T.setTop f) acts v).1 = T.setFrames fs) →
      Steps K.p.tables K.e K.below (T.setTop (mkF K.m pc L st)) (T.setFrames fs)) (hQ : Q v h gs) (hg : ∀ x ∈ gs, x ∈ ss) (hc : k ≤ R.cells) (hn : n ≤ R.slots) : Go w K Z EL n0 ss0 Q pc L st h ss k n := by
  intro T H
  obtain ⟨vm0, locs, k0, X, N, eT, hS, hk, hZ, hw, hC, hF, hO, hK⟩ := H
  have hlk : K.meth.locks = false := C.2.2.2.2.2.1
  have hR : K.R = R := C.2.2.2.2.2.2.2.1
  have hrt : K.meth.sig.returnType = rt := C.2.2.2.2.1
  have A := CHv.at X hZ C.2.2.2.2.2.2.2.2.1 hC.1
  have hvm : ∀ fs, (T.setFrames fs).vm = T.vm := fun _ => rfl
  have hhp : ∀ fs, (T.setFrames fs).heap = h := fun _ => eT
  obtain ⟨fs, r1, r2, r3, r4, r5⟩ := X.leave (v := v) (fun q => hv (hrt ▸ q)) hlk
  refine ⟨T.setFrames fs, v, locs, gs, hs X r1, r2, r3, by rw [hhp]; exact hQ, N, by rw [hhp, hvm]; exact hC.trans A, by rw [hhp]; exact hK, ?_, by rw [hhp]; exact hO, ?_⟩
  · rw [hhp, hvm]
    intro x hx
    obtain ⟨g1, g2, g3, g4⟩ := hF x (hg x hx)
    exact ⟨g1, g2, A.safe g2 g3, g4⟩
  · cases w with
    | false =>
      obtain rfl := hw rfl
      exact ⟨⟨_, rfl⟩, r4, r5.mono (by rw [hR]; exact hc) (by rw [hR]; exact hn)⟩
    | true =>
      obtain ⟨a, b, c'⟩ := hS.ended (U := T.setFrames fs) r4 (by rw [hhp]; exact hk) r5
      exact ⟨⟨_, rfl⟩, a, b, c'.mono (by rw [hR]; exact hc) (by rw [hR]; exact hn)⟩
/-- a body's walk gives its contract -/
theorem Con.of {y : MethodName} {bytes : ByteArray} {as : List Value} {h0 : Heap} {L0 : Array Slot} (hpn : plainName y.cls = true) (hE : EW Z a0 EL) (hwE : w = false → EL = []) (hO : Old Z n0 h0) (hef : ∀ m, entryFrame m as.toArray ml = mkF m 0 L0 [])
    (B : ∀ K : IV, Cx w K Z a0 EL y.cls bytes ml rt y.name R → K.s.heap = h0 → Go w K Z EL n0 ss0 Q 0 L0 [] h0 ss0 0 0) : Con w Z EL n0 y bytes ml rt R as h0 ss0 Q := by
  intro l ws
  refine MetFree.of_bodySF (plainFor_of_name hpn) hisR ?_
  intro p e s m args below meth c s₁ Bd hml0 hP hK
  obtain ⟨rfl, hZ, hh, hCH, hss⟩ := hP
  have X0 : Stand p l e R s m as.toArray below meth c s₁ [] 0 0 := Stand.of_body Bd
  have e0 : s₁.heap = h0 := by rw [← hh, Bd.state]; rfl
  obtain ⟨t, v, L, gs, r1, r2, r3, r4, r5, r6, r7, r8, r9, r10⟩ := B (p, l, e, R, s, m, as.toArray, below, meth, c)
    ⟨Bd.exec, Bd.bytes, hml0, findClass_of_methodNamed Bd.named, Bd.returns, BodyLoose.notSynchronized Bd, (name_of_methodNamed Bd.named Bd.method).1, rfl, hE, hwE⟩ hh s₁
    ⟨s.vm, [], s.heap.size, X0, Fr.nil n0, e0, State.WarmedH.since (State.WarmedH.refl s) _, by rw [hh]; exact Nat.le_refl _, hZ, fun _ => rfl, by show CHr Z EL s.vm s.heap s.vm h0; rw [hh]; exact CHr.refl hCH, fun x hx => ⟨(hss x hx).1, (hss x hx).2.1, (hss x hx).2.2, Or.inl hx⟩, hO, by show Keep s.heap h0 ss0; rw [hh]; exact Keep.refl _ _⟩
  refine ⟨t, _, castTop (hef m) r1, r2, r3, v, L, gs, rfl, r4, r5, ?_, ?_, ?_, r9, r10⟩
  · rw [← hh]; exact r6
  · rw [← hh]; exact r7
  · rw [← hh]; exact r8
end Kit
end Jvm.Own
namespace Jvm.Own
open Jvm Jvm.ClassFile Sem Op Lib Jvm.Free Jvm.Stand Jvm.LawKit Jvm.RoadKit
def Dc (code : ByteArray) (pc : Nat) (i : Instr) (len pc' : Nat) : Prop := decode code pc = .ok (i, len) ∧ pc + len = pc'
def Db (code : ByteArray) (pc : Nat) (i : Instr) (len pc' : Nat) (o : Int) (pcT : Nat) : Prop := decode code pc = .ok (i, len) ∧ pc + len = pc' ∧ 0 ≤ (pc : Int) + o ∧ ((pc : Int) + o).toNat = pcT
/-- Java's x >>> y -/
def ushr (x y : Int32) : Int32 := (x.toUInt32 >>> (y &&& 31).toUInt32).toInt32
def ushrL (x : Int64) (y : Int32) : Int64 := (x.toUInt64 >>> (y &&& 0x3f).toInt64.toUInt64).toInt64
section Ops
variable {w : Bool} {K : IV} {Z : State} {a0 : Array Value} {EL : List (String × Nat)} {n0 : Nat} {ss0 ss : List Addr} {Q : Option Value → Heap → List Addr → Prop} {pc pc' pcT : Nat} {L L' : Array Slot} {st st' : List Value} {h h' : Heap} {k n : Nat} {own : String} {code : ByteArray} {ml : Nat} {rt : Option FieldType} {mn : String} {rf rc rs rl : Nat}
theorem irem_mod (x y : Int32) : x - (x / y) * y = x % y := by
  apply Int32.toInt_inj.mp
  have h1 := Int32.le_toInt (x % y)
  have h2 := Int32.toInt_lt (x % y)
  rw [Int32.toInt_sub, Int32.toInt_mul, Int32.toInt_div, Int.bmod_mul_bmod, Int.sub_bmod_bmod, Int.mul_comm (x.toInt.tdiv y.toInt), ← Int.tmod_def, ← Int32.toInt_mod]
  exact Int.bmod_eq_of_le_mul_two (by omega) (by omega)
theorem iadd (C : Cx w K Z a0 EL own code ml rt mn (Rm rf rc rs rl)) {x y : Int32} (d : Dc code pc .iadd 1 pc')  (G : Go w K Z EL n0 ss0 Q pc' L (.int (x + y) :: st) h ss k n) : Go w K Z EL n0 ss0 Q pc L (.int y :: .int x :: st) h ss k n := by
  obtain ⟨d1, rfl⟩ := d
  exact Go.plain (fun X t r => XS.iadd X C.1 rfl (hb C.2.1 d1) rfl r) G
theorem isub (C : Cx w K Z a0 EL own code ml rt mn (Rm rf rc rs rl)) {x y : Int32} (d : Dc code pc .isub 1 pc')  (G : Go w K Z EL n0 ss0 Q pc' L (.int (x - y) :: st) h ss k n) : Go w K Z EL n0 ss0 Q pc L (.int y :: .int x :: st) h ss k n := by
  obtain ⟨d1, rfl⟩ := d
  exact Go.plain (fun X t r => XS.isub X C.1 rfl (hb C.2.1 d1) rfl r) G
theorem imul (C : Cx w K Z a0 EL own code ml rt mn (Rm rf rc rs rl)) {x y : Int32} (d : Dc code pc .imul 1 pc')  (G : Go w K Z EL n0 ss0 Q pc' L (.int (x * y) :: st) h ss k n) : Go w K Z EL n0 ss0 Q pc L (.int y :: .int x :: st) h ss k n := by
  obtain ⟨d1, rfl⟩ := d
  exact Go.plain (fun X t r => XS.imul X C.1 rfl (hb C.2.1 d1) rfl r) G
theorem iand (C : Cx w K Z a0 EL own code ml rt mn (Rm rf rc rs rl)) {x y : Int32} (d : Dc code pc .iand 1 pc')  (G : Go w K Z EL n0 ss0 Q pc' L (.int (x &&& y) :: st) h ss k n) : Go w K Z EL n0 ss0 Q pc L (.int y :: .int x :: st) h ss k n := by
  obtain ⟨d1, rfl⟩ := d
  exact Go.plain (fun X t r => XS.iand X C.1 rfl (hb C.2.1 d1) rfl r) G
theorem ior (C : Cx w K Z a0 EL own code ml rt mn (Rm rf rc rs rl)) {x y : Int32} (d : Dc code pc .ior 1 pc')  (G : Go w K Z EL n0 ss0 Q pc' L (.int (x ||| y) :: st) h ss k n) : Go w K Z EL n0 ss0 Q pc L (.int y :: .int x :: st) h ss k n := by
  obtain ⟨d1, rfl⟩ := d
  exact Go.plain (fun X t r => XS.ior X C.1 rfl (hb C.2.1 d1) rfl r) G
theorem ixor (C : Cx w K Z a0 EL own code ml rt mn (Rm rf rc rs rl)) {x y : Int32} (d : Dc code pc .ixor 1 pc')  (G : Go w K Z EL n0 ss0 Q pc' L (.int (x ^^^ y) :: st) h ss k n) : Go w K Z EL n0 ss0 Q pc L (.int y :: .int x :: st) h ss k n := by
  obtain ⟨d1, rfl⟩ := d
  exact Go.plain (fun X t r => XS.ixor X C.1 rfl (hb C.2.1 d1) rfl r) G
theorem ishl (C : Cx w K Z a0 EL own code ml rt mn (Rm rf rc rs rl)) {x y : Int32} (d : Dc code pc .ishl 1 pc')  (G : Go w K Z EL n0 ss0 Q pc' L (.int (x <<< (y &&& 31)) :: st) h ss k n) : Go w K Z EL n0 ss0 Q pc L (.int y :: .int x :: st) h ss k n := by
  obtain ⟨d1, rfl⟩ := d
  exact Go.plain (fun X t r => XS.ishl X C.1 rfl (hb C.2.1 d1) rfl r) G
theorem ishr (C : Cx w K Z a0 EL own code ml rt mn (Rm rf rc rs rl)) {x y : Int32} (d : Dc code pc .ishr 1 pc')  (G : Go w K Z EL n0 ss0 Q pc' L (.int (x >>> (y &&& 31)) :: st) h ss k n) : Go w K Z EL n0 ss0 Q pc L (.int y :: .int x :: st) h ss k n := by
  obtain ⟨d1, rfl⟩ := d
  exact Go.plain (fun X t r => XS.ishr X C.1 rfl (hb C.2.1 d1) rfl r) G
theorem iushr (C : Cx w K Z a0 EL own code ml rt mn (Rm rf rc rs rl)) {x y : Int32} (d : Dc code pc .iushr 1 pc')  (G : Go w K Z EL n0 ss0 Q pc' L (.int (ushr x y) :: st) h ss k n) : Go w K Z EL n0 ss0 Q pc L (.int y :: .int x :: st) h ss k n := by
  obtain ⟨d1, rfl⟩ := d
  exact Go.plain (fun X t r => XS.iushr X C.1 rfl (hb C.2.1 d1) rfl r) G
theorem ladd (C : Cx w K Z a0 EL own code ml rt mn (Rm rf rc rs rl)) {x y : Int64} (d : Dc code pc .ladd 1 pc')  (G : Go w K Z EL n0 ss0 Q pc' L (.long (x + y) :: st) h ss k n) : Go w K Z EL n0 ss0 Q pc L (.long y :: .long x :: st) h ss k n := by
  obtain ⟨d1, rfl⟩ := d
  exact Go.plain (fun X t r => XS.ladd X C.1 rfl (hb C.2.1 d1) rfl r) G
theorem lsub (C : Cx w K Z a0 EL own code ml rt mn (Rm rf rc rs rl)) {x y : Int64} (d : Dc code pc .lsub 1 pc')  (G : Go w K Z EL n0 ss0 Q pc' L (.long (x - y) :: st) h ss k n) : Go w K Z EL n0 ss0 Q pc L (.long y :: .long x :: st) h ss k n := by
  obtain ⟨d1, rfl⟩ := d
  exact Go.plain (fun X t r => XS.lsub X C.1 rfl (hb C.2.1 d1) rfl r) G
theorem lmul (C : Cx w K Z a0 EL own code ml rt mn (Rm rf rc rs rl)) {x y : Int64} (d : Dc code pc .lmul 1 pc')  (G : Go w K Z EL n0 ss0 Q pc' L (.long (x * y) :: st) h ss k n) : Go w K Z EL n0 ss0 Q pc L (.long y :: .long x :: st) h ss k n := by
  obtain ⟨d1, rfl⟩ := d
  exact Go.plain (fun X t r => XS.lmul X C.1 rfl (hb C.2.1 d1) rfl r) G
theorem land (C : Cx w K Z a0 EL own code ml rt mn (Rm rf rc rs rl)) {x y : Int64} (d : Dc code pc .land 1 pc')  (G : Go w K Z EL n0 ss0 Q pc' L (.long (x &&& y) :: st) h ss k n) : Go w K Z EL n0 ss0 Q pc L (.long y :: .long x :: st) h ss k n := by
  obtain ⟨d1, rfl⟩ := d
  exact Go.plain (fun X t r => XS.land X C.1 rfl (hb C.2.1 d1) rfl r) G
theorem lor (C : Cx w K Z a0 EL own code ml rt mn (Rm rf rc rs rl)) {x y : Int64} (d : Dc code pc .lor 1 pc')  (G : Go w K Z EL n0 ss0 Q pc' L (.long (x ||| y) :: st) h ss k n) : Go w K Z EL n0 ss0 Q pc L (.long y :: .long x :: st) h ss k n := by
  obtain ⟨d1, rfl⟩ := d
  exact Go.plain (fun X t r => XS.lor X C.1 rfl (hb C.2.1 d1) rfl r) G
theorem lushr (C : Cx w K Z a0 EL own code ml rt mn (Rm rf rc rs rl)) {x : Int64} {y : Int32} (d : Dc code pc .lushr 1 pc')  (G : Go w K Z EL n0 ss0 Q pc' L (.long (ushrL x y) :: st) h ss k n) : Go w K Z EL n0 ss0 Q pc L (.int y :: .long x :: st) h ss k n := by
  obtain ⟨d1, rfl⟩ := d
  exact Go.plain (fun X t r => XS.lushr X C.1 rfl (hb C.2.1 d1) rfl r) G
theorem idiv (C : Cx w K Z a0 EL own code ml rt mn (Rm rf rc rs rl)) {x y : Int32} (d : Dc code pc .idiv 1 pc') (hy : y ≠ 0) (G : Go w K Z EL n0 ss0 Q pc' L (.int (x / y) :: st) h ss k n) : Go w K Z EL n0 ss0 Q pc L (.int y :: .int x :: st) h ss k n := by
  obtain ⟨d1, rfl⟩ := d
  exact Go.plain (fun X t r => XS.idiv X C.1 rfl (hb C.2.1 d1) rfl hy r) G
theorem irem (C : Cx w K Z a0 EL own code ml rt mn (Rm rf rc rs rl)) {x y : Int32} (d : Dc code pc .irem 1 pc') (hy : y ≠ 0) (G : Go w K Z EL n0 ss0 Q pc' L (.int (x % y) :: st) h ss k n) : Go w K Z EL n0 ss0 Q pc L (.int y :: .int x :: st) h ss k n := by
  obtain ⟨d1, rfl⟩ := d
  rw [← irem_mod] at G
  exact Go.plain (fun X t r => XS.irem X C.1 rfl (hb C.2.1 d1) rfl hy r) G
theorem lrem (C : Cx w K Z a0 EL own code ml rt mn (Rm rf rc rs rl)) {x y : Int64} (d : Dc code pc .lrem 1 pc') (hy : y ≠ 0) (G : Go w K Z EL n0 ss0 Q pc' L (.long (x % y) :: st) h ss k n) : Go w K Z EL n0 ss0 Q pc L (.long y :: .long x :: st) h ss k n := by
  obtain ⟨d1, rfl⟩ := d
  rw [← lrem_mod] at G
  exact Go.plain (fun X t r => XS.lrem X C.1 rfl (hb C.2.1 d1) rfl hy r) G
theorem lcmp (C : Cx w K Z a0 EL own code ml rt mn (Rm rf rc rs rl)) {x y : Int64} (d : Dc code pc .lcmp 1 pc')  (G : Go w K Z EL n0 ss0 Q pc' L (.int (lcmpW x y) :: st) h ss k n) : Go w K Z EL n0 ss0 Q pc L (.long y :: .long x :: st) h ss k n := by
  obtain ⟨d1, rfl⟩ := d
  exact Go.plain (fun X t r => XS.lcmp X C.1 rfl (hb C.2.1 d1) rfl r) G
theorem ineg (C : Cx w K Z a0 EL own code ml rt mn (Rm rf rc rs rl)) {x : Int32} (d : Dc code pc .ineg 1 pc')  (G : Go w K Z EL n0 ss0 Q pc' L (.int (-x) :: st) h ss k n) : Go w K Z EL n0 ss0 Q pc L (.int x :: st) h ss k n := by
  obtain ⟨d1, rfl⟩ := d
  exact Go.plain (fun X t r => XS.ineg X C.1 rfl (hb C.2.1 d1) rfl r) G
theorem l2i (C : Cx w K Z a0 EL own code ml rt mn (Rm rf rc rs rl)) {x : Int64} (d : Dc code pc .l2i 1 pc')  (G : Go w K Z EL n0 ss0 Q pc' L (.int x.toInt32 :: st) h ss k n) : Go w K Z EL n0 ss0 Q pc L (.long x :: st) h ss k n := by
  obtain ⟨d1, rfl⟩ := d
  exact Go.plain (fun X t r => XS.l2i X C.1 rfl (hb C.2.1 d1) rfl r) G
theorem i2l (C : Cx w K Z a0 EL own code ml rt mn (Rm rf rc rs rl)) {x : Int32} (d : Dc code pc .i2l 1 pc')  (G : Go w K Z EL n0 ss0 Q pc' L (.long x.toInt64 :: st) h ss k n) : Go w K Z EL n0 ss0 Q pc L (.int x :: st) h ss k n := by
  obtain ⟨d1, rfl⟩ := d
  exact Go.plain (fun X t r => XS.i2l X C.1 rfl (hb C.2.1 d1) rfl r) G
theorem i2c (C : Cx w K Z a0 EL own code ml rt mn (Rm rf rc rs rl)) {x : Int32} (d : Dc code pc .i2c 1 pc')  (G : Go w K Z EL n0 ss0 Q pc' L (.int (nar .char x) :: st) h ss k n) : Go w K Z EL n0 ss0 Q pc L (.int x :: st) h ss k n := by
  obtain ⟨d1, rfl⟩ := d
  exact Go.plain (fun X t r => XS.i2c X C.1 rfl (hb C.2.1 d1) rfl r) G
theorem i2b (C : Cx w K Z a0 EL own code ml rt mn (Rm rf rc rs rl)) {x : Int32} (d : Dc code pc .i2b 1 pc')  (G : Go w K Z EL n0 ss0 Q pc' L (.int (nar .byte x) :: st) h ss k n) : Go w K Z EL n0 ss0 Q pc L (.int x :: st) h ss k n := by
  obtain ⟨d1, rfl⟩ := d
  exact Go.plain (fun X t r => XS.i2b X C.1 rfl (hb C.2.1 d1) rfl r) G
theorem i2s (C : Cx w K Z a0 EL own code ml rt mn (Rm rf rc rs rl)) {x : Int32} (d : Dc code pc .i2s 1 pc')  (G : Go w K Z EL n0 ss0 Q pc' L (.int (nar .short x) :: st) h ss k n) : Go w K Z EL n0 ss0 Q pc L (.int x :: st) h ss k n := by
  obtain ⟨d1, rfl⟩ := d
  exact Go.plain (fun X t r => XS.i2s X C.1 rfl (hb C.2.1 d1) rfl r) G
theorem dup (C : Cx w K Z a0 EL own code ml rt mn (Rm rf rc rs rl)) {x : Value} (d : Dc code pc .dup 1 pc') (hc : x.category = 1) (G : Go w K Z EL n0 ss0 Q pc' L (x :: x :: st) h ss k n) : Go w K Z EL n0 ss0 Q pc L (x :: st) h ss k n := by
  obtain ⟨d1, rfl⟩ := d
  exact Go.plain (fun X t r => XS.dup X C.1 rfl (hb C.2.1 d1) rfl hc r) G
theorem pop (C : Cx w K Z a0 EL own code ml rt mn (Rm rf rc rs rl)) {x : Value} (d : Dc code pc .pop 1 pc') (hc : x.category = 1) (G : Go w K Z EL n0 ss0 Q pc' L st h ss k n) : Go w K Z EL n0 ss0 Q pc L (x :: st) h ss k n := by
  obtain ⟨d1, rfl⟩ := d
  exact Go.plain (fun X t r => XS.pop X C.1 rfl (hb C.2.1 d1) rfl hc r) G
theorem dupX1 (C : Cx w K Z a0 EL own code ml rt mn (Rm rf rc rs rl)) {x y : Value} (d : Dc code pc .dup_x1 1 pc') (hc : x.category = 1) (hc' : y.category = 1) (G : Go w K Z EL n0 ss0 Q pc' L (x :: y :: x :: st) h ss k n) : Go w K Z EL n0 ss0 Q pc L (x :: y :: st) h ss k n := by
  obtain ⟨d1, rfl⟩ := d
  exact Go.plain (fun X t r => XS.dupX1 X C.1 rfl (hb C.2.1 d1) rfl hc hc' r) G
theorem dup2 (C : Cx w K Z a0 EL own code ml rt mn (Rm rf rc rs rl)) {x y : Value} (d : Dc code pc .dup2 1 pc') (hc : x.category = 1) (hc' : y.category = 1) (G : Go w K Z EL n0 ss0 Q pc' L (x :: y :: x :: y :: st) h ss k n) : Go w K Z EL n0 ss0 Q pc L (x :: y :: st) h ss k n := by
  obtain ⟨d1, rfl⟩ := d
  exact Go.plain (fun X t r => XT.dup2 X C.1 rfl (hb C.2.1 d1) rfl hc hc' r) G
theorem aconstNull (C : Cx w K Z a0 EL own code ml rt mn (Rm rf rc rs rl))  (d : Dc code pc .aconst_null 1 pc')  (G : Go w K Z EL n0 ss0 Q pc' L (.null :: st) h ss k n) : Go w K Z EL n0 ss0 Q pc L st h ss k n := by
  obtain ⟨d1, rfl⟩ := d
  exact Go.plain (fun X t r => XS.aconstNull X C.1 rfl (hb C.2.1 d1)  r) G
theorem iconst (C : Cx w K Z a0 EL own code ml rt mn (Rm rf rc rs rl)) {i : Int} {v : Int32} (d : Dc code pc (.iconst i) 1 pc') (hv : Int32.ofInt i = v) (G : Go w K Z EL n0 ss0 Q pc' L (.int v :: st) h ss k n) : Go w K Z EL n0 ss0 Q pc L st h ss k n := by
  obtain ⟨d1, rfl⟩ := d
  subst hv
  exact Go.plain (fun X t r => XS.iconst X C.1 rfl (hb C.2.1 d1) r) G
theorem bipush (C : Cx w K Z a0 EL own code ml rt mn (Rm rf rc rs rl)) {i : Int} {v : Int32} (d : Dc code pc (.bipush i) 2 pc') (hv : (Int8.ofInt i).toInt32 = v) (G : Go w K Z EL n0 ss0 Q pc' L (.int v :: st) h ss k n) : Go w K Z EL n0 ss0 Q pc L st h ss k n := by
  obtain ⟨d1, rfl⟩ := d
  subst hv
  exact Go.plain (fun X t r => XS.bipush X C.1 rfl (hb C.2.1 d1) r) G
theorem sipush (C : Cx w K Z a0 EL own code ml rt mn (Rm rf rc rs rl)) {i : Int} {v : Int32} (d : Dc code pc (.sipush i) 3 pc') (hv : (Int16.ofInt i).toInt32 = v) (G : Go w K Z EL n0 ss0 Q pc' L (.int v :: st) h ss k n) : Go w K Z EL n0 ss0 Q pc L st h ss k n := by
  obtain ⟨d1, rfl⟩ := d
  subst hv
  exact Go.plain (fun X t r => XS.sipush X C.1 rfl (hb C.2.1 d1) r) G
theorem lconst (C : Cx w K Z a0 EL own code ml rt mn (Rm rf rc rs rl)) {i : Fin 2} {v : Int64} (d : Dc code pc (.lconst i) 1 pc') (hv : Int64.ofNat i = v) (G : Go w K Z EL n0 ss0 Q pc' L (.long v :: st) h ss k n) : Go w K Z EL n0 ss0 Q pc L st h ss k n := by
  obtain ⟨d1, rfl⟩ := d
  subst hv
  exact Go.plain (fun X t r => XS.lconst X C.1 rfl (hb C.2.1 d1) r) G
theorem iloadN (C : Cx w K Z a0 EL own code ml rt mn (Rm rf rc rs rl)) {j : Fin 4} {v : Int32} (d : Dc code pc (.iload_n j) 1 pc') (hl : L[j.val]? = some (.val (.int v))) (G : Go w K Z EL n0 ss0 Q pc' L (.int v :: st) h ss k n) : Go w K Z EL n0 ss0 Q pc L st h ss k n := by
  obtain ⟨d1, rfl⟩ := d
  exact Go.plain (fun X t r => XS.iloadN X C.1 rfl (hb C.2.1 d1) hl r) G
theorem iload (C : Cx w K Z a0 EL own code ml rt mn (Rm rf rc rs rl)) {j : Nat} {v : Int32} (d : Dc code pc (.iload j) 2 pc') (hl : L[j]? = some (.val (.int v))) (G : Go w K Z EL n0 ss0 Q pc' L (.int v :: st) h ss k n) : Go w K Z EL n0 ss0 Q pc L st h ss k n := by
  obtain ⟨d1, rfl⟩ := d
  exact Go.plain (fun X t r => XS.iload X C.1 rfl (hb C.2.1 d1) hl r) G
theorem lloadN (C : Cx w K Z a0 EL own code ml rt mn (Rm rf rc rs rl)) {j : Fin 4} {v : Int64} (d : Dc code pc (.lload_n j) 1 pc') (hl : L[j.val]? = some (.val (.long v))) (G : Go w K Z EL n0 ss0 Q pc' L (.long v :: st) h ss k n) : Go w K Z EL n0 ss0 Q pc L st h ss k n := by
  obtain ⟨d1, rfl⟩ := d
  exact Go.plain (fun X t r => XS.lloadN X C.1 rfl (hb C.2.1 d1) hl r) G
theorem lload (C : Cx w K Z a0 EL own code ml rt mn (Rm rf rc rs rl)) {j : Nat} {v : Int64} (d : Dc code pc (.lload j) 2 pc') (hl : L[j]? = some (.val (.long v))) (G : Go w K Z EL n0 ss0 Q pc' L (.long v :: st) h ss k n) : Go w K Z EL n0 ss0 Q pc L st h ss k n := by
  obtain ⟨d1, rfl⟩ := d
  exact Go.plain (fun X t r => XS.lload X C.1 rfl (hb C.2.1 d1) hl r) G
theorem aloadN (C : Cx w K Z a0 EL own code ml rt mn (Rm rf rc rs rl)) {j : Fin 4} {v : Value} (d : Dc code pc (.aload_n j) 1 pc') (hl : L[j.val]? = some (.val v)) (hv : v.isRef = true) (G : Go w K Z EL n0 ss0 Q pc' L (v :: st) h ss k n) : Go w K Z EL n0 ss0 Q pc L st h ss k n := by
  obtain ⟨d1, rfl⟩ := d
  exact Go.plain (fun X t r => XS.aloadN X C.1 rfl (hb C.2.1 d1) hl hv r) G
theorem aload (C : Cx w K Z a0 EL own code ml rt mn (Rm rf rc rs rl)) {j : Nat} {v : Value} (d : Dc code pc (.aload j) 2 pc') (hl : L[j]? = some (.val v)) (hv : v.isRef = true) (G : Go w K Z EL n0 ss0 Q pc' L (v :: st) h ss k n) : Go w K Z EL n0 ss0 Q pc L st h ss k n := by
  obtain ⟨d1, rfl⟩ := d
  exact Go.plain (fun X t r => XS.aload X C.1 rfl (hb C.2.1 d1) hl hv r) G
theorem istoreN (C : Cx w K Z a0 EL own code ml rt mn (Rm rf rc rs rl)) {j : Fin 4} {v : Int32} (d : Dc code pc (.istore_n j) 1 pc') (hl : storeLocals L j (.int v) = some L') (G : Go w K Z EL n0 ss0 Q pc' L' st h ss k n) : Go w K Z EL n0 ss0 Q pc L (.int v :: st) h ss k n := by
  obtain ⟨d1, rfl⟩ := d
  exact Go.plain (fun X t r => XS.istoreN X C.1 rfl (hb C.2.1 d1) rfl hl r) G
theorem istore (C : Cx w K Z a0 EL own code ml rt mn (Rm rf rc rs rl)) {j : Nat} {v : Int32} (d : Dc code pc (.istore j) 2 pc') (hl : storeLocals L j (.int v) = some L') (G : Go w K Z EL n0 ss0 Q pc' L' st h ss k n) : Go w K Z EL n0 ss0 Q pc L (.int v :: st) h ss k n := by
  obtain ⟨d1, rfl⟩ := d
  exact Go.plain (fun X t r => XS.istore X C.1 rfl (hb C.2.1 d1) rfl hl r) G
theorem lstoreN (C : Cx w K Z a0 EL own code ml rt mn (Rm rf rc rs rl)) {j : Fin 4} {v : Int64} (d : Dc code pc (.lstore_n j) 1 pc') (hl : storeLocals L j (.long v) = some L') (G : Go w K Z EL n0 ss0 Q pc' L' st h ss k n) : Go w K Z EL n0 ss0 Q pc L (.long v :: st) h ss k n := by
  obtain ⟨d1, rfl⟩ := d
  exact Go.plain (fun X t r => XS.lstoreN X C.1 rfl (hb C.2.1 d1) rfl hl r) G
theorem lstore (C : Cx w K Z a0 EL own code ml rt mn (Rm rf rc rs rl)) {j : Nat} {v : Int64} (d : Dc code pc (.lstore j) 2 pc') (hl : storeLocals L j (.long v) = some L') (G : Go w K Z EL n0 ss0 Q pc' L' st h ss k n) : Go w K Z EL n0 ss0 Q pc L (.long v :: st) h ss k n := by
  obtain ⟨d1, rfl⟩ := d
  exact Go.plain (fun X t r => XS.lstore X C.1 rfl (hb C.2.1 d1) rfl hl r) G
theorem astoreN (C : Cx w K Z a0 EL own code ml rt mn (Rm rf rc rs rl)) {j : Fin 4} {v : Value} (d : Dc code pc (.astore_n j) 1 pc') (hv : v.isRef = true) (hl : storeLocals L j v = some L') (G : Go w K Z EL n0 ss0 Q pc' L' st h ss k n) : Go w K Z EL n0 ss0 Q pc L (v :: st) h ss k n := by
  obtain ⟨d1, rfl⟩ := d
  exact Go.plain (fun X t r => XS.astoreN X C.1 rfl (hb C.2.1 d1) rfl hv hl r) G
theorem astore (C : Cx w K Z a0 EL own code ml rt mn (Rm rf rc rs rl)) {j : Nat} {v : Value} (d : Dc code pc (.astore j) 2 pc') (hv : v.isRef = true) (hl : storeLocals L j v = some L') (G : Go w K Z EL n0 ss0 Q pc' L' st h ss k n) : Go w K Z EL n0 ss0 Q pc L (v :: st) h ss k n := by
  obtain ⟨d1, rfl⟩ := d
  exact Go.plain (fun X t r => XS.astore X C.1 rfl (hb C.2.1 d1) rfl hv hl r) G
theorem iinc (C : Cx w K Z a0 EL own code ml rt mn (Rm rf rc rs rl)) {j : Nat} {cst : Int} {x y : Int32} (d : Dc code pc (.iinc j cst) 3 pc') (hl : L[j]? = some (.val (.int x))) (hy : x + Int32.ofInt cst = y) (hl' : storeLocals L j (.int y) = some L') (G : Go w K Z EL n0 ss0 Q pc' L' st h ss k n) : Go w K Z EL n0 ss0 Q pc L st h ss k n := by
  obtain ⟨d1, rfl⟩ := d
  subst hy
  exact Go.plain (fun X t r => XS.iinc X C.1 rfl (hb C.2.1 d1) hl hl' r) G
theorem goto_ (C : Cx w K Z a0 EL own code ml rt mn (Rm rf rc rs rl)) {o : Int} (d : Db code pc (.goto o) 3 pc' o pcT) (G : Go w K Z EL n0 ss0 Q pcT L st h ss k n) : Go w K Z EL n0 ss0 Q pc L st h ss k n := by
  obtain ⟨d1, rfl, d3, d4⟩ := d
  exact Go.plain (fun X t r => XS.goto X C.1 rfl rfl (hb C.2.1 d1) d3 d4 r) G
theorem cmp_eq {x y : Int32} (q : x = y) : if_icmp.holds .eq x y = true := by simp [if_icmp.holds, q]
theorem cmp_neq {x y : Int32} (q : ¬ x = y) : if_icmp.holds .eq x y = false := by simp [if_icmp.holds, q]
theorem cmp_ne {x y : Int32} (q : ¬ x = y) : if_icmp.holds .ne x y = true := by simp [if_icmp.holds, q]
theorem cmp_nne {x y : Int32} (q : ¬ ¬ x = y) : if_icmp.holds .ne x y = false := by simp [if_icmp.holds, Classical.not_not.mp q]
theorem cmp_lt {x y : Int32} (q : x < y) : if_icmp.holds .lt x y = true := by simp [if_icmp.holds, q]
theorem cmp_nlt {x y : Int32} (q : ¬ x < y) : if_icmp.holds .lt x y = false := by simp [if_icmp.holds, q]
theorem cmp_ge {x y : Int32} (q : ¬ x < y) : if_icmp.holds .ge x y = true := by simp [if_icmp.holds, Int32.not_lt.mp q]
theorem cmp_nge {x y : Int32} (q : ¬ ¬ x < y) : if_icmp.holds .ge x y = false := by simp [if_icmp.holds, Classical.not_not.mp q]
theorem cmp_gt {x y : Int32} (q : y < x) : if_icmp.holds .gt x y = true := by simp [if_icmp.holds, q]
theorem cmp_ngt {x y : Int32} (q : ¬ y < x) : if_icmp.holds .gt x y = false := by simp [if_icmp.holds, q]
theorem cmp_le {x y : Int32} (q : ¬ y < x) : if_icmp.holds .le x y = true := by simp [if_icmp.holds, Int32.not_lt.mp q]
theorem cmp_nle {x y : Int32} (q : ¬ ¬ y < x) : if_icmp.holds .le x y = false := by simp [if_icmp.holds, Classical.not_not.mp q]
theorem icmp_eq (C : Cx w K Z a0 EL own code ml rt mn (Rm rf rc rs rl)) {x y : Int32} {o : Int} (d : Db code pc (.if_icmp .eq o) 3 pc' o pcT) (G1 : x = y → Go w K Z EL n0 ss0 Q pcT L st h ss k n) (G2 : ¬ x = y → Go w K Z EL n0 ss0 Q pc' L st h ss k n) : Go w K Z EL n0 ss0 Q pc L (.int y :: .int x :: st) h ss k n := by
  obtain ⟨d1, rfl, d3, d4⟩ := d
  by_cases q : x = y
  · exact Go.plain (fun X t r => XS.icmpYes X C.1 rfl rfl (hb C.2.1 d1) rfl (cmp_eq q) d3 d4 r) (G1 q)
  · exact Go.plain (fun X t r => XS.icmpNo X C.1 rfl (hb C.2.1 d1) rfl (cmp_neq q) r) (G2 q)
theorem if_eq (C : Cx w K Z a0 EL own code ml rt mn (Rm rf rc rs rl)) {x : Int32} {o : Int} (d : Db code pc (.ifCond .eq o) 3 pc' o pcT) (G1 : x = (0 : Int32) → Go w K Z EL n0 ss0 Q pcT L st h ss k n) (G2 : ¬ x = (0 : Int32) → Go w K Z EL n0 ss0 Q pc' L st h ss k n) : Go w K Z EL n0 ss0 Q pc L (.int x :: st) h ss k n := by
  obtain ⟨d1, rfl, d3, d4⟩ := d
  by_cases q : x = (0 : Int32)
  · exact Go.plain (fun X t r => XS.ifYes X C.1 rfl rfl (hb C.2.1 d1) rfl ((if0 _ _).trans (cmp_eq q)) d3 d4 r) (G1 q)
  · exact Go.plain (fun X t r => XS.ifNo X C.1 rfl (hb C.2.1 d1) rfl ((if0 _ _).trans (cmp_neq q)) r) (G2 q)
theorem icmp_ne (C : Cx w K Z a0 EL own code ml rt mn (Rm rf rc rs rl)) {x y : Int32} {o : Int} (d : Db code pc (.if_icmp .ne o) 3 pc' o pcT) (G1 : ¬ x = y → Go w K Z EL n0 ss0 Q pcT L st h ss k n) (G2 : x = y → Go w K Z EL n0 ss0 Q pc' L st h ss k n) : Go w K Z EL n0 ss0 Q pc L (.int y :: .int x :: st) h ss k n := by
  obtain ⟨d1, rfl, d3, d4⟩ := d
  by_cases q : ¬ x = y
  · exact Go.plain (fun X t r => XS.icmpYes X C.1 rfl rfl (hb C.2.1 d1) rfl (cmp_ne q) d3 d4 r) (G1 q)
  · exact Go.plain (fun X t r => XS.icmpNo X C.1 rfl (hb C.2.1 d1) rfl (cmp_nne q) r) (G2 (Classical.not_not.mp q))
theorem if_ne (C : Cx w K Z a0 EL own code ml rt mn (Rm rf rc rs rl)) {x : Int32} {o : Int} (d : Db code pc (.ifCond .ne o) 3 pc' o pcT) (G1 : ¬ x = (0 : Int32) → Go w K Z EL n0 ss0 Q pcT L st h ss k n) (G2 : x = (0 : Int32) → Go w K Z EL n0 ss0 Q pc' L st h ss k n) : Go w K Z EL n0 ss0 Q pc L (.int x :: st) h ss k n := by
  obtain ⟨d1, rfl, d3, d4⟩ := d
  by_cases q : ¬ x = (0 : Int32)
  · exact Go.plain (fun X t r => XS.ifYes X C.1 rfl rfl (hb C.2.1 d1) rfl ((if0 _ _).trans (cmp_ne q)) d3 d4 r) (G1 q)
  · exact Go.plain (fun X t r => XS.ifNo X C.1 rfl (hb C.2.1 d1) rfl ((if0 _ _).trans (cmp_nne q)) r) (G2 (Classical.not_not.mp q))
theorem icmp_lt (C : Cx w K Z a0 EL own code ml rt mn (Rm rf rc rs rl)) {x y : Int32} {o : Int} (d : Db code pc (.if_icmp .lt o) 3 pc' o pcT) (G1 : x < y → Go w K Z EL n0 ss0 Q pcT L st h ss k n) (G2 : ¬ x < y → Go w K Z EL n0 ss0 Q pc' L st h ss k n) : Go w K Z EL n0 ss0 Q pc L (.int y :: .int x :: st) h ss k n := by
  obtain ⟨d1, rfl, d3, d4⟩ := d
  by_cases q : x < y
  · exact Go.plain (fun X t r => XS.icmpYes X C.1 rfl rfl (hb C.2.1 d1) rfl (cmp_lt q) d3 d4 r) (G1 q)
  · exact Go.plain (fun X t r => XS.icmpNo X C.1 rfl (hb C.2.1 d1) rfl (cmp_nlt q) r) (G2 q)
theorem if_lt (C : Cx w K Z a0 EL own code ml rt mn (Rm rf rc rs rl)) {x : Int32} {o : Int} (d : Db code pc (.ifCond .lt o) 3 pc' o pcT) (G1 : x < (0 : Int32) → Go w K Z EL n0 ss0 Q pcT L st h ss k n) (G2 : ¬ x < (0 : Int32) → Go w K Z EL n0 ss0 Q pc' L st h ss k n) : Go w K Z EL n0 ss0 Q pc L (.int x :: st) h ss k n := by
  obtain ⟨d1, rfl, d3, d4⟩ := d
  by_cases q : x < (0 : Int32)
  · exact Go.plain (fun X t r => XS.ifYes X C.1 rfl rfl (hb C.2.1 d1) rfl ((if0 _ _).trans (cmp_lt q)) d3 d4 r) (G1 q)
  · exact Go.plain (fun X t r => XS.ifNo X C.1 rfl (hb C.2.1 d1) rfl ((if0 _ _).trans (cmp_nlt q)) r) (G2 q)
theorem icmp_ge (C : Cx w K Z a0 EL own code ml rt mn (Rm rf rc rs rl)) {x y : Int32} {o : Int} (d : Db code pc (.if_icmp .ge o) 3 pc' o pcT) (G1 : ¬ x < y → Go w K Z EL n0 ss0 Q pcT L st h ss k n) (G2 : x < y → Go w K Z EL n0 ss0 Q pc' L st h ss k n) : Go w K Z EL n0 ss0 Q pc L (.int y :: .int x :: st) h ss k n := by
  obtain ⟨d1, rfl, d3, d4⟩ := d
  by_cases q : ¬ x < y
  · exact Go.plain (fun X t r => XS.icmpYes X C.1 rfl rfl (hb C.2.1 d1) rfl (cmp_ge q) d3 d4 r) (G1 q)
  · exact Go.plain (fun X t r => XS.icmpNo X C.1 rfl (hb C.2.1 d1) rfl (cmp_nge q) r) (G2 (Classical.not_not.mp q))
theorem if_ge (C : Cx w K Z a0 EL own code ml rt mn (Rm rf rc rs rl)) {x : Int32} {o : Int} (d : Db code pc (.ifCond .ge o) 3 pc' o pcT) (G1 : ¬ x < (0 : Int32) → Go w K Z EL n0 ss0 Q pcT L st h ss k n) (G2 : x < (0 : Int32) → Go w K Z EL n0 ss0 Q pc' L st h ss k n) : Go w K Z EL n0 ss0 Q pc L (.int x :: st) h ss k n := by
  obtain ⟨d1, rfl, d3, d4⟩ := d
  by_cases q : ¬ x < (0 : Int32)
  · exact Go.plain (fun X t r => XS.ifYes X C.1 rfl rfl (hb C.2.1 d1) rfl ((if0 _ _).trans (cmp_ge q)) d3 d4 r) (G1 q)
  · exact Go.plain (fun X t r => XS.ifNo X C.1 rfl (hb C.2.1 d1) rfl ((if0 _ _).trans (cmp_nge q)) r) (G2 (Classical.not_not.mp q))
theorem icmp_gt (C : Cx w K Z a0 EL own code ml rt mn (Rm rf rc rs rl)) {x y : Int32} {o : Int} (d : Db code pc (.if_icmp .gt o) 3 pc' o pcT) (G1 : y < x → Go w K Z EL n0 ss0 Q pcT L st h ss k n) (G2 : ¬ y < x → Go w K Z EL n0 ss0 Q pc' L st h ss k n) : Go w K Z EL n0 ss0 Q pc L (.int y :: .int x :: st) h ss k n := by
  obtain ⟨d1, rfl, d3, d4⟩ := d
  by_cases q : y < x
  · exact Go.plain (fun X t r => XS.icmpYes X C.1 rfl rfl (hb C.2.1 d1) rfl (cmp_gt q) d3 d4 r) (G1 q)
  · exact Go.plain (fun X t r => XS.icmpNo X C.1 rfl (hb C.2.1 d1) rfl (cmp_ngt q) r) (G2 q)
theorem if_gt (C : Cx w K Z a0 EL own code ml rt mn (Rm rf rc rs rl)) {x : Int32} {o : Int} (d : Db code pc (.ifCond .gt o) 3 pc' o pcT) (G1 : (0 : Int32) < x → Go w K Z EL n0 ss0 Q pcT L st h ss k n) (G2 : ¬ (0 : Int32) < x → Go w K Z EL n0 ss0 Q pc' L st h ss k n) : Go w K Z EL n0 ss0 Q pc L (.int x :: st) h ss k n := by
  obtain ⟨d1, rfl, d3, d4⟩ := d
  by_cases q : (0 : Int32) < x
  · exact Go.plain (fun X t r => XS.ifYes X C.1 rfl rfl (hb C.2.1 d1) rfl ((if0 _ _).trans (cmp_gt q)) d3 d4 r) (G1 q)
  · exact Go.plain (fun X t r => XS.ifNo X C.1 rfl (hb C.2.1 d1) rfl ((if0 _ _).trans (cmp_ngt q)) r) (G2 q)
theorem icmp_le (C : Cx w K Z a0 EL own code ml rt mn (Rm rf rc rs rl)) {x y : Int32} {o : Int} (d : Db code pc (.if_icmp .le o) 3 pc' o pcT) (G1 : ¬ y < x → Go w K Z EL n0 ss0 Q pcT L st h ss k n) (G2 : y < x → Go w K Z EL n0 ss0 Q pc' L st h ss k n) : Go w K Z EL n0 ss0 Q pc L (.int y :: .int x :: st) h ss k n := by
  obtain ⟨d1, rfl, d3, d4⟩ := d
  by_cases q : ¬ y < x
  · exact Go.plain (fun X t r => XS.icmpYes X C.1 rfl rfl (hb C.2.1 d1) rfl (cmp_le q) d3 d4 r) (G1 q)
  · exact Go.plain (fun X t r => XS.icmpNo X C.1 rfl (hb C.2.1 d1) rfl (cmp_nle q) r) (G2 (Classical.not_not.mp q))
theorem if_le (C : Cx w K Z a0 EL own code ml rt mn (Rm rf rc rs rl)) {x : Int32} {o : Int} (d : Db code pc (.ifCond .le o) 3 pc' o pcT) (G1 : ¬ (0 : Int32) < x → Go w K Z EL n0 ss0 Q pcT L st h ss k n) (G2 : (0 : Int32) < x → Go w K Z EL n0 ss0 Q pc' L st h ss k n) : Go w K Z EL n0 ss0 Q pc L (.int x :: st) h ss k n := by
  obtain ⟨d1, rfl, d3, d4⟩ := d
  by_cases q : ¬ (0 : Int32) < x
  · exact Go.plain (fun X t r => XS.ifYes X C.1 rfl rfl (hb C.2.1 d1) rfl ((if0 _ _).trans (cmp_le q)) d3 d4 r) (G1 q)
  · exact Go.plain (fun X t r => XS.ifNo X C.1 rfl (hb C.2.1 d1) rfl ((if0 _ _).trans (cmp_nle q)) r) (G2 (Classical.not_not.mp q))
theorem ifnullY (C : Cx w K Z a0 EL own code ml rt mn (Rm rf rc rs rl)) {b : Addr} {o : Int} (d : Db code pc (.ifnull o) 3 pc' o pcT) (G : Go w K Z EL n0 ss0 Q pcT L st h ss k n) : Go w K Z EL n0 ss0 Q pc L (.null :: st) h ss k n := by
  obtain ⟨d1, rfl, d3, d4⟩ := d
  exact Go.plain (fun X t r => XS.ifnullYes X C.1 rfl rfl (hb C.2.1 d1) rfl d3 d4 r) G
theorem ifnullN (C : Cx w K Z a0 EL own code ml rt mn (Rm rf rc rs rl)) {b : Addr} {o : Int} (d : Db code pc (.ifnull o) 3 pc' o pcT) (G : Go w K Z EL n0 ss0 Q pc' L st h ss k n) : Go w K Z EL n0 ss0 Q pc L (.ref b :: st) h ss k n := by
  obtain ⟨d1, rfl, d3, d4⟩ := d
  exact Go.plain (fun X t r => XS.ifnullNo X C.1 rfl (hb C.2.1 d1) rfl r) G
theorem ifnonnullY (C : Cx w K Z a0 EL own code ml rt mn (Rm rf rc rs rl)) {b : Addr} {o : Int} (d : Db code pc (.ifnonnull o) 3 pc' o pcT) (G : Go w K Z EL n0 ss0 Q pcT L st h ss k n) : Go w K Z EL n0 ss0 Q pc L (.ref b :: st) h ss k n := by
  obtain ⟨d1, rfl, d3, d4⟩ := d
  exact Go.plain (fun X t r => XS.ifnonnullYes X C.1 rfl rfl (hb C.2.1 d1) rfl d3 d4 r) G
theorem ifnonnullN (C : Cx w K Z a0 EL own code ml rt mn (Rm rf rc rs rl)) {b : Addr} {o : Int} (d : Db code pc (.ifnonnull o) 3 pc' o pcT) (G : Go w K Z EL n0 ss0 Q pc' L st h ss k n) : Go w K Z EL n0 ss0 Q pc L (.null :: st) h ss k n := by
  obtain ⟨d1, rfl, d3, d4⟩ := d
  exact Go.plain (fun X t r => XS.ifnonnullNo X C.1 rfl (hb C.2.1 d1) rfl r) G
theorem acmp_eq (C : Cx w K Z a0 EL own code ml rt mn (Rm rf rc rs rl)) {x y : Value} (hx : x.isRef = true) (hy : y.isRef = true) {o : Int} (d : Db code pc (.if_acmp .eq o) 3 pc' o pcT) (G1 : x = y → Go w K Z EL n0 ss0 Q pcT L st h ss k n) (G2 : ¬ x = y → Go w K Z EL n0 ss0 Q pc' L st h ss k n) : Go w K Z EL n0 ss0 Q pc L (y :: x :: st) h ss k n := by
  obtain ⟨d1, rfl, d3, d4⟩ := d
  by_cases q : x = y
  · refine Go.same C (fun X _ _ _ _ => ⟨_, X, ‹_›, fun t r => RoadKit.acmp (g := mkF K.m pc L (y :: x :: st)) X C.1 rfl hx hy (same := true) rfl (hb C.2.1 d1) rfl (decide_eq_true q) d3 (pc' := pcT) (by rw [← d4]; rfl) r⟩) (G1 q)
  · refine Go.same C (fun X _ _ _ _ => ⟨_, X, ‹_›, fun t r => RoadKit.acmp (g := mkF K.m pc L (y :: x :: st)) X C.1 rfl hx hy (same := false) rfl (hb C.2.1 d1) rfl (decide_eq_false q) d3 (pc' := pc + 3) rfl r⟩) (G2 q)
theorem acmp_ne (C : Cx w K Z a0 EL own code ml rt mn (Rm rf rc rs rl)) {x y : Value} (hx : x.isRef = true) (hy : y.isRef = true) {o : Int} (d : Db code pc (.if_acmp .ne o) 3 pc' o pcT) (G1 : ¬ x = y → Go w K Z EL n0 ss0 Q pcT L st h ss k n) (G2 : x = y → Go w K Z EL n0 ss0 Q pc' L st h ss k n) : Go w K Z EL n0 ss0 Q pc L (y :: x :: st) h ss k n := by
  obtain ⟨d1, rfl, d3, d4⟩ := d
  by_cases q : x = y
  · refine Go.same C (fun X _ _ _ _ => ⟨_, X, ‹_›, fun t r => RoadKit.acmp (g := mkF K.m pc L (y :: x :: st)) X C.1 rfl hx hy (same := true) rfl (hb C.2.1 d1) rfl (decide_eq_true q) d3 (pc' := pc + 3) rfl r⟩) (G2 q)
  · refine Go.same C (fun X _ _ _ _ => ⟨_, X, ‹_›, fun t r => RoadKit.acmp (g := mkF K.m pc L (y :: x :: st)) X C.1 rfl hx hy (same := false) rfl (hb C.2.1 d1) rfl (decide_eq_false q) d3 (pc' := pcT) (by rw [← d4]; rfl) r⟩) (G1 q)
theorem ldcI (C : Cx w K Z a0 EL own code ml rt mn (Rm rf rc rs rl)) {i : Nat} {v : Int32} (wc : (Cond.constant own i v).before a0 Z = true) (d : Dc code pc (.ldc i) 2 pc') (G : Go w K Z EL n0 ss0 Q pc' L (.int v :: st) h ss k n) : Go w K Z EL n0 ss0 Q pc L st h ss k n := by
  obtain ⟨d1, rfl⟩ := d
  exact Go.same C (fun X e hZ hown _ => ⟨_, X, e, X.ldcInt C.1 hown (mvT hZ wc) (g := mkF K.m pc L st) rfl (hb C.2.1 d1)⟩) G
theorem ldcwI (C : Cx w K Z a0 EL own code ml rt mn (Rm rf rc rs rl)) {i : Nat} {v : Int32} (wc : (Cond.constant own i v).before a0 Z = true) (d : Dc code pc (.ldc_w i) 3 pc') (G : Go w K Z EL n0 ss0 Q pc' L (.int v :: st) h ss k n) : Go w K Z EL n0 ss0 Q pc L st h ss k n := by
  obtain ⟨d1, rfl⟩ := d
  exact Go.same C (fun X e hZ hown _ => ⟨_, X, e, X.ldcwInt C.1 hown (mvT hZ wc) (g := mkF K.m pc L st) rfl (hb C.2.1 d1)⟩) G
theorem ldc2J (C : Cx w K Z a0 EL own code ml rt mn (Rm rf rc rs rl)) {i : Nat} {v : Int64} (wc : (Cond.constantLong own i v).before a0 Z = true) (d : Dc code pc (.ldc2_w i) 3 pc') (G : Go w K Z EL n0 ss0 Q pc' L (.long v :: st) h ss k n) : Go w K Z EL n0 ss0 Q pc L st h ss k n := by
  obtain ⟨d1, rfl⟩ := d
  exact Go.same C (fun X e hZ hown _ => ⟨_, X, e, X.ldc2Long C.1 hown (mvT hZ wc) (g := mkF K.m pc L st) rfl (hb C.2.1 d1)⟩) G
theorem getF_ (C : Cx w K Z a0 EL own code ml rt mn (Rm rf rc rs rl)) {i : Nat} {O f D : String} {a : Addr} {v : Value} (wl : (Cond.fieldLink own i O f D).before a0 Z = true) (F : Fld Z h a O f D v) (d : Dc code pc (.getfield i) 3 pc') (G : Go w K Z EL n0 ss0 Q pc' L (v :: st) h ss k n) : Go w K Z EL n0 ss0 Q pc L (.ref a :: st) h ss k n := by
  obtain ⟨d1, rfl⟩ := d
  exact Go.same C (fun X e hZ hown _ => getF X C.1 hZ hown (host := "") (Or.inl wl) Via.refl e F (g := mkF K.m pc L (.ref a :: st)) rfl rfl (hb C.2.1 d1)) G
theorem getS_ (C : Cx w K Z a0 EL own code ml rt mn (Rm rf rc rs rl)) {i : Nat} {O f D : String} {v : Value} (wl : (Cond.fieldLink own i O f D).before a0 Z = true) (F : Sta Z Z.heap O f D v) (d : Dc code pc (.getstatic i) 3 pc') (G : Go w K Z EL n0 ss0 Q pc' L (v :: st) h ss k n) : Go w K Z EL n0 ss0 Q pc L st h ss k n := by
  obtain ⟨d1, rfl⟩ := d
  exact Go.same C (fun X e hZ hown E => getS X C.1 hZ hown (host := "") wl Via.refl e (F.ext E) (g := mkF K.m pc L st) rfl (hb C.2.1 d1)) G
theorem cast_ (C : Cx w K Z a0 EL own code ml rt mn (Rm rf rc rs rl)) {i : Nat} {O : String} {a : Addr} (wl : (Cond.classLink own i O).before a0 Z = true) (F : Ins Z h a O true) (d : Dc code pc (.checkcast i) 3 pc') (G : Go w K Z EL n0 ss0 Q pc' L (.ref a :: st) h ss k n) : Go w K Z EL n0 ss0 Q pc L (.ref a :: st) h ss k n := by
  obtain ⟨d1, rfl⟩ := d
  exact Go.same C (fun X e hZ hown _ => castY X C.1 hZ hown wl e F (g := mkF K.m pc L (.ref a :: st)) rfl rfl (hb C.2.1 d1)) G
theorem instY_ (C : Cx w K Z a0 EL own code ml rt mn (Rm rf rc rs rl)) {i : Nat} {O : String} {a : Addr} (wl : (Cond.classLink own i O).before a0 Z = true) (F : Ins Z h a O true) (d : Dc code pc (.instanceof i) 3 pc') (G : Go w K Z EL n0 ss0 Q pc' L (.int 1 :: st) h ss k n) : Go w K Z EL n0 ss0 Q pc L (.ref a :: st) h ss k n := by
  obtain ⟨d1, rfl⟩ := d
  exact Go.same C (fun X e hZ hown _ => instY X C.1 hZ hown wl e F (g := mkF K.m pc L (.ref a :: st)) rfl rfl (hb C.2.1 d1)) G
theorem instN_ (C : Cx w K Z a0 EL own code ml rt mn (Rm rf rc rs rl)) {i : Nat} {O O' : String} {a : Addr} (wl : (Cond.classLink own i O).before a0 Z = true) (E : Exa Z h a O') (F : ∃ c t, Z.vm.findClass O' = some c ∧ Z.vm.findClass O = some t ∧ Z.vm.assignable c t = false) (d : Dc code pc (.instanceof i) 3 pc') (G : Go w K Z EL n0 ss0 Q pc' L (.int 0 :: st) h ss k n) : Go w K Z EL n0 ss0 Q pc L (.ref a :: st) h ss k n := by
  obtain ⟨d1, rfl⟩ := d
  exact Go.same C (fun X e hZ hown _ => instNo X C.1 hZ hown wl e E F (g := mkF K.m pc L (.ref a :: st)) rfl rfl (hb C.2.1 d1)) G
theorem inst0_ (C : Cx w K Z a0 EL own code ml rt mn (Rm rf rc rs rl)) {i : Nat} {O : String} (wl : (Cond.classLink own i O).before a0 Z = true) (d : Dc code pc (.instanceof i) 3 pc') (G : Go w K Z EL n0 ss0 Q pc' L (.int 0 :: st) h ss k n) : Go w K Z EL n0 ss0 Q pc L (.null :: st) h ss k n := by
  obtain ⟨d1, rfl⟩ := d
  exact Go.same C (fun X e hZ hown _ => ⟨_, X, e, X.instanceofNull C.1 (g := mkF K.m pc L (.null :: st)) rfl rfl (hb C.2.1 d1)⟩) G
/-- the array at a holds just vs -/
def Ary (Z : State) (h : Heap) (a : Addr) (ty : FieldType) (vs : List Value) : Prop := ∃ c : Cell, Arr Z h a c ty ∧ c.slots = vs.toArray ∧ vs.length < 2 ^ 31
theorem Ary.keep {a : Addr} {ty : FieldType} {vs : List Value} {ws : List Addr} (F : Ary Z h a ty vs) (K : Keep h h' ws) (q : a ∉ ws) : Ary Z h' a ty vs := by
  obtain ⟨c, A, r⟩ := F; exact ⟨c, ⟨K.2.1 a c A.1 q, A.2⟩, r⟩
theorem Ary.lt {a : Addr} {ty : FieldType} {vs : List Value} (F : Ary Z h a ty vs) : a < h.size := by obtain ⟨c, A, -⟩ := F; exact A.lt
theorem Ary.set {a : Addr} {ty : FieldType} {vs : List Value} {i : Nat} {v : Value} (F : Ary Z h a ty vs) (W : Wr h h' a i v) : Ary Z h' a ty (vs.set i v) := by
  obtain ⟨c, A, e, l⟩ := F
  exact ⟨_, A.same W, by simp [Cell.setSlot, e], by simpa using l⟩
theorem Ary.new {a : Addr} {ty : FieldType} {cA : ClassId} {x : Int32} (A : Arr Z h a (newA cA ty x) ty) : Ary Z h a ty (List.replicate x.toNatClampNeg (defaultValue ty)) := ⟨_, A, by simp [newA], by
  have := rng32 x
  simp only [List.length_replicate, Int32.toNatClampNeg]; omega⟩
theorem newarr (C : Cx w K Z a0 EL own code ml rt mn (Rm rf rc rs rl)) {aty : ArrayType} {x : Int32} (wa : (Cond.arrayClass (newarray.typeOf aty)).before a0 Z = true) (hx : ¬ x < 0) (cap : Nat) (hcap : x.toNatClampNeg ≤ cap) (hb8 : cap * 8 ≤ 536870912) (hc : k + 1 ≤ rc) (hl : n + cap ≤ rs) (d : Dc code pc (.newarray aty) 2 pc') (G : ∀ h', Keep h h' [] → h.size < h'.size → n0 ≤ h.size → Ary Z h' h.size (newarray.typeOf aty) (List.replicate x.toNatClampNeg (defaultValue (newarray.typeOf aty))) → Go w K Z EL n0 ss0 Q pc' L (.ref h.size :: st) h' (h.size :: ss) (k + 1) (n + cap)) : Go w K Z EL n0 ss0 Q pc L (.int x :: st) h ss k n := by
  obtain ⟨d1, rfl⟩ := d
  have hR : K.R = Rm rf rc rs rl := C.2.2.2.2.2.2.2.1
  refine Go.grow C (dk := 1) (dn := cap) (P := fun h' => Ary Z h' h.size (newarray.typeOf aty) (List.replicate x.toNatClampNeg (defaultValue (newarray.typeOf aty)))) (fun _ q => q.lt) (fun X e hZ hown => ?_) G
  obtain ⟨T', h', cA, X', e', E, A, r⟩ := newP X C.1 hZ wa e (g := mkF K.m pc L (.int x :: st)) rfl (hb C.2.1 d1) rfl hx hcap hb8 (by rw [hR]; exact hc) (by rw [hR]; exact hl)
  exact ⟨T', h', X', e', E, Ary.new A, r⟩
theorem castore_ (C : Cx w K Z a0 EL own code ml rt mn (Rm rf rc rs rl)) {a : Addr} {j x : Int32} {vs : List Value} (A : Ary Z h a .char vs) (i : Nat) (hj : j.toInt = i) (hi : i < vs.length) (ha : a ∈ ss) (d : Dc code pc .castore 1 pc') (G : ∀ h', Wr h h' a i (.int (nar .char x)) → Ary Z h' a .char (vs.set i (.int (nar .char x))) → Go w K Z EL n0 ss0 Q pc' L st h' ss k n) : Go w K Z EL n0 ss0 Q pc L (.int x :: .int j :: .ref a :: st) h ss k n := by
  obtain ⟨d1, rfl⟩ := d
  have A' := A
  obtain ⟨c, A, e, l⟩ := A
  have ej : j.toNatClampNeg = i := by simp [Int32.toNatClampNeg, hj]
  subst ej
  refine Go.write C ha (fun X eT hZ hown => stC X C.1 hZ eT A (j := j) ?_ (g := mkF K.m pc L (.int x :: .int j :: .ref a :: st)) rfl rfl (hb C.2.1 d1)) (fun h' W => G h' W (A'.set W))
  rintro (q | q)
  · rw [Int32.lt_iff_toInt_lt, hj] at q; have : (0 : Int32).toInt = 0 := rfl; omega
  · rw [e] at q; simp at q; omega
theorem bastore_ (C : Cx w K Z a0 EL own code ml rt mn (Rm rf rc rs rl)) {a : Addr} {j x : Int32} {vs : List Value} (A : Ary Z h a .byte vs) (i : Nat) (hj : j.toInt = i) (hi : i < vs.length) (ha : a ∈ ss) (d : Dc code pc .bastore 1 pc') (G : ∀ h', Wr h h' a i (.int (nar .byte x)) → Ary Z h' a .byte (vs.set i (.int (nar .byte x))) → Go w K Z EL n0 ss0 Q pc' L st h' ss k n) : Go w K Z EL n0 ss0 Q pc L (.int x :: .int j :: .ref a :: st) h ss k n := by
  obtain ⟨d1, rfl⟩ := d
  have A' := A
  obtain ⟨c, A, e, l⟩ := A
  have ej : j.toNatClampNeg = i := by simp [Int32.toNatClampNeg, hj]
  subst ej
  refine Go.write C ha (fun X eT hZ hown => stB X C.1 hZ eT A (j := j) ?_ (g := mkF K.m pc L (.int x :: .int j :: .ref a :: st)) rfl rfl (hb C.2.1 d1)) (fun h' W => G h' W (A'.set W))
  rintro (q | q)
  · rw [Int32.lt_iff_toInt_lt, hj] at q; have : (0 : Int32).toInt = 0 := rfl; omega
  · rw [e] at q; simp at q; omega
theorem caload_ (C : Cx w K Z a0 EL own code ml rt mn (Rm rf rc rs rl)) {a : Addr} {j : Int32} {v : Value} {vs : List Value} (A : Ary Z h a .char vs) (i : Nat) (hj : j.toInt = i) (hv : vs[i]? = some v) (d : Dc code pc .caload 1 pc') (G : Go w K Z EL n0 ss0 Q pc' L (v :: st) h ss k n) : Go w K Z EL n0 ss0 Q pc L (.int j :: .ref a :: st) h ss k n := by
  obtain ⟨d1, rfl⟩ := d
  obtain ⟨c, A, e, l⟩ := A
  have ej : j.toNatClampNeg = i := by simp [Int32.toNatClampNeg, hj]
  have hi : i < vs.length := (List.getElem?_eq_some_iff.mp hv).1
  subst ej
  refine Go.same C (fun X eT hZ hown _ => ⟨_, X, eT, X.caload C.1 (j := j) (v := v) (by rw [eT]; exact A.1) (State.isArrayOf_alike hZ.alike A.2.1) A.2.2 ?_ (by rw [e]; simpa using hv) (g := mkF K.m pc L (.int j :: .ref a :: st)) rfl rfl (hb C.2.1 d1)⟩) G
  rintro (q | q)
  · rw [Int32.lt_iff_toInt_lt, hj] at q; have : (0 : Int32).toInt = 0 := rfl; omega
  · rw [e] at q; simp at q; omega
theorem baload_ (C : Cx w K Z a0 EL own code ml rt mn (Rm rf rc rs rl)) {a : Addr} {j : Int32} {v : Value} {vs : List Value} (A : Ary Z h a .byte vs) (i : Nat) (hj : j.toInt = i) (hv : vs[i]? = some v) (d : Dc code pc .baload 1 pc') (G : Go w K Z EL n0 ss0 Q pc' L (v :: st) h ss k n) : Go w K Z EL n0 ss0 Q pc L (.int j :: .ref a :: st) h ss k n := by
  obtain ⟨d1, rfl⟩ := d
  obtain ⟨c, A, e, l⟩ := A
  have ej : j.toNatClampNeg = i := by simp [Int32.toNatClampNeg, hj]
  have hi : i < vs.length := (List.getElem?_eq_some_iff.mp hv).1
  subst ej
  refine Go.same C (fun X eT hZ hown _ => ⟨_, X, eT, X.baloadBytes C.1 (j := j) (v := v) (by rw [eT]; exact A.1) (State.isArrayOf_alike hZ.alike A.2.1) A.2.2 ?_ (by rw [e]; simpa using hv) (g := mkF K.m pc L (.int j :: .ref a :: st)) rfl rfl (hb C.2.1 d1)⟩) G
  rintro (q | q)
  · rw [Int32.lt_iff_toInt_lt, hj] at q; have : (0 : Int32).toInt = 0 := rfl; omega
  · rw [e] at q; simp at q; omega
theorem iaload_ (C : Cx w K Z a0 EL own code ml rt mn (Rm rf rc rs rl)) {a : Addr} {j : Int32} {v : Value} {vs : List Value} (A : Ary Z h a .int vs) (i : Nat) (hj : j.toInt = i) (hv : vs[i]? = some v) (d : Dc code pc .iaload 1 pc') (G : Go w K Z EL n0 ss0 Q pc' L (v :: st) h ss k n) : Go w K Z EL n0 ss0 Q pc L (.int j :: .ref a :: st) h ss k n := by
  obtain ⟨d1, rfl⟩ := d
  obtain ⟨c, A, e, l⟩ := A
  have ej : j.toNatClampNeg = i := by simp [Int32.toNatClampNeg, hj]
  have hi : i < vs.length := (List.getElem?_eq_some_iff.mp hv).1
  subst ej
  refine Go.same C (fun X eT hZ hown _ => ⟨_, X, eT, X.iaload C.1 (j := j) (v := v) (by rw [eT]; exact A.1) (State.isArrayOf_alike hZ.alike A.2.1) A.2.2 ?_ (by rw [e]; simpa using hv) (g := mkF K.m pc L (.int j :: .ref a :: st)) rfl rfl (hb C.2.1 d1)⟩) G
  rintro (q | q)
  · rw [Int32.lt_iff_toInt_lt, hj] at q; have : (0 : Int32).toInt = 0 := rfl; omega
  · rw [e] at q; simp at q; omega
theorem arrlen (C : Cx w K Z a0 EL own code ml rt mn (Rm rf rc rs rl)) {a : Addr} {ty : FieldType} {vs : List Value} (A : Ary Z h a ty vs) {z : Int32} (hz : z.toInt = vs.length) (d : Dc code pc .arraylength 1 pc') (G : Go w K Z EL n0 ss0 Q pc' L (.int z :: st) h ss k n) : Go w K Z EL n0 ss0 Q pc L (.ref a :: st) h ss k n := by
  obtain ⟨d1, rfl⟩ := d
  obtain ⟨c, A, e, l⟩ := A
  have ez : c.slots.size.toInt32 = z := by
    rw [← Int32.toInt_inj, hz, len_toInt (by rw [e]; simpa using l), e]; simp
  refine Go.same C (fun X eT hZ hown _ => ⟨_, X, eT, fun t r => X.arraylength C.1 (by rw [eT]; exact A.1) (State.isArrayOf_alike hZ.alike A.2.1) (g := mkF K.m pc L (.ref a :: st)) rfl rfl (hb C.2.1 d1) t (by rw [ez]; exact r)⟩) G
theorem new_ (C : Cx w K Z a0 EL own code ml rt mn (Rm rf rc rs rl)) {i : Nat} {O : String} {nn : Nat} (wl : (Cond.classLink own i O).before a0 Z = true) (wi : (Cond.instantiable O nn).before a0 Z = true) (wz : (Cond.initialized O).before a0 Z = true) (hc : k + 1 ≤ rc) (hl : n + nn ≤ rs) (d : Dc code pc (.new i) 3 pc')
    (G : ∀ h', Keep h h' [] → h.size < h'.size → n0 ≤ h.size → (Exa Z h' h.size O ∧ ∀ {O' nm d : String} {ty : FieldType}, Laid Z a0 O O' nm d → parseFieldDescriptor d = some ty → Fld Z h' h.size O' nm d (defaultValue ty)) → Go w K Z EL n0 ss0 Q pc' L (.ref h.size :: st) h' (h.size :: ss) (k + 1) (n + nn)) : Go w K Z EL n0 ss0 Q pc L st h ss k n := by
  obtain ⟨d1, rfl⟩ := d
  have hR : K.R = Rm rf rc rs rl := C.2.2.2.2.2.2.2.1
  refine Go.grow C (dk := 1) (dn := nn) (P := fun h' => Exa Z h' h.size O ∧ ∀ {O' nm d : String} {ty : FieldType}, Laid Z a0 O O' nm d → parseFieldDescriptor d = some ty → Fld Z h' h.size O' nm d (defaultValue ty)) (fun _ q => q.1.lt) (fun X e hZ hown => ?_) G
  obtain ⟨T', h', X', e', E, A, D, -, r⟩ := newO X C.1 hZ hown wl wi wz e (g := mkF K.m pc L st) rfl (hb C.2.1 d1) (by rw [hR]; exact hc) (by rw [hR]; exact hl)
  exact ⟨T', h', X', e', E, ⟨A, D⟩, r⟩
theorem putF_ (C : Cx w K Z a0 EL own code ml rt mn (Rm rf rc rs rl)) {i kk : Nat} {O f D O' : String} {a : Addr} {v v' old : Value} {ty : FieldType} (wl : (Cond.fieldLink own i O f D).before a0 Z = true) (F : Fld Z h a O f D old) (E : Exa Z h a O') (Ly : (Cond.lays O' O f D).before a0 Z = true ∨ ((Cond.laysFinal O' O f D).before a0 Z = true ∧ own = O ∧ mn = "<init>")) (wi : (Cond.instantiable O' kk).before a0 Z = true)
    (hty : parseFieldDescriptor D = some ty) (hn : narrow ty v = v') (hf : fits ty v' = true) (ha : a ∈ ss) (d : Dc code pc (.putfield i) 3 pc')
    (G : ∀ h', Wr h h' a (RoadKit.slotOf Z O f D) v' → Go w K Z EL n0 ss0 Q pc' L st h' ss k n) : Go w K Z EL n0 ss0 Q pc L (v :: .ref a :: st) h ss k n := by
  obtain ⟨d1, rfl⟩ := d
  have hm : K.meth.name = mn := C.2.2.2.2.2.2.1
  exact Go.write C ha (fun X eT hZ hown => putFN X C.1 hZ hown wl Via.refl eT F E (Ly.imp id fun q => ⟨q.1, q.2.1, hm.trans q.2.2⟩) wi hty hn hf (g := mkF K.m pc L (v :: .ref a :: st)) rfl rfl (hb C.2.1 d1)) G
theorem initO_ (C : Cx w K Z a0 EL own code ml rt mn (Rm rf rc rs rl)) {i : Nat} {a : Addr} (w1 : (Cond.methodLink own i Lib.objectInit).before a0 Z = true) (w2 : (Cond.instanceMethod Lib.objectInit).before a0 Z = true) (w3 : (Cond.code Lib.objectInit ⟨#[0xb1]⟩ 1 none).before a0 Z = true) (hL : L.size = ml) (hf : 1 ≤ rf) (hlo : (st.map fun v => v.category).sum + 12 ≤ rl) (d : Dc code pc (.invokespecial i) 3 pc') (G : Go w K Z EL n0 ss0 Q pc' L st h ss k n) : Go w K Z EL n0 ss0 Q pc L (.ref a :: st) h ss k n := by
  obtain ⟨d1, rfl⟩ := d
  have hR : K.R = Rm rf rc rs rl := C.2.2.2.2.2.2.2.1
  exact Go.same C (fun X e hZ hown _ => initO X C.1 hZ hown w1 w2 w3 e (g := mkF K.m pc L (.ref a :: st)) rfl (hL.trans C.2.2.1.symm) rfl (hb C.2.1 d1) (by rw [hR]; exact hf) (W := (st.map fun v => v.category).sum) (by show 2 * 0 + _ ≤ _; omega) (by rw [hR]; exact hlo)) G
theorem retZ (C : Cx w K Z a0 EL own code ml (some .boolean) mn (Rm rf rc rs rl)) {z : Int32} {gs : List Addr} (d : Dc code pc .ireturn 1 pc') (hc : k ≤ rc) (hn : n ≤ rs) (hg : ∀ x ∈ gs, x ∈ ss) (hQ : Q (some (.int (nar .boolean z))) h gs) : Go w K Z EL n0 ss0 Q pc L (.int z :: st) h ss k n := by
  obtain ⟨d1, rfl⟩ := d
  exact Go.leave C nofun (fun X _ r => retN X C.1 (t := .boolean) C.2.2.2.2.1 (by simp) (hb C.2.1 d1) r) hQ hg hc hn
theorem retB (C : Cx w K Z a0 EL own code ml (some .byte) mn (Rm rf rc rs rl)) {z : Int32} {gs : List Addr} (d : Dc code pc .ireturn 1 pc') (hc : k ≤ rc) (hn : n ≤ rs) (hg : ∀ x ∈ gs, x ∈ ss) (hQ : Q (some (.int (nar .byte z))) h gs) : Go w K Z EL n0 ss0 Q pc L (.int z :: st) h ss k n := by
  obtain ⟨d1, rfl⟩ := d
  exact Go.leave C nofun (fun X _ r => retN X C.1 (t := .byte) C.2.2.2.2.1 (by simp) (hb C.2.1 d1) r) hQ hg hc hn
theorem retC (C : Cx w K Z a0 EL own code ml (some .char) mn (Rm rf rc rs rl)) {z : Int32} {gs : List Addr} (d : Dc code pc .ireturn 1 pc') (hc : k ≤ rc) (hn : n ≤ rs) (hg : ∀ x ∈ gs, x ∈ ss) (hQ : Q (some (.int (nar .char z))) h gs) : Go w K Z EL n0 ss0 Q pc L (.int z :: st) h ss k n := by
  obtain ⟨d1, rfl⟩ := d
  exact Go.leave C nofun (fun X _ r => retN X C.1 (t := .char) C.2.2.2.2.1 (by simp) (hb C.2.1 d1) r) hQ hg hc hn
theorem retS (C : Cx w K Z a0 EL own code ml (some .short) mn (Rm rf rc rs rl)) {z : Int32} {gs : List Addr} (d : Dc code pc .ireturn 1 pc') (hc : k ≤ rc) (hn : n ≤ rs) (hg : ∀ x ∈ gs, x ∈ ss) (hQ : Q (some (.int (nar .short z))) h gs) : Go w K Z EL n0 ss0 Q pc L (.int z :: st) h ss k n := by
  obtain ⟨d1, rfl⟩ := d
  exact Go.leave C nofun (fun X _ r => retN X C.1 (t := .short) C.2.2.2.2.1 (by simp) (hb C.2.1 d1) r) hQ hg hc hn
theorem retI_ (C : Cx w K Z a0 EL own code ml (some .int) mn (Rm rf rc rs rl)) {z : Int32} {gs : List Addr} (d : Dc code pc .ireturn 1 pc') (hc : k ≤ rc) (hn : n ≤ rs) (hg : ∀ x ∈ gs, x ∈ ss) (hQ : Q (some (.int z)) h gs) : Go w K Z EL n0 ss0 Q pc L (.int z :: st) h ss k n := by
  obtain ⟨d1, rfl⟩ := d
  refine Go.leave C nofun (fun {T vm0 locs} X {fs} hr => ?_) hQ hg hc hn
  have hret : K.meth.sig.returnType = some .int := C.2.2.2.2.1
  have hx := C.1
  have hm' := X.method'
  have hnn : narrow .int (.int z) = .int z := rfl
  have hd := hb C.2.1 d1
  show Steps K.p.tables K.e K.below (T.setTop { method := K.m, pc := pc, locals := L, stack := _ :: st, locked := none }) _
  jvm_step X.here [X.here.top, hx, hd, hm', hret, hnn]
  first | (intro acts; rw [hr _ acts rfl rfl rfl]) | rw [hr _ _ rfl rfl rfl]
  exact Steps.refl _
theorem retA {ty : FieldType} (C : Cx w K Z a0 EL own code ml (some ty) mn (Rm rf rc rs rl)) {v : Value} {gs : List Addr} (hty : ty.isReference = true) (hv : v.isRef = true) (d : Dc code pc .areturn 1 pc') (hc : k ≤ rc) (hn : n ≤ rs) (hg : ∀ x ∈ gs, x ∈ ss) (hQ : Q (some v) h gs) : Go w K Z EL n0 ss0 Q pc L (v :: st) h ss k n := by
  obtain ⟨d1, rfl⟩ := d
  refine Go.leave C nofun (fun {T vm0 locs} X {fs} hr => ?_) hQ hg hc hn
  have hret : K.meth.sig.returnType = some ty := C.2.2.2.2.1
  have hx := C.1
  have hm' := X.method'
  have hd := hb C.2.1 d1
  show Steps K.p.tables K.e K.below (T.setTop { method := K.m, pc := pc, locals := L, stack := _ :: st, locked := none }) _
  jvm_step X.here [X.here.top, hx, hd, hm', hret, hv, hty]
  first | (intro acts; rw [hr _ acts rfl rfl rfl]) | rw [hr _ _ rfl rfl rfl]
  exact Steps.refl _
theorem retV (C : Cx w K Z a0 EL own code ml none mn (Rm rf rc rs rl)) {gs : List Addr} (d : Dc code pc .return_ 1 pc') (hc : k ≤ rc) (hn : n ≤ rs) (hg : ∀ x ∈ gs, x ∈ ss) (hQ : Q none h gs) : Go w K Z EL n0 ss0 Q pc L [] h ss k n := by
  obtain ⟨d1, rfl⟩ := d
  exact Go.leave C (fun _ => rfl) (fun X _ r => X.returnOut C.1 C.2.2.2.2.1 (hb C.2.1 d1) r) hQ hg hc hn
end Ops
end Jvm.Own
namespace Jvm.Own
open Jvm Jvm.ClassFile Sem Op Lib Jvm.Free Jvm.Stand Jvm.LawKit Jvm.RoadKit
section Calls
variable {w : Bool} {K : IV} {Z : State} {a0 : Array Value} {EL : List (String × Nat)} {n0 : Nat} {ss0 ss : List Addr} {Q : Option Value → Heap → List Addr → Prop} {pc pc' pcT : Nat} {L L' : Array Slot} {st st' stk : List Value} {h h' : Heap} {k n : Nat} {own : String} {code : ByteArray} {ml : Nat} {rt : Option FieldType} {mn : String} {R : Room}
variable {y : MethodName} {bytes : ByteArray} {maxL : Nat} {ret : Option FieldType} {rm : Room} {as : List Value} {ssc : List Addr} {Qc : Option Value → Heap → List Addr → Prop}
def PreC (Z : State) (EL : List (String × Nat)) (n0 : Nat) (R rm : Room) (as : List Value) (h : Heap) (ssc : List Addr) (A : Pt) (a : Array Value) : Prop := a = as.toArray ∧ A.U.heap = h ∧ A.cells + rm.cells ≤ R.cells ∧ A.slots + rm.slots ≤ R.slots ∧ CHv Z EL A.U.vm h ∧ ∀ x ∈ ssc, n0 ≤ x ∧ x < h.size ∧ Safe Z EL A.U.vm h x
def PostC (Z : State) (EL : List (String × Nat)) (n0 : Nat) (rm : Room) (h : Heap) (ssc : List Addr) (Qc : Option Value → Heap → List Addr → Prop) (A : Pt) (_ : Array Value) (v : Option Value) (B : Pt) : Prop := ∃ (L : List Loc) (gs : List Addr), Qc v B.U.heap gs ∧ Fr n0 L ∧ CHr Z EL A.U.vm h B.U.vm B.U.heap ∧ Keep h B.U.heap ssc ∧ Sf Z EL n0 B.U.vm B.U.heap ssc h gs ∧ Old Z n0 B.U.heap ∧ B.locs = A.locs ++ L ∧ B.cells = A.cells + rm.cells ∧ B.slots = A.slots + rm.slots
theorem conBack {p : Program} {l : Launch} {e : Env} {below : List Frame} {s : State} {args : Array Value} {len W : Nat} (M : Con false Z EL n0 y bytes maxL ret rm as h ssc Qc) (hZ : Z.Warmed39 s.vm) (wc : (Cond.code y bytes maxL ret).before a0 Z = true) (wz : (Cond.initialized y.cls).before a0 Z = true) (hf : rm.frames + 1 ≤ R.frames) (hl : W + (maxL + 11) + rm.locals ≤ R.locals) :
    Back l R p e below s args y len W (PreC Z EL n0 R rm as h ssc) (PostC Z EL n0 rm h ssc Qc) :=
  Back.of_free (bytes := bytes) (maxL := maxL) (ret := ret) (E := fun _ first o t L k n => k = rm.cells ∧ n = rm.slots ∧ ∃ v gs, o = .returned v ∧ Qc v t.heap gs ∧ Fr n0 L ∧ CHr Z EL first.vm h t.vm t.heap ∧ Keep h t.heap ssc ∧ Sf Z EL n0 t.vm t.heap ssc h gs ∧ Old Z n0 t.heap) (M l []) hf hl
    (fun m meth c A a Y hp => have hU : Z.Warmed39 A.U.vm := wtrans hZ Y.warmed
      ⟨by show (Cond.and _ .tt).before a A.U = true; rw [Cond.before_and, mv hU wc]; rfl, mv hU wc, mv hU wz, hp.2.2.1, hp.2.2.2.1⟩)
    (fun m meth c A a g mk Y hp => ⟨hp.1, wtrans hZ Y.warmed, hp.2.1, hp.2.2.2.2.1, hp.2.2.2.2.2⟩) (fun _ _ _ _ _ _ _ _ _ => trivial)
    (fun _ _ _ _ ⟨v, L, gs, h1, h2, h3, h4, h5, h6, h7, h8⟩ => ⟨L, _, _, h8, rfl, rfl, v, gs, h1, h2, h3, h4, h5, h6, h7⟩)
    (fun m meth c A a g mk v t L k n Y hp _ _ ⟨e1, e2, v', gs, e3, r⟩ => by cases e3; subst e1 e2; exact ⟨L, gs, r.1, r.2.1, r.2.2.1, r.2.2.2.1, r.2.2.2.2.1, r.2.2.2.2.2, rfl, rfl, rfl⟩)
theorem conBackS {p : Program} {l : Launch} {e : Env} {below : List Frame} {s : State} {args : Array Value} {len W : Nat} (M : Con true Z EL n0 y bytes maxL ret rm as h ssc Qc) (hZ : Z.Warmed39 s.vm) (wc : (Cond.code y bytes maxL ret).before a0 Z = true) (wz : (Cond.initialized y.cls).before a0 Z = true) (hf : rm.frames + 1 ≤ R.frames) (hl : W + (maxL + 11) + rm.locals ≤ R.locals) :
    BackS l R p e below s args y len W (PreC Z EL n0 R rm as h ssc) (PostC Z EL n0 rm h ssc Qc) :=
  BackS.of_freeW (bytes := bytes) (maxL := maxL) (ret := ret) (E := fun _ first o t L k n => k = rm.cells ∧ n = rm.slots ∧ ∃ v gs, o = .returned v ∧ Qc v t.heap gs ∧ Fr n0 L ∧ CHr Z EL first.vm h t.vm t.heap ∧ Keep h t.heap ssc ∧ Sf Z EL n0 t.vm t.heap ssc h gs ∧ Old Z n0 t.heap) (M l []) hf hl
    (fun m meth c A a Y hp => have hU : Z.Warmed39 A.U.vm := wtrans hZ Y.warmed
      ⟨by show (Cond.and _ .tt).before a A.U = true; rw [Cond.before_and, mv hU wc]; rfl, mv hU wc, mv hU wz, hp.2.2.1, hp.2.2.2.1⟩)
    (fun m meth c A a g mk Y hp => ⟨hp.1, wtrans hZ Y.warmed, hp.2.1, hp.2.2.2.2.1, hp.2.2.2.2.2⟩) (fun _ _ _ _ _ _ _ _ _ => trivial)
    (fun _ _ _ _ ⟨v, L, gs, h1, h2, h3, h4, h5, h6, h7, h8⟩ => ⟨L, _, _, h8, rfl, rfl, v, gs, h1, h2, h3, h4, h5, h6, h7⟩)
    (fun m meth c A a g mk v t L k n Y hp _ _ ⟨e1, e2, v', gs, e3, r⟩ => by cases e3; subst e1 e2; exact ⟨L, gs, r.1, r.2.1, r.2.2.1, r.2.2.2.1, r.2.2.2.2.1, r.2.2.2.2.2, rfl, rfl, rfl⟩)
theorem warm1 {vm0 vm₁ : Vm} {s : State} (hZ : Z.Warmed39 vm0) (hE : EW Z a0 EL) (hW : (s.setVm vm0).WarmedH vm₁) (H : CHv Z EL vm0 h) : CHr Z EL vm0 h vm₁ h := by
  have q := CHv.later (h' := h) hZ (hW := (show (Wst Z vm0 h).Warmed39 vm₁ from hW.wide)) hE ⟨Nat.le_refl _, fun _ _ q => q⟩ (Or.inl hW.interned_eq) H
  exact ⟨q.1, Nat.le_refl _, q.2⟩
/-- behind a call -/
theorem after {T : State} {vm0 vm₁ : Vm} {locs : List Loc} {k0 : Nat} (C : Cx w K Z a0 EL own code ml rt mn R) (N : Fr n0 locs) (hS : K.s.Since vm0 k0) (hk : k0 ≤ h.size) (hZ : Z.Warmed39 vm0) (hv : w = false → vm0 = K.s.vm) (hC : CHr Z EL K.s.vm K.s.heap vm0 h) (hF : Sf Z EL n0 vm0 h ss0 K.s.heap ss) (hK : Keep K.s.heap h ss0)
    (hsub : ∀ x ∈ ssc, x ∈ ss) (hW : (K.s.setVm vm0).WarmedH vm₁) {B : Pt} {a : Array Value} {v : Option Value} (hp : PostC Z EL n0 rm h ssc Qc ⟨T.setVm vm₁, locs, k, n⟩ a v B)
    (hX : (w = false ∧ Stand K.p K.l K.e K.R (K.s.setVm vm0) K.m K.args K.below K.meth K.c B.U B.locs B.cells B.slots) ∨ (w = true ∧ Stand K.p K.l K.e K.R (K.s.setVm B.U.vm) K.m K.args K.below K.meth K.c B.U B.locs B.cells B.slots ∧ (K.s.setVm vm0).Since B.U.vm B.U.heap.size)) :
    ∃ gs, Here w K Z EL n0 ss0 B.U B.U.heap (gs ++ ss) (k + rm.cells) (n + rm.slots) ∧ Qc v B.U.heap gs ∧ Keep h B.U.heap ssc := by
  obtain ⟨Lc, gs, hQ, N', hC', hK', hF', hO', l1, l2, l3⟩ := hp
  obtain ⟨U, Ls, kk, nn⟩ := B
  dsimp only [Pt.U, Pt.locs, Pt.cells, Pt.slots] at *
  subst l1 l2 l3
  have D1 := warm1 hZ C.2.2.2.2.2.2.2.2.1 hW hC.1
  have D := D1.trans hC'
  have hKs : Keep K.s.heap U.heap ss0 := hK.trans hK' fun x hx => (hF x (hsub x hx)).2.2.2
  have hFa : Sf Z EL n0 U.vm U.heap ss0 K.s.heap (gs ++ ss) := fun x hx => by
    rcases List.mem_append.mp hx with hx | hx
    · obtain ⟨g1, g2, g3, g4⟩ := hF' x hx
      exact ⟨g1, g2, g3, g4.elim (fun q => (hF x (hsub x q)).2.2.2) fun q => Or.inr (Nat.le_trans hK.1 q)⟩
    · obtain ⟨g1, g2, g3, g4⟩ := hF x hx
      exact ⟨g1, Nat.lt_of_lt_of_le g2 hK'.1, D.safe g2 g3, g4⟩
  refine ⟨gs, ?_, hQ, hK'⟩
  rcases hX with ⟨hw, X⟩ | ⟨hw, X, hS'⟩
  · have hEL : EL = [] := C.2.2.2.2.2.2.2.2.2 hw
    subst hEL
    refine ⟨vm0, _, k0, X, N.app N', rfl, hS, Nat.le_trans hk hK'.1, hZ, hv, chr_nil (Nat.le_trans hK.1 hK'.1), fun x hx => ?_, hO', hKs⟩
    obtain ⟨g1, g2, g3, g4⟩ := hFa x hx
    exact ⟨g1, g2, fun ⟨p, hp, _⟩ => by (cases hp), g4⟩
  · exact ⟨U.vm, _, U.heap.size, X, N.app N', rfl, hS.trans hS' (Nat.le_trans hk hK'.1), Nat.le_refl _, State.Warmed39.trans (t := K.s.setVm vm0) hZ hS'.1, (fun q => by rw [hw] at q; cases q), hC.trans D, hFa, hO', hKs⟩
theorem pre {T : State} {vm0 vm₁ : Vm} {locs : List Loc} (C : Cx w K Z a0 EL own code ml rt mn R) (eT : T.heap = h) (hZ : Z.Warmed39 vm0) (hC : CHr Z EL K.s.vm K.s.heap vm0 h) (hF : Sf Z EL n0 vm0 h ss0 K.s.heap ss) (hsub : ∀ x ∈ ssc, x ∈ ss) (hW : (K.s.setVm vm0).WarmedH vm₁) (hc : k + rm.cells ≤ R.cells) (hn : n + rm.slots ≤ R.slots) :
    PreC Z EL n0 K.R rm as h ssc ⟨T.setVm vm₁, locs, k, n⟩ as.toArray := by
  have hR : K.R = R := C.2.2.2.2.2.2.2.1
  have D1 := warm1 hZ C.2.2.2.2.2.2.2.2.1 hW hC.1
  exact ⟨rfl, eT, by rw [hR]; exact hc, by rw [hR]; exact hn, D1.1, fun x hx => by
    obtain ⟨g1, g2, g3, g4⟩ := hF x (hsub x hx)
    exact ⟨g1, g2, D1.safe g2 g3⟩⟩
theorem callS_ {rf rc rs rl cf cc cs cl : Nat} (C : Cx w K Z a0 EL own code ml rt mn (Rm rf rc rs rl)) {i : Nat} {ps : List FieldType} {r : Option FieldType} (wl : (Cond.methodLink own i y).before a0 Z = true) (ws : (Cond.static y).before a0 Z = true) (wi : (Cond.initialized y.cls).before a0 Z = true) (wc : (Cond.code y bytes maxL ret).before a0 Z = true) (hy : y.cls ≠ "java/lang/invoke/MethodHandle" ∧ y.cls ≠ "java/lang/invoke/VarHandle") (pd : parseMethodDescriptor y.desc = some ⟨ps, r⟩) (hl : as.length = ps.length) (M : Old Z n0 h → Con w Z EL n0 y bytes maxL ret (Rm cf cc cs cl) as h ssc Qc) (hsub : ∀ x ∈ ssc, x ∈ ss) (hL : L.size = ml) (hfr : cf + 1 ≤ rf) (hlo : (st.map fun v => v.category).sum + (maxL + 11) + cl ≤ rl) (hc : k + cc ≤ rc) (hn : n + cs ≤ rs) (d : Dc code pc (.invokestatic i) 3 pc') (hst : stk = as.reverse ++ st) (G : ∀ v h' gs, Keep h h' ssc → Qc v h' gs → Go w K Z EL n0 ss0 Q pc' L (v.toList ++ st) h' (gs ++ ss) (k + cc) (n + cs)) : Go w K Z EL n0 ss0 Q pc L stk h ss k n := by
  obtain ⟨d1, rfl⟩ := d
  subst hst
  intro T H
  obtain ⟨vm0, locs, k0, X, N, eT, hS, hk, hZ, hv, hC, hF, hO, hK⟩ := H
  have hR : K.R = Rm rf rc rs rl := C.2.2.2.2.2.2.2.1
  have hown : (K.s.setVm vm0).vm.findClass own = some K.m.cls := fcl C hS
  have hZ' : Z.Warmed39 (K.s.setVm vm0).vm := hZ
  have hsz : L.size = K.c.maxLocals := hL.trans C.2.2.1.symm
  cases w with
  | false =>
    obtain ⟨v, vm₁, B, hW, X', hp, stp⟩ := Jvm.LawKit.callS X C.1 (y := y) hown (mvT hZ' wl) (mvT hZ' ws) (mvT hZ' wi) (mvT hZ' wc) hy (conBack (W := (st.map fun v => v.category).sum) (M hO) hZ' wc wi (by rw [hR]; exact hfr) (by rw [hR]; exact hlo)) (g := mkF K.m pc L (as.reverse ++ st)) rfl hsz (argsL := as) (rest := st) (lenOf pd hl) rfl (by show 2 * 0 + _ ≤ _; omega) (hb C.2.1 d1) (fun vm₁ hW => pre C eT hZ hC hF hsub hW hc hn)
    obtain ⟨gs, H', hQ, hKe⟩ := after C N hS hk hZ hv hC hF hK hsub hW hp (Or.inl ⟨rfl, X'⟩)
    exact Fns.steps stp (G v _ gs hKe hQ _ H')
  | true =>
    obtain ⟨v, vm₁, B, hW, X', hS', -, hp, stp⟩ := callSS X C.1 (y := y) hown (mvT hZ' wl) (mvT hZ' ws) (mvT hZ' wi) (mvT hZ' wc) hy (conBackS (W := (st.map fun v => v.category).sum) (M hO) hZ' wc wi (by rw [hR]; exact hfr) (by rw [hR]; exact hlo)) (g := mkF K.m pc L (as.reverse ++ st)) rfl hsz (argsL := as) (rest := st) (lenOf pd hl) rfl (by show 2 * 0 + _ ≤ _; omega) (hb C.2.1 d1) (fun vm₁ hW => pre C eT hZ hC hF hsub hW hc hn)
    obtain ⟨gs, H', hQ, hKe⟩ := after C N hS hk hZ hv hC hF hK hsub hW hp (Or.inr ⟨rfl, X', hS'⟩)
    exact Fns.steps (fun t r => stp.trans r) (G v _ gs hKe hQ _ H')
theorem callI_ {rf rc rs rl cf cc cs cl : Nat} (C : Cx w K Z a0 EL own code ml rt mn (Rm rf rc rs rl)) {i : Nat} {ps : List FieldType} {r : Option FieldType} {a : Addr} {as' : List Value} (hy1 : y.name = "<init>") (wl : (Cond.methodLink own i y).before a0 Z = true) (wm : (Cond.instanceMethod y).before a0 Z = true) (wi : (Cond.initialized y.cls).before a0 Z = true) (wc : (Cond.code y bytes maxL none).before a0 Z = true) (hy : y.cls ≠ "java/lang/invoke/MethodHandle" ∧ y.cls ≠ "java/lang/invoke/VarHandle") (pd : parseMethodDescriptor y.desc = some ⟨ps, r⟩) (hl : as'.length = ps.length) (M : Old Z n0 h → Con w Z EL n0 y bytes maxL none (Rm cf cc cs cl) (.ref a :: as') h ssc Qc) (hsub : ∀ x ∈ ssc, x ∈ ss) (hL : L.size = ml) (hfr : cf + 1 ≤ rf) (hlo : (st.map fun v => v.category).sum + (maxL + 11) + cl ≤ rl) (hc : k + cc ≤ rc) (hn : n + cs ≤ rs) (d : Dc code pc (.invokespecial i) 3 pc') (hst : stk = as'.reverse ++ .ref a :: st) (G : ∀ v h' gs, Keep h h' ssc → Qc v h' gs → Go w K Z EL n0 ss0 Q pc' L (v.toList ++ st) h' (gs ++ ss) (k + cc) (n + cs)) : Go w K Z EL n0 ss0 Q pc L stk h ss k n := by
  obtain ⟨d1, rfl⟩ := d
  subst hst
  intro T H
  obtain ⟨vm0, locs, k0, X, N, eT, hS, hk, hZ, hv, hC, hF, hO, hK⟩ := H
  have hR : K.R = Rm rf rc rs rl := C.2.2.2.2.2.2.2.1
  have hown : (K.s.setVm vm0).vm.findClass own = some K.m.cls := fcl C hS
  have hZ' : Z.Warmed39 (K.s.setVm vm0).vm := hZ
  have hsz : L.size = K.c.maxLocals := hL.trans C.2.2.1.symm
  cases w with
  | false =>
    obtain ⟨v, vm₁, B, hW, X', hp, stp⟩ := X.specialBack C.1 (y := y) hy1 hown (mvT hZ' wl) (mvT hZ' wm) (mvT hZ' wc) hy (conBack (W := (st.map fun v => v.category).sum) (M hO) hZ' wc wi (by rw [hR]; exact hfr) (by rw [hR]; exact hlo)) (g := mkF K.m pc L (as'.reverse ++ .ref a :: st)) rfl hsz (Steps.refl _) (a := a) (argsL := as') (rest := st) (lenOf pd hl) rfl (by show 2 * 0 + _ ≤ _; omega) (hb C.2.1 d1) (fun vm₁ hW => pre C eT hZ hC hF hsub hW hc hn)
    obtain ⟨gs, H', hQ, hKe⟩ := after C N hS hk hZ hv hC hF hK hsub hW hp (Or.inl ⟨rfl, X'⟩)
    exact Fns.steps (fun t r => stp.trans r) (G v _ gs hKe hQ _ H')
  | true =>
    obtain ⟨v, vm₁, B, hW, X', hS', -, hp, stp⟩ := X.specialBackS C.1 (y := y) hy1 hown (mvT hZ' wl) (mvT hZ' wm) (mvT hZ' wc) hy (conBackS (W := (st.map fun v => v.category).sum) (M hO) hZ' wc wi (by rw [hR]; exact hfr) (by rw [hR]; exact hlo)) (g := mkF K.m pc L (as'.reverse ++ .ref a :: st)) rfl hsz (Steps.refl _) (a := a) (argsL := as') (rest := st) (lenOf pd hl) rfl (by show 2 * 0 + _ ≤ _; omega) (hb C.2.1 d1) (fun vm₁ hW => pre C eT hZ hC hF hsub hW hc hn)
    obtain ⟨gs, H', hQ, hKe⟩ := after C N hS hk hZ hv hC hF hK hsub hW hp (Or.inr ⟨rfl, X', hS'⟩)
    exact Fns.steps (fun t r => stp.trans r) (G v _ gs hKe hQ _ H')
theorem callV_ {rf rc rs rl cf cc cs cl : Nat} (C : Cx w K Z a0 EL own code ml rt mn (Rm rf rc rs rl)) {i : Nat} {ps : List FieldType} {r : Option FieldType} {a : Addr} {as' : List Value} {O : String} {x : MethodName} (wl : (Cond.methodLink own i x).before a0 Z = true) (wd : (Cond.declares x).before a0 Z = true) (hnf : ∀ s : State, Z.Warmed39 s.vm → NotFace s x) (wse : (Cond.selects O x y).before a0 Z = true) (wm : (Cond.instanceMethod y).before a0 Z = true) (wi : (Cond.initialized y.cls).before a0 Z = true) (wc : (Cond.code y bytes maxL ret).before a0 Z = true) (hy : x.cls ≠ "java/lang/invoke/MethodHandle" ∧ x.cls ≠ "java/lang/invoke/VarHandle") (E : Exa Z h a O) (pd : parseMethodDescriptor x.desc = some ⟨ps, r⟩) (hl : as'.length = ps.length) (M : Old Z n0 h → Con w Z EL n0 y bytes maxL ret (Rm cf cc cs cl) (.ref a :: as') h ssc Qc) (hsub : ∀ x ∈ ssc, x ∈ ss) (hL : L.size = ml) (hfr : cf + 1 ≤ rf) (hlo : (st.map fun v => v.category).sum + (maxL + 11) + cl ≤ rl) (hc : k + cc ≤ rc) (hn : n + cs ≤ rs) (d : Dc code pc (.invokevirtual i) 3 pc') (hst : stk = as'.reverse ++ .ref a :: st) (G : ∀ v h' gs, Keep h h' ssc → Qc v h' gs → Go w K Z EL n0 ss0 Q pc' L (v.toList ++ st) h' (gs ++ ss) (k + cc) (n + cs)) : Go w K Z EL n0 ss0 Q pc L stk h ss k n := by
  obtain ⟨d1, rfl⟩ := d
  subst hst
  intro T H
  obtain ⟨vm0, locs, k0, X, N, eT, hS, hk, hZ, hv, hC, hF, hO, hK⟩ := H
  have hR : K.R = Rm rf rc rs rl := C.2.2.2.2.2.2.2.1
  have hown : (K.s.setVm vm0).vm.findClass own = some K.m.cls := fcl C hS
  have hZ' : Z.Warmed39 (K.s.setVm vm0).vm := hZ
  have hsz : L.size = K.c.maxLocals := hL.trans C.2.2.1.symm
  obtain ⟨cq, kq, qa, qb, qc⟩ := isOf (T := T) hZ' eT E
  cases w with
  | false =>
    obtain ⟨v, vm₁, B, hW, X', hp, stp⟩ := X.virtualBack C.1 (y := x) (z := y) hown (mvT hZ' wl) (mvT hZ' wd) (hnf _ hZ') (mvT hZ' wse) (mvT hZ' wm) hy (conBack (W := (st.map fun v => v.category).sum) (M hO) hZ' wc wi (by rw [hR]; exact hfr) (by rw [hR]; exact hlo)) qa qc (g := mkF K.m pc L (as'.reverse ++ .ref a :: st)) rfl hsz (Steps.refl _) (argsL := as') (rest := st) (lenOf pd hl) rfl (by show 2 * 0 + _ ≤ _; omega) (hb C.2.1 d1) (fun vm₁ hW => pre C eT hZ hC hF hsub hW hc hn)
    obtain ⟨gs, H', hQ, hKe⟩ := after C N hS hk hZ hv hC hF hK hsub hW hp (Or.inl ⟨rfl, X'⟩)
    exact Fns.steps (fun t r => stp.trans r) (G v _ gs hKe hQ _ H')
  | true =>
    obtain ⟨v, vm₁, B, hW, X', hS', -, hp, stp⟩ := X.virtualBackS C.1 (y := x) (z := y) hown (mvT hZ' wl) (mvT hZ' wd) (hnf _ hZ') (mvT hZ' wse) (mvT hZ' wm) hy (conBackS (W := (st.map fun v => v.category).sum) (M hO) hZ' wc wi (by rw [hR]; exact hfr) (by rw [hR]; exact hlo)) qa qc (g := mkF K.m pc L (as'.reverse ++ .ref a :: st)) rfl hsz (Steps.refl _) (argsL := as') (rest := st) (lenOf pd hl) rfl (by show 2 * 0 + _ ≤ _; omega) (hb C.2.1 d1) (fun vm₁ hW => pre C eT hZ hC hF hsub hW hc hn)
    obtain ⟨gs, H', hQ, hKe⟩ := after C N hS hk hZ hv hC hF hK hsub hW hp (Or.inr ⟨rfl, X', hS'⟩)
    exact Fns.steps (fun t r => stp.trans r) (G v _ gs hKe hQ _ H')
theorem callP_ {rf rc rs rl cf cc cs cl : Nat} (C : Cx w K Z a0 EL own code ml rt mn (Rm rf rc rs rl)) {i : Nat} {ps : List FieldType} {r : Option FieldType} {a : Addr} {as' : List Value} {O : String} (wl : (Cond.methodLink own i y).before a0 Z = true) (wm : (Cond.instanceMethod y).before a0 Z = true) (wse : (Cond.selects y.cls y y).before a0 Z = true) (wp : (Cond.privateMethod y).before a0 Z = true) (wi : (Cond.initialized y.cls).before a0 Z = true) (wc : (Cond.code y bytes maxL ret).before a0 Z = true) (hy : y.cls ≠ "java/lang/invoke/MethodHandle" ∧ y.cls ≠ "java/lang/invoke/VarHandle") (E : Exa Z h a O) (pd : parseMethodDescriptor y.desc = some ⟨ps, r⟩) (hl : as'.length = ps.length) (M : Old Z n0 h → Con w Z EL n0 y bytes maxL ret (Rm cf cc cs cl) (.ref a :: as') h ssc Qc) (hsub : ∀ x ∈ ssc, x ∈ ss) (hL : L.size = ml) (hfr : cf + 1 ≤ rf) (hlo : (st.map fun v => v.category).sum + (maxL + 11) + cl ≤ rl) (hc : k + cc ≤ rc) (hn : n + cs ≤ rs) (d : Dc code pc (.invokevirtual i) 3 pc') (hst : stk = as'.reverse ++ .ref a :: st) (G : ∀ v h' gs, Keep h h' ssc → Qc v h' gs → Go w K Z EL n0 ss0 Q pc' L (v.toList ++ st) h' (gs ++ ss) (k + cc) (n + cs)) : Go w K Z EL n0 ss0 Q pc L stk h ss k n := by
  obtain ⟨d1, rfl⟩ := d
  subst hst
  intro T H
  obtain ⟨vm0, locs, k0, X, N, eT, hS, hk, hZ, hv, hC, hF, hO, hK⟩ := H
  have hR : K.R = Rm rf rc rs rl := C.2.2.2.2.2.2.2.1
  have hown : (K.s.setVm vm0).vm.findClass own = some K.m.cls := fcl C hS
  have hZ' : Z.Warmed39 (K.s.setVm vm0).vm := hZ
  have hsz : L.size = K.c.maxLocals := hL.trans C.2.2.1.symm
  obtain ⟨cq, q1, q2⟩ := E.cell
  cases w with
  | false =>
    obtain ⟨v, vm₁, B, hW, X', hp, stp⟩ := X.privateBack C.1 (y := y) hown (mvT hZ' wl) (mvT hZ' wm) (mvT hZ' wse) (Cond.privateMethod_at (mvP hZ' wp (args := #[]))) (mvT hZ' wc) hy (conBack (W := (st.map fun v => v.category).sum) (M hO) hZ' wc wi (by rw [hR]; exact hfr) (by rw [hR]; exact hlo)) (g := mkF K.m pc L (as'.reverse ++ .ref a :: st)) rfl hsz (Steps.refl _) (a := a) (by rw [eT]; exact q1) q2 (argsL := as') (rest := st) (lenOf pd hl) rfl (by show 2 * 0 + _ ≤ _; omega) (hb C.2.1 d1) (fun vm₁ hW => pre C eT hZ hC hF hsub hW hc hn)
    obtain ⟨gs, H', hQ, hKe⟩ := after C N hS hk hZ hv hC hF hK hsub hW hp (Or.inl ⟨rfl, X'⟩)
    exact Fns.steps (fun t r => stp.trans r) (G v _ gs hKe hQ _ H')
  | true =>
    obtain ⟨v, vm₁, B, hW, X', hS', -, hp, stp⟩ := X.privateBackS C.1 (y := y) hown (mvT hZ' wl) (mvT hZ' wm) (mvT hZ' wse) (Cond.privateMethod_at (mvP hZ' wp (args := #[]))) (mvT hZ' wc) hy (conBackS (W := (st.map fun v => v.category).sum) (M hO) hZ' wc wi (by rw [hR]; exact hfr) (by rw [hR]; exact hlo)) (g := mkF K.m pc L (as'.reverse ++ .ref a :: st)) rfl hsz (Steps.refl _) (a := a) (by rw [eT]; exact q1) q2 (argsL := as') (rest := st) (lenOf pd hl) rfl (by show 2 * 0 + _ ≤ _; omega) (hb C.2.1 d1) (fun vm₁ hW => pre C eT hZ hC hF hsub hW hc hn)
    obtain ⟨gs, H', hQ, hKe⟩ := after C N hS hk hZ hv hC hF hK hsub hW hp (Or.inr ⟨rfl, X', hS'⟩)
    exact Fns.steps (fun t r => stp.trans r) (G v _ gs hKe hQ _ H')
theorem Ary.ofArv {b : Addr} {kc : ClassId} {ty : FieldType} {z : Int32} {vs : List Value} {dv : Value} (F : Arv Z h b kc ty z vs dv) (hl : z.toNatClampNeg = vs.length) : Ary Z h b ty vs := by
  obtain ⟨c, A, -, e2, -, H, -⟩ := F
  have hlt := rng32 z
  refine ⟨c, A, ?_, by rw [← hl]; simp only [Int32.toNatClampNeg]; omega⟩
  apply Array.ext_getElem?
  intro j
  by_cases q : j < c.slots.size
  · rw [H j q]
    have q' : j < vs.length := by omega
    simp [q']
  · have q' : ¬ j < vs.length := by omega
    rw [Array.getElem?_eq_none (by omega)]
    simp; omega
theorem ldcS_ {w : Bool} {rf rc rs rl : Nat} (hw : w = true) (C : Cx w K Z a0 EL own code ml rt mn (Rm rf rc rs rl)) {i : Nat} {text : String} (wl : (Cond.stringLink own i text).before a0 Z = true) (wS : ∀ a ∈ Bundle.stringAtoms, a.before a0 Z = true) (hmem : (own, i) ∈ EL)
    {vs : List Value} {z : Int32} (ht : (∀ c ∈ text.toList, c.toNat < 256) ∧ text.toList.map (fun c => Value.int (Jvm.Lit.byteI c.toNat.toUInt16)) = vs) (hz : ¬ z < 0) (hl : z.toNatClampNeg = vs.length) {nn : Nat} (hnn : 4 * text.toList.length ≤ nn) (hbig : nn ≤ 536870912) (hc : k + 2 ≤ rc) (hn : n + (nn + 4) ≤ rs)
    (d : Dc code pc (.ldc i) 2 pc') (G : ∀ h' a b, Keep h h' [] → Exa Z h' a "java/lang/String" → Fld Z h' a "java/lang/String" "coder" "B" (.int 0) → Fld Z h' a "java/lang/String" "value" "[B" (.ref b) → Ary Z h' b .byte vs → (∀ x ∈ ss, x ≠ a ∧ x ≠ b) → Go w K Z EL n0 ss0 Q pc' L (.ref a :: st) h' ss (k + 2) (n + (nn + 4))) : Go w K Z EL n0 ss0 Q pc L st h ss k n := by
  obtain ⟨d1, rfl⟩ := d
  intro T H
  obtain ⟨vm0, locs, k0, X, N, eT, hS, hk, hZ, hv, hC, hF, hO, hK⟩ := H
  have hR : K.R = Rm rf rc rs rl := C.2.2.2.2.2.2.2.1
  have hown : vm0.findClass own = some K.m.cls := fcl C hS
  obtain ⟨a, T', h', k1, b, kb, X', e', E, hS', hk', hZ', -, g1, g2, g3, g4, -, -, hCr, -, hSf, stp⟩ := ldcCH X C.1 hZ hown wl wS eT hS hk C.2.2.2.2.2.2.2.2.1 hmem hC.1 ht hz hl (g := mkF K.m pc L st) rfl (hb C.2.1 d1) hnn hbig (by rw [hR]; exact hc) (by rw [hR]; exact hn)
  have hF' : Sf Z EL n0 T'.vm h' ss0 K.s.heap ss := fun x hx => by
    obtain ⟨f1, f2, f3, f4⟩ := hF x hx
    exact ⟨f1, Nat.lt_of_lt_of_le f2 E.1, hCr.safe f2 f3, f4⟩
  exact Fns.steps stp (G h' a b ((Keep.refl h []).ext E) g1 g2 g3 (Ary.ofArv g4 hl) (fun x hx => hSf x (hF' x hx).2.2.1) T' ⟨T'.vm, locs, k1, X', N, e', hS', hk', hZ', (fun q => by rw [hw] at q; cases q), hC.trans hCr, hF', hO.ext E, hK.ext E⟩)
end Calls
end Jvm.Own
namespace Jvm.Own
open Jvm Jvm.ClassFile Sem Op Lib Jvm.Free Jvm.Stand Jvm.LawKit Jvm.RoadKit
/-- two roads that meet again with an int on the stack -/
theorem Go.join {w : Bool} {K : IV} {Z : State} {EL : List (String × Nat)} {n0 : Nat} {ss0 ss : List Addr} {Q : Option Value → Heap → List Addr → Prop} {pc pcJ : Nat} {L LJ : Array Slot} {st stJ : List Value} {h : Heap} {k n : Nat} {c : Prop} [Decidable c] {x y : Int32}
    (B : (c → Go w K Z EL n0 ss0 Q pcJ LJ (.int x :: stJ) h ss k n) → (¬ c → Go w K Z EL n0 ss0 Q pcJ LJ (.int y :: stJ) h ss k n) → Go w K Z EL n0 ss0 Q pc L st h ss k n) (G : Go w K Z EL n0 ss0 Q pcJ LJ (.int (if c then x else y) :: stJ) h ss k n) : Go w K Z EL n0 ss0 Q pc L st h ss k n :=
  B (fun q => by rw [if_pos q] at G; exact G) (fun q => by rw [if_neg q] at G; exact G)
end Jvm.Own
namespace Jvm.Own
open Jvm Jvm.ClassFile Sem Op Lib Jvm.Free Jvm.Stand Jvm.LawKit Jvm.RoadKit
/-! OWN KIT 4: Strings, plain facts on chars and indices -/
theorem catR {v : Value} (h : v.isRef = true) : v.category = 1 := by cases v <;> simp_all [Value.isRef, Value.category]
theorem st1 {L L' : Array Slot} {j : Nat} {v : Value} {o : Slot} (hold : L[j]? = some o) (ho : o = .unset ∨ ∃ w, o = .val w ∧ w.category = 1) (hv : v.category = 1) (e : L.setIfInBounds j (.val v) = L') : storeLocals L j v = some L' := e ▸ XS.store1 hold ho hv
def isCh (c : Int32) : Prop := 0 ≤ c.toInt ∧ c.toInt < 65536
def chs (cs : List Int32) : List Value := cs.map Value.int
def lat (cs : List Int32) : List Value := cs.map fun c => Value.int (nar .byte c)
def utf (cs : List Int32) : List Value := cs.flatMap fun c => [Value.int (nar .byte c), Value.int (nar .byte (c >>> 8))]
theorem chs_len (cs : List Int32) : (chs cs).length = cs.length := by simp [chs]
theorem lat_len (cs : List Int32) : (lat cs).length = cs.length := by simp [lat]
theorem utf_len (cs : List Int32) : (utf cs).length = 2 * cs.length := by
  induction cs with
  | nil => rfl
  | cons c r ih => simp [utf] at ih ⊢; omega
theorem i32e {x y : Int32} (h : x.toInt = y.toInt) : x = y := Int32.toInt_inj.mp h
theorem lt32 (x y : Int32) : x < y ↔ x.toInt < y.toInt := Int32.lt_iff_toInt_lt
theorem narc (x : Int32) : ((nar .char x).toInt - x.toInt) % 65536 = 0 ∧ 0 ≤ (nar .char x).toInt ∧ (nar .char x).toInt < 65536 := c_i2c x
theorem narb (x : Int32) : ((nar .byte x).toInt - x.toInt) % 256 = 0 ∧ -128 ≤ (nar .byte x).toInt ∧ (nar .byte x).toInt < 128 := c_i2b x
theorem narc_id {x : Int32} (h : isCh x) : nar .char x = x := i32e (by have := narc x; have := h.1; have := h.2; omega)
theorem narc_ch (x : Int32) : isCh (nar .char x) := (narc x).2
theorem narb_id {x : Int32} (h : -128 ≤ x.toInt ∧ x.toInt < 128) : nar .byte x = x := i32e (by have := narb x; omega)
theorem narb_idem (x : Int32) : nar .byte (nar .byte x) = nar .byte x := narb_id (narb x).2
theorem narc_idem (x : Int32) : nar .char (nar .char x) = nar .char x := narc_id (narc_ch x)
theorem mask8 (x : Int32) : (x &&& 255).toInt = x.toInt % 256 := c_mask x 255 8 (by decide) (by decide)
theorem lat_char {c : Int32} (h : 0 ≤ c.toInt ∧ c.toInt < 256) : nar .char (nar .byte c &&& 255) = c := by
  have e := mask8 (nar .byte c)
  have := narb c
  rw [narc_id (by unfold isCh; omega)]
  exact i32e (by omega)
theorem narb_inj {x y : Int32} (hx : 0 ≤ x.toInt ∧ x.toInt < 256) (hy : 0 ≤ y.toInt ∧ y.toInt < 256) (h : nar .byte x = nar .byte y) : x = y := i32e (by
  have a := narb x; have b := narb y; rw [h] at a; omega)
def natI (i : Nat) : Int32 := Nat.toInt32 i
theorem natI_toInt {i : Nat} (h : i < 2 ^ 31) : (natI i).toInt = i := len_toInt h
theorem natI_clamp {i : Nat} (h : i < 2 ^ 31) : (natI i).toNatClampNeg = i := by
  show (natI i).toInt.toNat = i
  rw [natI_toInt h]; rfl
theorem natI_succ {i : Nat} (h : i + 1 < 2 ^ 31) : natI i + 1 = natI (i + 1) := i32e (by
  have a := c_iadd (natI i) 1
  have b := natI_toInt (i := i) (by omega)
  have c := natI_toInt h
  have d : (1 : Int32).toInt = 1 := rfl
  have := rng32 (natI i + 1)
  omega)
/-- the bytes of a String that spells cs -/
def Byt (cs : List Int32) (z : Int32) (vs : List Value) : Prop := ((∀ c ∈ cs, c.toInt < 256) ∧ z = 0 ∧ vs = lat cs) ∨ ((∃ c ∈ cs, 256 ≤ c.toInt) ∧ z = 1 ∧ vs = utf cs)
abbrev sS : String := "java/lang/String"
/-- at a lies a String that spells cs -/
def Str (Z : State) (h : Heap) (a : Addr) (cs : List Int32) : Prop := Exa Z h a "java/lang/String" ∧ (∀ c ∈ cs, isCh c) ∧ cs.length ≤ 4096 ∧ ∃ (b : Addr) (z : Int32) (vs : List Value), Fld Z h a "java/lang/String" "value" "[B" (.ref b) ∧ Fld Z h a "java/lang/String" "coder" "B" (.int z) ∧ Ary Z h b .byte vs ∧ Byt cs z vs
section Facts
variable {Z : State} {h h' : Heap} {a b x : Addr} {cs cs' : List Int32} {a0 : Array Value}
theorem Str.keep (F : Str Z h a cs) (K : Keep h h' []) : Str Z h' a cs := by
  obtain ⟨E, h1, h2, b, z, vs, F1, F2, A, B⟩ := F
  exact ⟨E.keep K, h1, h2, b, z, vs, F1.keep K nin0, F2.keep K nin0, A.keep K nin0, B⟩
theorem Str.keepX {C : String} {kk : Nat} (F : Str Z h a cs) (K : Keep h h' [x]) (E : Exa Z h x C) (hC : "java/lang/String" ≠ C) (wi : (Cond.instantiable C kk).before a0 Z = true) : Str Z h' a cs := by
  obtain ⟨E0, h1, h2, b, z, vs, F1, F2, A, B⟩ := F
  have n1 : a ∉ [x] := ninS (ne_exa E0 E hC) nin0
  have n2 : b ∉ [x] := ninS (by obtain ⟨c, A', -⟩ := A; exact (ne_arr E wi A').symm) nin0
  exact ⟨E0.keep K, h1, h2, b, z, vs, F1.keep K n1, F2.keep K n1, A.keep K n2, B⟩
theorem Str.lt (F : Str Z h a cs) : a < h.size := F.1.lt
theorem Fld.fn {C n d : String} {v w : Value} (F : Fld Z h a C n d v) (G : Fld Z h a C n d w) : v = w := by
  by_cases q : v = w
  · exact q
  · exact absurd rfl (F.ne G q)
theorem Ary.fn {ty : FieldType} {vs ws : List Value} (F : Ary Z h a ty vs) (G : Ary Z h a ty ws) : vs = ws := by
  obtain ⟨c, A, e, -⟩ := F
  obtain ⟨c', A', e', -⟩ := G
  cases A.1.symm.trans A'.1
  rw [e] at e'
  simpa using e'
theorem lat_inj {cs cs' : List Int32} (h : ∀ c ∈ cs, 0 ≤ c.toInt ∧ c.toInt < 256) (h' : ∀ c ∈ cs', 0 ≤ c.toInt ∧ c.toInt < 256) (e : lat cs = lat cs') : cs = cs' := by
  induction cs generalizing cs' with
  | nil => cases cs' with
    | nil => rfl
    | cons _ _ => simp [lat] at e
  | cons c r ih => cases cs' with
    | nil => simp [lat] at e
    | cons c' r' =>
      simp only [lat, List.map_cons, List.cons.injEq, Value.int.injEq] at e
      rw [narb_inj (h c (by simp)) (h' c' (by simp)) e.1, ih (fun x hx => h x (by simp [hx])) (fun x hx => h' x (by simp [hx])) e.2]
theorem utf1_inj {x y : Int32} (hx : isCh x) (hy : isCh y) (h : nar .byte x = nar .byte y) (h' : nar .byte (x >>> 8) = nar .byte (y >>> 8)) : x = y := i32e (by
  have a := narb x; have b := narb y; rw [h] at a
  have a' := narb (x >>> 8); have b' := narb (y >>> 8); rw [h'] at a'
  have e1 : (x >>> 8).toInt = x.toInt / 256 := c_ishr x 8 8 (by decide)
  have e2 : (y >>> 8).toInt = y.toInt / 256 := c_ishr y 8 8 (by decide)
  have := hx.1; have := hx.2; have := hy.1; have := hy.2
  omega)
theorem utf_inj {cs cs' : List Int32} (h : ∀ c ∈ cs, isCh c) (h' : ∀ c ∈ cs', isCh c) (e : utf cs = utf cs') : cs = cs' := by
  induction cs generalizing cs' with
  | nil => cases cs' with
    | nil => rfl
    | cons _ _ => simp [utf] at e
  | cons c r ih => cases cs' with
    | nil => simp [utf] at e
    | cons c' r' =>
      simp only [utf, List.flatMap_cons, List.cons_append, List.nil_append, List.cons.injEq, Value.int.injEq] at e
      rw [utf1_inj (h c (by simp)) (h' c' (by simp)) e.1 e.2.1, ih (fun x hx => h x (by simp [hx])) (fun x hx => h' x (by simp [hx])) e.2.2]
theorem Byt.iff {z z' : Int32} {vs vs' : List Value} (h : ∀ c ∈ cs, isCh c) (h' : ∀ c ∈ cs', isCh c) (B : Byt cs z vs) (B' : Byt cs' z' vs') : (z = z' ∧ vs = vs') ↔ cs = cs' := by
  constructor
  · rintro ⟨rfl, rfl⟩
    rcases B with ⟨q, rfl, rfl⟩ | ⟨q, rfl, rfl⟩ <;> rcases B' with ⟨q', e1, e2⟩ | ⟨q', e1, e2⟩
    · exact lat_inj (fun c hc => ⟨(h c hc).1, q c hc⟩) (fun c hc => ⟨(h' c hc).1, q' c hc⟩) e2
    · exact absurd e1 (by decide)
    · exact absurd e1 (by decide)
    · exact utf_inj h h' e2
  · rintro rfl
    rcases B with ⟨q, rfl, rfl⟩ | ⟨⟨c, hc, q⟩, rfl, rfl⟩ <;> rcases B' with ⟨q', e1, e2⟩ | ⟨⟨c', hc', q'⟩, e1, e2⟩
    · exact ⟨e1.symm, e2.symm⟩
    · have := q c' hc'; omega
    · have := q' c hc; omega
    · exact ⟨e1.symm, e2.symm⟩
theorem Str.fn (F : Str Z h a cs) (G : Str Z h a cs') : cs = cs' := by
  obtain ⟨-, h1, -, b, z, vs, F1, F2, A, B⟩ := F
  obtain ⟨-, h1', -, b', z', vs', F1', F2', A', B'⟩ := G
  have e1 := Fld.fn F1 F1'
  have e2 := Fld.fn F2 F2'
  simp only [Value.ref.injEq, Value.int.injEq] at e1 e2
  subst e1
  exact (Byt.iff h1 h1' B B').mp ⟨e2, A.fn A'⟩
end Facts
end Jvm.Own
namespace Jvm.Own
open Jvm Jvm.ClassFile Sem Op Lib Jvm.Free Jvm.Stand Jvm.LawKit Jvm.RoadKit
section Facts2
variable {Z : State} {h h' : Heap} {a b x : Addr} {cs cs' : List Int32} {a0 : Array Value}
theorem Ary.ne {ty ty' : FieldType} {vs ws : List Value} (F : Ary Z h a ty vs) (G : Ary Z h b ty' ws) (q : ty ≠ ty') : a ≠ b := fun e => by
  subst e
  obtain ⟨c, A, -⟩ := F
  obtain ⟨c', A', -⟩ := G
  cases A.1.symm.trans A'.1
  obtain ⟨-, k, hk, comp, hkind⟩ := A.2.1
  obtain ⟨-, k', hk', comp', hkind'⟩ := A'.2.1
  cases hk.symm.trans hk'
  have := hkind.symm.trans hkind'
  injection this with _ e
  exact q e
theorem Ary.neX {ty : FieldType} {vs : List Value} {C : String} {kk : Nat} (F : Ary Z h a ty vs) (E : Exa Z h x C) (wi : (Cond.instantiable C kk).before a0 Z = true) : a ≠ x := by
  obtain ⟨c, A, -⟩ := F
  exact (ne_arr E wi A).symm
theorem Ary.other {ty : FieldType} {vs : List Value} {sl : Nat} {v : Value} (F : Ary Z h a ty vs) (W : Wr h h' b sl v) (q : a ≠ b) : Ary Z h' a ty vs := F.keep (Keep.of_wr W) (ninS q nin0)
/-- how many chars ahead of the first above 255 -/
def pfx (cs : List Int32) : Nat := (cs.takeWhile fun c => decide (c.toInt < 256)).length
theorem pfx_all (h : ∀ c ∈ cs, c.toInt < 256) : pfx cs = cs.length := by
  induction cs with
  | nil => rfl
  | cons x r ih =>
    have e := ih (fun c hc => h c (by simp [hc]))
    have hx := h x (by simp)
    simp only [pfx] at e
    simp [pfx, List.takeWhile_cons, hx, e]
theorem pfx_at {i : Nat} {c : Int32} (h : ∀ c ∈ cs.take i, c.toInt < 256) (hc : cs[i]? = some c) (q : 256 ≤ c.toInt) : pfx cs = i := by
  induction cs generalizing i with
  | nil => simp at hc
  | cons x r ih =>
    cases i with
    | zero =>
      simp at hc; subst hc
      simp [pfx, List.takeWhile_cons, show ¬ x.toInt < 256 by omega]
    | succ i =>
      have hx : x.toInt < 256 := h x (by simp)
      have := ih (i := i) (fun c hc => h c (by simp [hc])) (by simpa using hc)
      simp only [pfx] at this
      simp [pfx, List.takeWhile_cons, hx, this]
theorem lat_set {i m : Nat} {c : Int32} (hm : i + (m + 1) = cs.length) (hc : cs[i]? = some c) : (lat (cs.take i) ++ List.replicate (m + 1) (Value.int 0)).set i (.int (nar .byte (nar .byte c))) = lat (cs.take (i + 1)) ++ List.replicate m (Value.int 0) := by
  have hi : i < cs.length := by omega
  have hl : (lat (cs.take i)).length = i := by rw [lat_len, List.length_take]; omega
  rw [List.set_append_right _ _ (by omega), hl, Nat.sub_self, List.replicate_succ, List.set_cons_zero, narb_idem]
  have e : cs.take (i + 1) = cs.take i ++ [c] := by
    rw [List.take_add_one, hc]; rfl
  rw [e]
  simp [lat]
theorem take_lt {i : Nat} {c : Int32} (h : ∀ c ∈ cs.take i, c.toInt < 256) (hc : cs[i]? = some c) (q : c.toInt < 256) : ∀ c ∈ cs.take (i + 1), c.toInt < 256 := by
  have e : cs.take (i + 1) = cs.take i ++ [c] := by
    rw [List.take_add_one, hc]; rfl
  rw [e]
  intro x hx
  rcases List.mem_append.mp hx with hx | hx
  · exact h x hx
  · simp at hx; subst hx; exact q
theorem chs_at {i : Nat} {c : Int32} (hc : cs[i]? = some c) : (chs cs)[i]? = some (.int c) := by simp [chs, hc]
theorem lat_at {i : Nat} {c : Int32} (hc : cs[i]? = some c) : (lat cs)[i]? = some (.int (nar .byte c)) := by simp [lat, hc]
theorem utf_at {i : Nat} {c : Int32} (hc : cs[i]? = some c) : (utf cs)[2 * i]? = some (.int (nar .byte c)) ∧ (utf cs)[2 * i + 1]? = some (.int (nar .byte (c >>> 8))) := by
  induction cs generalizing i with
  | nil => simp at hc
  | cons x r ih =>
    cases i with
    | zero => simp at hc; subst hc; simp [utf]
    | succ i =>
      have := ih (i := i) (by simpa using hc)
      simp only [utf] at this ⊢
      simp only [List.flatMap_cons, List.cons_append, List.nil_append]
      have e1 : 2 * (i + 1) = (2 * i) + 1 + 1 := by omega
      have e2 : 2 * (i + 1) + 1 = (2 * i + 1) + 1 + 1 := by omega
      rw [e2, e1]
      simpa using this
end Facts2
end Jvm.Own
namespace Jvm.Own
open Jvm Jvm.ClassFile Sem Op Lib Jvm.Free Jvm.Stand Jvm.LawKit Jvm.RoadKit
section Facts3
variable {cs cs' : List Int32}
theorem pfx_le (cs : List Int32) : pfx cs ≤ cs.length := (List.takeWhile_sublist _).length_le
theorem pfx_take (cs : List Int32) : ∀ c ∈ cs.take (pfx cs), c.toInt < 256 := by
  induction cs with
  | nil => simp
  | cons x r ih =>
    by_cases hx : x.toInt < 256
    · intro c hc
      have e : pfx (x :: r) = pfx r + 1 := by simp [pfx, List.takeWhile_cons, hx]
      rw [e, List.take_succ_cons] at hc
      rcases List.mem_cons.mp hc with rfl | hc
      · exact hx
      · exact ih c hc
    · intro c hc
      have e : pfx (x :: r) = 0 := by simp [pfx, List.takeWhile_cons, hx]
      rw [e] at hc; simp at hc
theorem pfx_full (h : pfx cs = cs.length) : ∀ c ∈ cs, c.toInt < 256 := by
  have := pfx_take cs; rw [h, List.take_length] at this; exact this
theorem pfx_next (h : pfx cs < cs.length) : ∃ c, cs[pfx cs]? = some c ∧ 256 ≤ c.toInt := by
  induction cs with
  | nil => simp at h
  | cons x r ih =>
    by_cases hx : x.toInt < 256
    · have e : pfx (x :: r) = pfx r + 1 := by simp [pfx, List.takeWhile_cons, hx]
      obtain ⟨c, h1, h2⟩ := ih (by rw [e] at h; simpa using h)
      exact ⟨c, by rw [e]; simpa using h1, h2⟩
    · have e : pfx (x :: r) = 0 := by simp [pfx, List.takeWhile_cons, hx]
      exact ⟨x, by rw [e]; simp, by omega⟩
theorem Byt.length {z : Int32} {vs : List Value} (B : Byt cs z vs) : (z = 0 ∧ vs.length = cs.length) ∨ (z = 1 ∧ vs.length = 2 * cs.length) := by
  rcases B with ⟨-, rfl, rfl⟩ | ⟨-, rfl, rfl⟩
  · exact Or.inl ⟨rfl, lat_len _⟩
  · exact Or.inr ⟨rfl, utf_len _⟩
theorem Byt.len_lt {z : Int32} {vs : List Value} (B : Byt cs z vs) (hl : cs.length ≤ 4096) : vs.length < 2 ^ 31 := by rcases B.length with ⟨-, e⟩ | ⟨-, e⟩ <;> omega
theorem Byt.coder {z y : Int32} {vs : List Value} (B : Byt cs z vs) (h1 : 1 ≤ cs.length) (hl : cs.length ≤ 4096) (hy : y.toInt = vs.length) : nar .byte (nar .byte (ushr (natI cs.length - y) 31)) = z := by
  have e1 := natI_toInt (i := cs.length) (by omega)
  have e2 := c_isub (natI cs.length) y
  have e3 := rng32 (natI cs.length - y)
  have e4 : (ushr (natI cs.length - y) 31).toInt = ((natI cs.length - y).toInt % 4294967296) / (2 ^ 31 : Nat) := c_iushr _ 31 31 (by decide) (by decide)
  have e6 : ((2 ^ 31 : Nat) : Int) = 2147483648 := by decide
  rw [e6] at e4
  have e5 : (ushr (natI cs.length - y) 31) = z := i32e (by
    rcases B.length with ⟨rfl, e⟩ | ⟨rfl, e⟩
    · have : (0 : Int32).toInt = 0 := rfl; omega
    · have : (1 : Int32).toInt = 1 := rfl; omega)
  rw [e5]
  rcases B.length with ⟨rfl, e⟩ | ⟨rfl, e⟩ <;> rfl
theorem Byt.ints {z : Int32} {vs : List Value} (B : Byt cs z vs) (hl : cs.length ≤ 4096) : ∃ xs : List Int32, vs = xs.map Value.int ∧ xs.length ≤ 8192 := by
  rcases B with ⟨-, -, rfl⟩ | ⟨-, -, rfl⟩
  · exact ⟨cs.map (nar .byte), by simp [lat], by simp; omega⟩
  · refine ⟨cs.flatMap fun c => [nar .byte c, nar .byte (c >>> 8)], by simp [utf, List.map_flatMap], ?_⟩
    have := utf_len cs
    have e : (utf cs).length = (cs.flatMap fun c => [nar .byte c, nar .byte (c >>> 8)]).length := by
      rw [← List.length_map Value.int]; simp [utf, List.map_flatMap]
    omega
end Facts3
end Jvm.Own
namespace Jvm.Own
open Jvm Jvm.ClassFile Sem Op Lib Jvm.Free Jvm.Stand Jvm.LawKit Jvm.RoadKit
section Facts4
variable {cs : List Int32}
theorem shl1 {x : Int32} {i : Nat} (h : x.toInt = i) (hi : i < 2 ^ 30) : (x <<< (1 &&& 31)).toInt = (2 * i : Nat) := by
  have a := c_ishl x 1 1 (by decide)
  have b := rng32 (x <<< (1 &&& 31))
  have e : ((2 ^ 1 : Nat) : Int) = 2 := by decide
  rw [e] at a
  have c : (x <<< (1 &&& 31)).toInt = 2 * i := by omega
  rw [c]; rfl
theorem shr1 {x : Int32} {m : Nat} (h : x.toInt = (2 * m : Nat)) : (x >>> (1 &&& 31)).toInt = m := by
  have a := c_ishr x 1 1 (by decide)
  have e : ((2 ^ 1 : Nat) : Int) = 2 := by decide
  rw [e] at a
  omega
theorem shr0 (x : Int32) : x >>> (0 &&& 31) = x := i32e (by
  have a := c_ishr x 0 0 (by decide)
  have e : ((2 ^ 0 : Nat) : Int) = 1 := by decide
  rw [e] at a; omega)
theorem utf_char {c : Int32} (h : isCh c) : nar .char (((nar .byte c &&& 255) <<< (0 &&& 31)) ||| ((nar .byte (c >>> 8) &&& 255) <<< (8 &&& 31))) = c := by
  obtain ⟨h1, h2⟩ := h
  have e8 : (c >>> 8).toInt = c.toInt / 256 := c_ishr c 8 8 (by decide)
  have m1 := mask8 (nar .byte c)
  have m2 := mask8 (nar .byte (c >>> 8))
  have n1 := narb c
  have n2 := narb (c >>> 8)
  have s1 := c_ishl (nar .byte c &&& 255) 0 0 (by decide)
  have s2 := c_ishl (nar .byte (c >>> 8) &&& 255) 8 8 (by decide)
  have r1 := rng32 ((nar .byte c &&& 255) <<< (0 &&& 31))
  have r2 := rng32 ((nar .byte (c >>> 8) &&& 255) <<< (8 &&& 31))
  have z0 : ((2 ^ 0 : Nat) : Int) = 1 := by decide
  have z8 : ((2 ^ 8 : Nat) : Int) = 256 := by decide
  rw [z0] at s1
  rw [z8] at s2
  have f1 : ((nar .byte c &&& 255) <<< (0 &&& 31)).toInt = c.toInt % 256 := by omega
  have f2 : ((nar .byte (c >>> 8) &&& 255) <<< (8 &&& 31)).toInt = c.toInt / 256 * 256 := by omega
  have o := c_or' ((nar .byte c &&& 255) <<< (0 &&& 31)) ((nar .byte (c >>> 8) &&& 255) <<< (8 &&& 31)) 8 (by decide) 256 z8.symm (by rw [f2]; omega) (by rw [f1]; omega) (by rw [f1]; omega)
  have r3 := rng32 (((nar .byte c &&& 255) <<< (0 &&& 31)) ||| ((nar .byte (c >>> 8) &&& 255) <<< (8 &&& 31)))
  have f3 : (((nar .byte c &&& 255) <<< (0 &&& 31)) ||| ((nar .byte (c >>> 8) &&& 255) <<< (8 &&& 31))) = c := i32e (by omega)
  rw [f3, narc_id ⟨h1, h2⟩]
theorem utf_set {i m : Nat} {c : Int32} (hm : i + (m + 1) = cs.length) (hc : cs[i]? = some c) : ((utf (cs.take i) ++ List.replicate (2 * (m + 1)) (Value.int 0)).set (2 * i) (.int (nar .byte c))).set (2 * i + 1) (.int (nar .byte (c >>> 8))) = utf (cs.take (i + 1)) ++ List.replicate (2 * m) (Value.int 0) := by
  have hi : i < cs.length := by omega
  have hl : (utf (cs.take i)).length = 2 * i := by rw [utf_len, List.length_take]; omega
  rw [List.set_append_right _ _ (by omega), hl, Nat.sub_self, List.set_append_right _ _ (by omega), hl, show 2 * (m + 1) = 2 * m + 1 + 1 by omega, List.replicate_succ, List.replicate_succ, List.set_cons_zero, show 2 * i + 1 - 2 * i = 1 by omega, List.set_cons_succ, List.set_cons_zero]
  have e : cs.take (i + 1) = cs.take i ++ [c] := by
    rw [List.take_add_one, hc]; rfl
  rw [e]
  simp [utf]
theorem Byt.isr {z y : Int32} {vs : List Value} (B : Byt cs z vs) (hl : cs.length ≤ 4096) (hy : y.toInt = vs.length) : y >>> (z &&& 31) = natI cs.length := i32e (by
  rw [natI_toInt (by omega)]
  rcases B.length with ⟨rfl, e⟩ | ⟨rfl, e⟩
  · rw [shr0, hy, e]
  · exact shr1 (by rw [hy, e]))
theorem Byt.z01 {z : Int32} {vs : List Value} (B : Byt cs z vs) : z = 0 ∨ z = 1 := B.length.imp (·.1) (·.1)
theorem Byt.nb {z : Int32} {vs : List Value} (B : Byt cs z vs) : nar .byte z = z := by rcases B.z01 with rfl | rfl <;> rfl
theorem Byt.zero {vs : List Value} (B : Byt cs 0 vs) : (∀ c ∈ cs, c.toInt < 256) ∧ vs = lat cs := by
  rcases B with ⟨q, -, e⟩ | ⟨-, q, -⟩
  · exact ⟨q, e⟩
  · exact absurd q (by decide)
theorem Byt.one {vs : List Value} (B : Byt cs 1 vs) : vs = utf cs := by
  rcases B with ⟨-, q, -⟩ | ⟨-, -, e⟩
  · exact absurd q (by decide)
  · exact e
end Facts4
end Jvm.Own
namespace Jvm.Own
open Jvm Jvm.ClassFile Sem Op Lib Jvm.Free Jvm.Stand Jvm.LawKit Jvm.RoadKit
theorem eq_val {args : Array Value} {first s : State} {o : Option Outcome} {idx : List Nat} {t : Term} {q : Int32} (h : (Jvm.Cond.eq t (.int q)).value args first o s idx = some true) : t.eval args first o idx s = some (.int q) := by
  obtain ⟨x, y, h1, h2, k1, k2⟩ := cmp_v (Or.inl h)
  cases (Term.int_eval q).symm.trans h2
  obtain ⟨z, rfl⟩ := k2
  have := gotT (Cond.eq_ints h1 h2) h
  rw [h1, this]
end Jvm.Own
namespace Jvm.Own
open Jvm Jvm.ClassFile Sem Op Lib Jvm.Free Jvm.Stand Jvm.LawKit Jvm.RoadKit
theorem Ary.fill {Z : State} {h : Heap} {b : Addr} {ty : FieldType} {v w : Value} {i j m n : Nat} (F : Ary Z h b ty ((List.replicate i v ++ List.replicate m w).set i v)) (hm : m = n + 1) (hj : j = i + 1) : Ary Z h b ty (List.replicate j v ++ List.replicate n w) := by
  subst hm hj
  have e : (List.replicate i v ++ List.replicate (n + 1) w).set i v = List.replicate (i + 1) v ++ List.replicate n w := by
    rw [List.set_append_right _ _ (by simp), List.length_replicate, Nat.sub_self, List.replicate_succ, List.set_cons_zero, List.replicate_succ', List.append_assoc]; rfl
  rw [e] at F; exact F
end Jvm.Own
namespace Jvm.Pilot.@@N@@
open Jvm Jvm.ClassFile Sem Op Lib Jvm.Free Jvm.Stand Jvm.LawKit Jvm.RoadKit Jvm.Own Jvm.Pilot.@@N@@.Jvm.D
abbrev WD : Bool := true
abbrev EL0 : List (String × Nat) := [("java/lang/String", 7)]
theorem hWE : WD = false → EL0 = [] := fun h => by cases h
theorem hEL {Z : State} {a0 : Array Value} (hw : ∀ d ∈ tables_1, d.before a0 Z = true) : EW Z a0 EL0 := EW.cons (hw _ (List.mem_of_getElem? (i := 18) rfl)) (by decide +kernel) (EW.nil)
theorem wS {Z : State} {a0 : Array Value} (hw : ∀ d ∈ tables_1, d.before a0 Z = true) : ∀ a ∈ Bundle.stringAtoms, a.before a0 Z = true := by
  intro d hd
  simp only [Bundle.stringAtoms, List.mem_cons, List.not_mem_nil, or_false] at hd
  rcases hd with rfl | rfl | rfl | rfl | rfl | rfl | rfl
  · exact (hw _ (List.mem_of_getElem? (i := 7) rfl))
  · exact (hw _ (List.mem_of_getElem? (i := 6) rfl))
  · exact (hw _ (List.mem_of_getElem? (i := 19) rfl))
  · exact (hw _ (List.mem_of_getElem? (i := 20) rfl))
  · exact (hw _ (List.mem_of_getElem? (i := 21) rfl))
  · exact (hw _ (List.mem_of_getElem? (i := 22) rfl))
  · exact (hw _ (List.mem_of_getElem? (i := 23) rfl))
def Stt (Z : State) : Prop := (∃ cv : Int32, ¬ cv = 0 ∧ Sta Z Z.heap "java/lang/String" "COMPACT_STRINGS" "Z" (.int cv)) ∧ True
theorem st_c {Z : State} (hs : Stt Z) : (∃ cv : Int32, ¬ cv = 0 ∧ Sta Z Z.heap "java/lang/String" "COMPACT_STRINGS" "Z" (.int cv)) := hs.1
theorem d0_0 : Dc method_4_code 0 (.iload_n 0) 1 1 := ⟨by decide +kernel, rfl⟩
theorem d0_1 : Db method_4_code 1 (.ifCond .ne 14) 3 4 (14) 15 := ⟨by decide +kernel, rfl, by decide, by decide⟩
theorem d0_4 : Dc method_4_code 4 (.new 27) 3 7 := ⟨by decide +kernel, rfl⟩
theorem d0_7 : Dc method_4_code 7 (.dup) 1 8 := ⟨by decide +kernel, rfl⟩
theorem d0_8 : Dc method_4_code 8 (.iconst 0) 1 9 := ⟨by decide +kernel, rfl⟩
theorem d0_9 : Dc method_4_code 9 (.newarray .char) 2 11 := ⟨by decide +kernel, rfl⟩
theorem d0_11 : Dc method_4_code 11 (.invokespecial 29) 3 14 := ⟨by decide +kernel, rfl⟩
theorem d0_14 : Dc method_4_code 14 (.areturn) 1 15 := ⟨by decide +kernel, rfl⟩
theorem d0_15 : Dc method_4_code 15 (.iload_n 0) 1 16 := ⟨by decide +kernel, rfl⟩
theorem d0_16 : Dc method_4_code 16 (.iconst 1) 1 17 := ⟨by decide +kernel, rfl⟩
theorem d0_17 : Db method_4_code 17 (.if_icmp .ne 18) 3 20 (18) 35 := ⟨by decide +kernel, rfl, by decide, by decide⟩
theorem d0_20 : Dc method_4_code 20 (.new 27) 3 23 := ⟨by decide +kernel, rfl⟩
theorem d0_23 : Dc method_4_code 23 (.dup) 1 24 := ⟨by decide +kernel, rfl⟩
theorem d0_24 : Dc method_4_code 24 (.iconst 1) 1 25 := ⟨by decide +kernel, rfl⟩
theorem d0_25 : Dc method_4_code 25 (.newarray .char) 2 27 := ⟨by decide +kernel, rfl⟩
theorem d0_27 : Dc method_4_code 27 (.dup) 1 28 := ⟨by decide +kernel, rfl⟩
theorem d0_28 : Dc method_4_code 28 (.iconst 0) 1 29 := ⟨by decide +kernel, rfl⟩
theorem d0_29 : Dc method_4_code 29 (.iload_n 1) 1 30 := ⟨by decide +kernel, rfl⟩
theorem d0_30 : Dc method_4_code 30 (.castore) 1 31 := ⟨by decide +kernel, rfl⟩
theorem d0_31 : Dc method_4_code 31 (.invokespecial 29) 3 34 := ⟨by decide +kernel, rfl⟩
theorem d0_34 : Dc method_4_code 34 (.areturn) 1 35 := ⟨by decide +kernel, rfl⟩
theorem d0_35 : Dc method_4_code 35 (.iload_n 0) 1 36 := ⟨by decide +kernel, rfl⟩
theorem d0_36 : Dc method_4_code 36 (.iconst 2) 1 37 := ⟨by decide +kernel, rfl⟩
theorem d0_37 : Db method_4_code 37 (.if_icmp .ne 22) 3 40 (22) 59 := ⟨by decide +kernel, rfl, by decide, by decide⟩
theorem d0_40 : Dc method_4_code 40 (.new 27) 3 43 := ⟨by decide +kernel, rfl⟩
theorem d0_43 : Dc method_4_code 43 (.dup) 1 44 := ⟨by decide +kernel, rfl⟩
theorem d0_44 : Dc method_4_code 44 (.iconst 2) 1 45 := ⟨by decide +kernel, rfl⟩
theorem d0_45 : Dc method_4_code 45 (.newarray .char) 2 47 := ⟨by decide +kernel, rfl⟩
theorem d0_47 : Dc method_4_code 47 (.dup) 1 48 := ⟨by decide +kernel, rfl⟩
theorem d0_48 : Dc method_4_code 48 (.iconst 0) 1 49 := ⟨by decide +kernel, rfl⟩
theorem d0_49 : Dc method_4_code 49 (.iload_n 1) 1 50 := ⟨by decide +kernel, rfl⟩
theorem d0_50 : Dc method_4_code 50 (.castore) 1 51 := ⟨by decide +kernel, rfl⟩
theorem d0_51 : Dc method_4_code 51 (.dup) 1 52 := ⟨by decide +kernel, rfl⟩
theorem d0_52 : Dc method_4_code 52 (.iconst 1) 1 53 := ⟨by decide +kernel, rfl⟩
theorem d0_53 : Dc method_4_code 53 (.iload_n 2) 1 54 := ⟨by decide +kernel, rfl⟩
theorem d0_54 : Dc method_4_code 54 (.castore) 1 55 := ⟨by decide +kernel, rfl⟩
theorem d0_55 : Dc method_4_code 55 (.invokespecial 29) 3 58 := ⟨by decide +kernel, rfl⟩
theorem d0_58 : Dc method_4_code 58 (.areturn) 1 59 := ⟨by decide +kernel, rfl⟩
theorem d0_59 : Dc method_4_code 59 (.new 27) 3 62 := ⟨by decide +kernel, rfl⟩
theorem d0_62 : Dc method_4_code 62 (.dup) 1 63 := ⟨by decide +kernel, rfl⟩
theorem d0_63 : Dc method_4_code 63 (.iconst 3) 1 64 := ⟨by decide +kernel, rfl⟩
theorem d0_64 : Dc method_4_code 64 (.newarray .char) 2 66 := ⟨by decide +kernel, rfl⟩
theorem d0_66 : Dc method_4_code 66 (.dup) 1 67 := ⟨by decide +kernel, rfl⟩
theorem d0_67 : Dc method_4_code 67 (.iconst 0) 1 68 := ⟨by decide +kernel, rfl⟩
theorem d0_68 : Dc method_4_code 68 (.iload_n 1) 1 69 := ⟨by decide +kernel, rfl⟩
theorem d0_69 : Dc method_4_code 69 (.castore) 1 70 := ⟨by decide +kernel, rfl⟩
theorem d0_70 : Dc method_4_code 70 (.dup) 1 71 := ⟨by decide +kernel, rfl⟩
theorem d0_71 : Dc method_4_code 71 (.iconst 1) 1 72 := ⟨by decide +kernel, rfl⟩
theorem d0_72 : Dc method_4_code 72 (.iload_n 2) 1 73 := ⟨by decide +kernel, rfl⟩
theorem d0_73 : Dc method_4_code 73 (.castore) 1 74 := ⟨by decide +kernel, rfl⟩
theorem d0_74 : Dc method_4_code 74 (.dup) 1 75 := ⟨by decide +kernel, rfl⟩
theorem d0_75 : Dc method_4_code 75 (.iconst 2) 1 76 := ⟨by decide +kernel, rfl⟩
theorem d0_76 : Dc method_4_code 76 (.iload_n 3) 1 77 := ⟨by decide +kernel, rfl⟩
theorem d0_77 : Dc method_4_code 77 (.castore) 1 78 := ⟨by decide +kernel, rfl⟩
theorem d0_78 : Dc method_4_code 78 (.invokespecial 29) 3 81 := ⟨by decide +kernel, rfl⟩
theorem d0_81 : Dc method_4_code 81 (.areturn) 1 82 := ⟨by decide +kernel, rfl⟩
theorem d1_0 : Dc jdk_42_method_3_code 0 (.aload_n 0) 1 1 := ⟨by decide +kernel, rfl⟩
theorem d1_1 : Dc jdk_42_method_3_code 1 (.aload_n 1) 1 2 := ⟨by decide +kernel, rfl⟩
theorem d1_2 : Dc jdk_42_method_3_code 2 (.iconst 0) 1 3 := ⟨by decide +kernel, rfl⟩
theorem d1_3 : Dc jdk_42_method_3_code 3 (.aload_n 1) 1 4 := ⟨by decide +kernel, rfl⟩
theorem d1_4 : Dc jdk_42_method_3_code 4 (.arraylength) 1 5 := ⟨by decide +kernel, rfl⟩
theorem d1_5 : Dc jdk_42_method_3_code 5 (.aconst_null) 1 6 := ⟨by decide +kernel, rfl⟩
theorem d1_6 : Dc jdk_42_method_3_code 6 (.invokespecial 27) 3 9 := ⟨by decide +kernel, rfl⟩
theorem d1_9 : Dc jdk_42_method_3_code 9 (.return_) 1 10 := ⟨by decide +kernel, rfl⟩
theorem d2_0 : Dc jdk_42_method_149_code 0 (.aload_n 0) 1 1 := ⟨by decide +kernel, rfl⟩
theorem d2_1 : Dc jdk_42_method_149_code 1 (.invokespecial 1) 3 4 := ⟨by decide +kernel, rfl⟩
theorem d2_4 : Dc jdk_42_method_149_code 4 (.iload_n 3) 1 5 := ⟨by decide +kernel, rfl⟩
theorem d2_5 : Db jdk_42_method_149_code 5 (.ifCond .ne 22) 3 8 (22) 27 := ⟨by decide +kernel, rfl, by decide, by decide⟩
theorem d2_8 : Dc jdk_42_method_149_code 8 (.aload_n 0) 1 9 := ⟨by decide +kernel, rfl⟩
theorem d2_9 : Dc jdk_42_method_149_code 9 (.ldc 7) 2 11 := ⟨by decide +kernel, rfl⟩
theorem d2_11 : Dc jdk_42_method_149_code 11 (.getfield 9) 3 14 := ⟨by decide +kernel, rfl⟩
theorem d2_14 : Dc jdk_42_method_149_code 14 (.putfield 9) 3 17 := ⟨by decide +kernel, rfl⟩
theorem d2_17 : Dc jdk_42_method_149_code 17 (.aload_n 0) 1 18 := ⟨by decide +kernel, rfl⟩
theorem d2_18 : Dc jdk_42_method_149_code 18 (.ldc 7) 2 20 := ⟨by decide +kernel, rfl⟩
theorem d2_20 : Dc jdk_42_method_149_code 20 (.getfield 15) 3 23 := ⟨by decide +kernel, rfl⟩
theorem d2_23 : Dc jdk_42_method_149_code 23 (.putfield 15) 3 26 := ⟨by decide +kernel, rfl⟩
theorem d2_26 : Dc jdk_42_method_149_code 26 (.return_) 1 27 := ⟨by decide +kernel, rfl⟩
theorem d2_27 : Dc jdk_42_method_149_code 27 (.getstatic 38) 3 30 := ⟨by decide +kernel, rfl⟩
theorem d2_30 : Db jdk_42_method_149_code 30 (.ifCond .eq 28) 3 33 (28) 58 := ⟨by decide +kernel, rfl, by decide, by decide⟩
theorem d2_33 : Dc jdk_42_method_149_code 33 (.aload_n 1) 1 34 := ⟨by decide +kernel, rfl⟩
theorem d2_34 : Dc jdk_42_method_149_code 34 (.iload_n 2) 1 35 := ⟨by decide +kernel, rfl⟩
theorem d2_35 : Dc jdk_42_method_149_code 35 (.iload_n 3) 1 36 := ⟨by decide +kernel, rfl⟩
theorem d2_36 : Dc jdk_42_method_149_code 36 (.invokestatic 177) 3 39 := ⟨by decide +kernel, rfl⟩
theorem d2_39 : Dc jdk_42_method_149_code 39 (.astore 5) 2 41 := ⟨by decide +kernel, rfl⟩
theorem d2_41 : Dc jdk_42_method_149_code 41 (.aload_n 0) 1 42 := ⟨by decide +kernel, rfl⟩
theorem d2_42 : Dc jdk_42_method_149_code 42 (.aload 5) 2 44 := ⟨by decide +kernel, rfl⟩
theorem d2_44 : Dc jdk_42_method_149_code 44 (.iload_n 3) 1 45 := ⟨by decide +kernel, rfl⟩
theorem d2_45 : Dc jdk_42_method_149_code 45 (.invokestatic 47) 3 48 := ⟨by decide +kernel, rfl⟩
theorem d2_48 : Dc jdk_42_method_149_code 48 (.putfield 15) 3 51 := ⟨by decide +kernel, rfl⟩
theorem d2_51 : Dc jdk_42_method_149_code 51 (.aload_n 0) 1 52 := ⟨by decide +kernel, rfl⟩
theorem d2_52 : Dc jdk_42_method_149_code 52 (.aload 5) 2 54 := ⟨by decide +kernel, rfl⟩
theorem d2_54 : Dc jdk_42_method_149_code 54 (.putfield 9) 3 57 := ⟨by decide +kernel, rfl⟩
theorem d2_57 : Dc jdk_42_method_149_code 57 (.return_) 1 58 := ⟨by decide +kernel, rfl⟩
theorem d4_0 : Dc prog_12_method_2_code 0 (.aconst_null) 1 1 := ⟨by decide +kernel, rfl⟩
theorem d4_1 : Dc prog_12_method_2_code 1 (.aload_n 0) 1 2 := ⟨by decide +kernel, rfl⟩
theorem d4_2 : Db prog_12_method_2_code 2 (.if_acmp .ne 5) 3 5 (5) 7 := ⟨by decide +kernel, rfl, by decide, by decide⟩
theorem d4_5 : Dc prog_12_method_2_code 5 (.iconst 0) 1 6 := ⟨by decide +kernel, rfl⟩
theorem d4_6 : Dc prog_12_method_2_code 6 (.ireturn) 1 7 := ⟨by decide +kernel, rfl⟩
theorem d4_7 : Dc prog_12_method_2_code 7 (.iconst 0) 1 8 := ⟨by decide +kernel, rfl⟩
theorem d4_8 : Dc prog_12_method_2_code 8 (.istore_n 2) 1 9 := ⟨by decide +kernel, rfl⟩
theorem d4_9 : Dc prog_12_method_2_code 9 (.iload_n 2) 1 10 := ⟨by decide +kernel, rfl⟩
theorem d4_10 : Dc prog_12_method_2_code 10 (.aload_n 1) 1 11 := ⟨by decide +kernel, rfl⟩
theorem d4_11 : Dc prog_12_method_2_code 11 (.invokevirtual 7) 3 14 := ⟨by decide +kernel, rfl⟩
theorem d4_14 : Dc prog_12_method_2_code 14 (.iadd) 1 15 := ⟨by decide +kernel, rfl⟩
theorem d4_15 : Dc prog_12_method_2_code 15 (.aload_n 0) 1 16 := ⟨by decide +kernel, rfl⟩
theorem d4_16 : Dc prog_12_method_2_code 16 (.invokevirtual 7) 3 19 := ⟨by decide +kernel, rfl⟩
theorem d4_19 : Db prog_12_method_2_code 19 (.if_icmp .gt 26) 3 22 (26) 45 := ⟨by decide +kernel, rfl, by decide, by decide⟩
theorem d4_22 : Dc prog_12_method_2_code 22 (.aload_n 0) 1 23 := ⟨by decide +kernel, rfl⟩
theorem d4_23 : Dc prog_12_method_2_code 23 (.iconst 1) 1 24 := ⟨by decide +kernel, rfl⟩
theorem d4_24 : Dc prog_12_method_2_code 24 (.iload_n 2) 1 25 := ⟨by decide +kernel, rfl⟩
theorem d4_25 : Dc prog_12_method_2_code 25 (.aload_n 1) 1 26 := ⟨by decide +kernel, rfl⟩
theorem d4_26 : Dc prog_12_method_2_code 26 (.iconst 0) 1 27 := ⟨by decide +kernel, rfl⟩
theorem d4_27 : Dc prog_12_method_2_code 27 (.aload_n 1) 1 28 := ⟨by decide +kernel, rfl⟩
theorem d4_28 : Dc prog_12_method_2_code 28 (.invokevirtual 7) 3 31 := ⟨by decide +kernel, rfl⟩
theorem d4_31 : Dc prog_12_method_2_code 31 (.invokevirtual 13) 3 34 := ⟨by decide +kernel, rfl⟩
theorem d4_34 : Db prog_12_method_2_code 34 (.ifCond .eq 5) 3 37 (5) 39 := ⟨by decide +kernel, rfl, by decide, by decide⟩
theorem d4_37 : Dc prog_12_method_2_code 37 (.iconst 1) 1 38 := ⟨by decide +kernel, rfl⟩
theorem d4_38 : Dc prog_12_method_2_code 38 (.ireturn) 1 39 := ⟨by decide +kernel, rfl⟩
theorem d4_39 : Dc prog_12_method_2_code 39 (.iinc 2 1) 3 42 := ⟨by decide +kernel, rfl⟩
theorem d4_42 : Db prog_12_method_2_code 42 (.goto (-33)) 3 45 (-33) 9 := ⟨by decide +kernel, rfl, by decide, by decide⟩
theorem d4_45 : Dc prog_12_method_2_code 45 (.iconst 0) 1 46 := ⟨by decide +kernel, rfl⟩
theorem d4_46 : Dc prog_12_method_2_code 46 (.ireturn) 1 47 := ⟨by decide +kernel, rfl⟩
theorem d5_0 : Dc method_3_code 0 (.iload_n 0) 1 1 := ⟨by decide +kernel, rfl⟩
theorem d5_1 : Db method_3_code 1 (.ifCond .ne 14) 3 4 (14) 15 := ⟨by decide +kernel, rfl, by decide, by decide⟩
theorem d5_4 : Dc method_3_code 4 (.new 27) 3 7 := ⟨by decide +kernel, rfl⟩
theorem d5_7 : Dc method_3_code 7 (.dup) 1 8 := ⟨by decide +kernel, rfl⟩
theorem d5_8 : Dc method_3_code 8 (.iconst 0) 1 9 := ⟨by decide +kernel, rfl⟩
theorem d5_9 : Dc method_3_code 9 (.newarray .char) 2 11 := ⟨by decide +kernel, rfl⟩
theorem d5_11 : Dc method_3_code 11 (.invokespecial 29) 3 14 := ⟨by decide +kernel, rfl⟩
theorem d5_14 : Dc method_3_code 14 (.areturn) 1 15 := ⟨by decide +kernel, rfl⟩
theorem d5_15 : Dc method_3_code 15 (.iload_n 0) 1 16 := ⟨by decide +kernel, rfl⟩
theorem d5_16 : Dc method_3_code 16 (.iconst 1) 1 17 := ⟨by decide +kernel, rfl⟩
theorem d5_17 : Db method_3_code 17 (.if_icmp .ne 18) 3 20 (18) 35 := ⟨by decide +kernel, rfl, by decide, by decide⟩
theorem d5_20 : Dc method_3_code 20 (.new 27) 3 23 := ⟨by decide +kernel, rfl⟩
theorem d5_23 : Dc method_3_code 23 (.dup) 1 24 := ⟨by decide +kernel, rfl⟩
theorem d5_24 : Dc method_3_code 24 (.iconst 1) 1 25 := ⟨by decide +kernel, rfl⟩
theorem d5_25 : Dc method_3_code 25 (.newarray .char) 2 27 := ⟨by decide +kernel, rfl⟩
theorem d5_27 : Dc method_3_code 27 (.dup) 1 28 := ⟨by decide +kernel, rfl⟩
theorem d5_28 : Dc method_3_code 28 (.iconst 0) 1 29 := ⟨by decide +kernel, rfl⟩
theorem d5_29 : Dc method_3_code 29 (.iload_n 1) 1 30 := ⟨by decide +kernel, rfl⟩
theorem d5_30 : Dc method_3_code 30 (.castore) 1 31 := ⟨by decide +kernel, rfl⟩
theorem d5_31 : Dc method_3_code 31 (.invokespecial 29) 3 34 := ⟨by decide +kernel, rfl⟩
theorem d5_34 : Dc method_3_code 34 (.areturn) 1 35 := ⟨by decide +kernel, rfl⟩
theorem d5_35 : Dc method_3_code 35 (.iload_n 0) 1 36 := ⟨by decide +kernel, rfl⟩
theorem d5_36 : Dc method_3_code 36 (.iconst 2) 1 37 := ⟨by decide +kernel, rfl⟩
theorem d5_37 : Db method_3_code 37 (.if_icmp .ne 22) 3 40 (22) 59 := ⟨by decide +kernel, rfl, by decide, by decide⟩
theorem d5_40 : Dc method_3_code 40 (.new 27) 3 43 := ⟨by decide +kernel, rfl⟩
theorem d5_43 : Dc method_3_code 43 (.dup) 1 44 := ⟨by decide +kernel, rfl⟩
theorem d5_44 : Dc method_3_code 44 (.iconst 2) 1 45 := ⟨by decide +kernel, rfl⟩
theorem d5_45 : Dc method_3_code 45 (.newarray .char) 2 47 := ⟨by decide +kernel, rfl⟩
theorem d5_47 : Dc method_3_code 47 (.dup) 1 48 := ⟨by decide +kernel, rfl⟩
theorem d5_48 : Dc method_3_code 48 (.iconst 0) 1 49 := ⟨by decide +kernel, rfl⟩
theorem d5_49 : Dc method_3_code 49 (.iload_n 1) 1 50 := ⟨by decide +kernel, rfl⟩
theorem d5_50 : Dc method_3_code 50 (.castore) 1 51 := ⟨by decide +kernel, rfl⟩
theorem d5_51 : Dc method_3_code 51 (.dup) 1 52 := ⟨by decide +kernel, rfl⟩
theorem d5_52 : Dc method_3_code 52 (.iconst 1) 1 53 := ⟨by decide +kernel, rfl⟩
theorem d5_53 : Dc method_3_code 53 (.iload_n 2) 1 54 := ⟨by decide +kernel, rfl⟩
theorem d5_54 : Dc method_3_code 54 (.castore) 1 55 := ⟨by decide +kernel, rfl⟩
theorem d5_55 : Dc method_3_code 55 (.invokespecial 29) 3 58 := ⟨by decide +kernel, rfl⟩
theorem d5_58 : Dc method_3_code 58 (.areturn) 1 59 := ⟨by decide +kernel, rfl⟩
theorem d5_59 : Dc method_3_code 59 (.iload_n 0) 1 60 := ⟨by decide +kernel, rfl⟩
theorem d5_60 : Dc method_3_code 60 (.iconst 3) 1 61 := ⟨by decide +kernel, rfl⟩
theorem d5_61 : Db method_3_code 61 (.if_icmp .ne 26) 3 64 (26) 87 := ⟨by decide +kernel, rfl, by decide, by decide⟩
theorem d5_64 : Dc method_3_code 64 (.new 27) 3 67 := ⟨by decide +kernel, rfl⟩
theorem d5_67 : Dc method_3_code 67 (.dup) 1 68 := ⟨by decide +kernel, rfl⟩
theorem d5_68 : Dc method_3_code 68 (.iconst 3) 1 69 := ⟨by decide +kernel, rfl⟩
theorem d5_69 : Dc method_3_code 69 (.newarray .char) 2 71 := ⟨by decide +kernel, rfl⟩
theorem d5_71 : Dc method_3_code 71 (.dup) 1 72 := ⟨by decide +kernel, rfl⟩
theorem d5_72 : Dc method_3_code 72 (.iconst 0) 1 73 := ⟨by decide +kernel, rfl⟩
theorem d5_73 : Dc method_3_code 73 (.iload_n 1) 1 74 := ⟨by decide +kernel, rfl⟩
theorem d5_74 : Dc method_3_code 74 (.castore) 1 75 := ⟨by decide +kernel, rfl⟩
theorem d5_75 : Dc method_3_code 75 (.dup) 1 76 := ⟨by decide +kernel, rfl⟩
theorem d5_76 : Dc method_3_code 76 (.iconst 1) 1 77 := ⟨by decide +kernel, rfl⟩
theorem d5_77 : Dc method_3_code 77 (.iload_n 2) 1 78 := ⟨by decide +kernel, rfl⟩
theorem d5_78 : Dc method_3_code 78 (.castore) 1 79 := ⟨by decide +kernel, rfl⟩
theorem d5_79 : Dc method_3_code 79 (.dup) 1 80 := ⟨by decide +kernel, rfl⟩
theorem d5_80 : Dc method_3_code 80 (.iconst 2) 1 81 := ⟨by decide +kernel, rfl⟩
theorem d5_81 : Dc method_3_code 81 (.iload_n 3) 1 82 := ⟨by decide +kernel, rfl⟩
theorem d5_82 : Dc method_3_code 82 (.castore) 1 83 := ⟨by decide +kernel, rfl⟩
theorem d5_83 : Dc method_3_code 83 (.invokespecial 29) 3 86 := ⟨by decide +kernel, rfl⟩
theorem d5_86 : Dc method_3_code 86 (.areturn) 1 87 := ⟨by decide +kernel, rfl⟩
theorem d5_87 : Dc method_3_code 87 (.new 27) 3 90 := ⟨by decide +kernel, rfl⟩
theorem d5_90 : Dc method_3_code 90 (.dup) 1 91 := ⟨by decide +kernel, rfl⟩
theorem d5_91 : Dc method_3_code 91 (.iconst 4) 1 92 := ⟨by decide +kernel, rfl⟩
theorem d5_92 : Dc method_3_code 92 (.newarray .char) 2 94 := ⟨by decide +kernel, rfl⟩
theorem d5_94 : Dc method_3_code 94 (.dup) 1 95 := ⟨by decide +kernel, rfl⟩
theorem d5_95 : Dc method_3_code 95 (.iconst 0) 1 96 := ⟨by decide +kernel, rfl⟩
theorem d5_96 : Dc method_3_code 96 (.iload_n 1) 1 97 := ⟨by decide +kernel, rfl⟩
theorem d5_97 : Dc method_3_code 97 (.castore) 1 98 := ⟨by decide +kernel, rfl⟩
theorem d5_98 : Dc method_3_code 98 (.dup) 1 99 := ⟨by decide +kernel, rfl⟩
theorem d5_99 : Dc method_3_code 99 (.iconst 1) 1 100 := ⟨by decide +kernel, rfl⟩
theorem d5_100 : Dc method_3_code 100 (.iload_n 2) 1 101 := ⟨by decide +kernel, rfl⟩
theorem d5_101 : Dc method_3_code 101 (.castore) 1 102 := ⟨by decide +kernel, rfl⟩
theorem d5_102 : Dc method_3_code 102 (.dup) 1 103 := ⟨by decide +kernel, rfl⟩
theorem d5_103 : Dc method_3_code 103 (.iconst 2) 1 104 := ⟨by decide +kernel, rfl⟩
theorem d5_104 : Dc method_3_code 104 (.iload_n 3) 1 105 := ⟨by decide +kernel, rfl⟩
theorem d5_105 : Dc method_3_code 105 (.castore) 1 106 := ⟨by decide +kernel, rfl⟩
theorem d5_106 : Dc method_3_code 106 (.dup) 1 107 := ⟨by decide +kernel, rfl⟩
theorem d5_107 : Dc method_3_code 107 (.iconst 3) 1 108 := ⟨by decide +kernel, rfl⟩
theorem d5_108 : Dc method_3_code 108 (.iload 4) 2 110 := ⟨by decide +kernel, rfl⟩
theorem d5_110 : Dc method_3_code 110 (.castore) 1 111 := ⟨by decide +kernel, rfl⟩
theorem d5_111 : Dc method_3_code 111 (.invokespecial 29) 3 114 := ⟨by decide +kernel, rfl⟩
theorem d5_114 : Dc method_3_code 114 (.areturn) 1 115 := ⟨by decide +kernel, rfl⟩
theorem d6_0 : Dc jdk_52_method_16_code 0 (.iload_n 2) 1 1 := ⟨by decide +kernel, rfl⟩
theorem d6_1 : Dc jdk_52_method_16_code 1 (.newarray .byte) 2 3 := ⟨by decide +kernel, rfl⟩
theorem d6_3 : Dc jdk_52_method_16_code 3 (.astore_n 3) 1 4 := ⟨by decide +kernel, rfl⟩
theorem d6_4 : Dc jdk_52_method_16_code 4 (.aload_n 0) 1 5 := ⟨by decide +kernel, rfl⟩
theorem d6_5 : Dc jdk_52_method_16_code 5 (.iload_n 1) 1 6 := ⟨by decide +kernel, rfl⟩
theorem d6_6 : Dc jdk_52_method_16_code 6 (.aload_n 3) 1 7 := ⟨by decide +kernel, rfl⟩
theorem d6_7 : Dc jdk_52_method_16_code 7 (.iconst 0) 1 8 := ⟨by decide +kernel, rfl⟩
theorem d6_8 : Dc jdk_52_method_16_code 8 (.iload_n 2) 1 9 := ⟨by decide +kernel, rfl⟩
theorem d6_9 : Dc jdk_52_method_16_code 9 (.invokestatic 115) 3 12 := ⟨by decide +kernel, rfl⟩
theorem d6_12 : Dc jdk_52_method_16_code 12 (.istore 4) 2 14 := ⟨by decide +kernel, rfl⟩
theorem d6_14 : Dc jdk_52_method_16_code 14 (.iload 4) 2 16 := ⟨by decide +kernel, rfl⟩
theorem d6_16 : Dc jdk_52_method_16_code 16 (.iload_n 2) 1 17 := ⟨by decide +kernel, rfl⟩
theorem d6_17 : Db jdk_52_method_16_code 17 (.if_icmp .eq 40) 3 20 (40) 57 := ⟨by decide +kernel, rfl, by decide, by decide⟩
theorem d6_57 : Dc jdk_52_method_16_code 57 (.aload_n 3) 1 58 := ⟨by decide +kernel, rfl⟩
theorem d6_58 : Dc jdk_52_method_16_code 58 (.areturn) 1 59 := ⟨by decide +kernel, rfl⟩
theorem d7_0 : Dc jdk_52_method_21_code 0 (.iconst 0) 1 1 := ⟨by decide +kernel, rfl⟩
theorem d7_1 : Dc jdk_52_method_21_code 1 (.istore 5) 2 3 := ⟨by decide +kernel, rfl⟩
theorem d7_3 : Dc jdk_52_method_21_code 3 (.iload 5) 2 5 := ⟨by decide +kernel, rfl⟩
theorem d7_5 : Dc jdk_52_method_21_code 5 (.iload 4) 2 7 := ⟨by decide +kernel, rfl⟩
theorem d7_7 : Db jdk_52_method_21_code 7 (.if_icmp .ge 37) 3 10 (37) 44 := ⟨by decide +kernel, rfl, by decide, by decide⟩
theorem d7_10 : Dc jdk_52_method_21_code 10 (.aload_n 0) 1 11 := ⟨by decide +kernel, rfl⟩
theorem d7_11 : Dc jdk_52_method_21_code 11 (.iload_n 1) 1 12 := ⟨by decide +kernel, rfl⟩
theorem d7_12 : Dc jdk_52_method_21_code 12 (.caload) 1 13 := ⟨by decide +kernel, rfl⟩
theorem d7_13 : Dc jdk_52_method_21_code 13 (.istore 6) 2 15 := ⟨by decide +kernel, rfl⟩
theorem d7_15 : Dc jdk_52_method_21_code 15 (.iload 6) 2 17 := ⟨by decide +kernel, rfl⟩
theorem d7_17 : Dc jdk_52_method_21_code 17 (.sipush 255) 3 20 := ⟨by decide +kernel, rfl⟩
theorem d7_20 : Db jdk_52_method_21_code 20 (.if_icmp .le 6) 3 23 (6) 26 := ⟨by decide +kernel, rfl, by decide, by decide⟩
theorem d7_23 : Dc jdk_52_method_21_code 23 (.iload 5) 2 25 := ⟨by decide +kernel, rfl⟩
theorem d7_25 : Dc jdk_52_method_21_code 25 (.ireturn) 1 26 := ⟨by decide +kernel, rfl⟩
theorem d7_26 : Dc jdk_52_method_21_code 26 (.aload_n 2) 1 27 := ⟨by decide +kernel, rfl⟩
theorem d7_27 : Dc jdk_52_method_21_code 27 (.iload_n 3) 1 28 := ⟨by decide +kernel, rfl⟩
theorem d7_28 : Dc jdk_52_method_21_code 28 (.iload 6) 2 30 := ⟨by decide +kernel, rfl⟩
theorem d7_30 : Dc jdk_52_method_21_code 30 (.i2b) 1 31 := ⟨by decide +kernel, rfl⟩
theorem d7_31 : Dc jdk_52_method_21_code 31 (.bastore) 1 32 := ⟨by decide +kernel, rfl⟩
theorem d7_32 : Dc jdk_52_method_21_code 32 (.iinc 1 1) 3 35 := ⟨by decide +kernel, rfl⟩
theorem d7_35 : Dc jdk_52_method_21_code 35 (.iinc 3 1) 3 38 := ⟨by decide +kernel, rfl⟩
theorem d7_38 : Dc jdk_52_method_21_code 38 (.iinc 5 1) 3 41 := ⟨by decide +kernel, rfl⟩
theorem d7_41 : Db jdk_52_method_21_code 41 (.goto (-38)) 3 44 (-38) 3 := ⟨by decide +kernel, rfl, by decide, by decide⟩
theorem d7_44 : Dc jdk_52_method_21_code 44 (.iload 4) 2 46 := ⟨by decide +kernel, rfl⟩
theorem d7_46 : Dc jdk_52_method_21_code 46 (.ireturn) 1 47 := ⟨by decide +kernel, rfl⟩
theorem d8_0 : Dc jdk_52_method_15_code 0 (.iload_n 1) 1 1 := ⟨by decide +kernel, rfl⟩
theorem d8_1 : Dc jdk_52_method_15_code 1 (.aload_n 0) 1 2 := ⟨by decide +kernel, rfl⟩
theorem d8_2 : Dc jdk_52_method_15_code 2 (.arraylength) 1 3 := ⟨by decide +kernel, rfl⟩
theorem d8_3 : Dc jdk_52_method_15_code 3 (.isub) 1 4 := ⟨by decide +kernel, rfl⟩
theorem d8_4 : Dc jdk_52_method_15_code 4 (.bipush 31) 2 6 := ⟨by decide +kernel, rfl⟩
theorem d8_6 : Dc jdk_52_method_15_code 6 (.iushr) 1 7 := ⟨by decide +kernel, rfl⟩
theorem d8_7 : Dc jdk_52_method_15_code 7 (.i2b) 1 8 := ⟨by decide +kernel, rfl⟩
theorem d8_8 : Dc jdk_52_method_15_code 8 (.ireturn) 1 9 := ⟨by decide +kernel, rfl⟩
theorem d9_0 : Dc method_7_code 0 (.iload 4) 2 2 := ⟨by decide +kernel, rfl⟩
theorem d9_2 : Dc method_7_code 2 (.iload_n 3) 1 3 := ⟨by decide +kernel, rfl⟩
theorem d9_3 : Dc method_7_code 3 (.iadd) 1 4 := ⟨by decide +kernel, rfl⟩
theorem d9_4 : Dc method_7_code 4 (.iload_n 1) 1 5 := ⟨by decide +kernel, rfl⟩
theorem d9_5 : Db method_7_code 5 (.if_icmp .le 5) 3 8 (5) 10 := ⟨by decide +kernel, rfl, by decide, by decide⟩
theorem d9_8 : Dc method_7_code 8 (.iconst 0) 1 9 := ⟨by decide +kernel, rfl⟩
theorem d9_9 : Dc method_7_code 9 (.ireturn) 1 10 := ⟨by decide +kernel, rfl⟩
theorem d9_10 : Dc method_7_code 10 (.iload_n 3) 1 11 := ⟨by decide +kernel, rfl⟩
theorem d9_11 : Dc method_7_code 11 (.iconst 1) 1 12 := ⟨by decide +kernel, rfl⟩
theorem d9_12 : Db method_7_code 12 (.if_icmp .lt 18) 3 15 (18) 30 := ⟨by decide +kernel, rfl, by decide, by decide⟩
theorem d9_15 : Dc method_7_code 15 (.aload_n 0) 1 16 := ⟨by decide +kernel, rfl⟩
theorem d9_16 : Dc method_7_code 16 (.iload 4) 2 18 := ⟨by decide +kernel, rfl⟩
theorem d9_18 : Dc method_7_code 18 (.caload) 1 19 := ⟨by decide +kernel, rfl⟩
theorem d9_19 : Dc method_7_code 19 (.aload_n 2) 1 20 := ⟨by decide +kernel, rfl⟩
theorem d9_20 : Dc method_7_code 20 (.iconst 0) 1 21 := ⟨by decide +kernel, rfl⟩
theorem d9_21 : Dc method_7_code 21 (.caload) 1 22 := ⟨by decide +kernel, rfl⟩
theorem d9_22 : Dc method_7_code 22 (.invokestatic 36) 3 25 := ⟨by decide +kernel, rfl⟩
theorem d9_25 : Db method_7_code 25 (.ifCond .ne 5) 3 28 (5) 30 := ⟨by decide +kernel, rfl, by decide, by decide⟩
theorem d9_28 : Dc method_7_code 28 (.iconst 0) 1 29 := ⟨by decide +kernel, rfl⟩
theorem d9_29 : Dc method_7_code 29 (.ireturn) 1 30 := ⟨by decide +kernel, rfl⟩
theorem d9_30 : Dc method_7_code 30 (.iload_n 3) 1 31 := ⟨by decide +kernel, rfl⟩
theorem d9_31 : Dc method_7_code 31 (.iconst 2) 1 32 := ⟨by decide +kernel, rfl⟩
theorem d9_32 : Db method_7_code 32 (.if_icmp .lt 20) 3 35 (20) 52 := ⟨by decide +kernel, rfl, by decide, by decide⟩
theorem d9_35 : Dc method_7_code 35 (.aload_n 0) 1 36 := ⟨by decide +kernel, rfl⟩
theorem d9_36 : Dc method_7_code 36 (.iload 4) 2 38 := ⟨by decide +kernel, rfl⟩
theorem d9_38 : Dc method_7_code 38 (.iconst 1) 1 39 := ⟨by decide +kernel, rfl⟩
theorem d9_39 : Dc method_7_code 39 (.iadd) 1 40 := ⟨by decide +kernel, rfl⟩
theorem d9_40 : Dc method_7_code 40 (.caload) 1 41 := ⟨by decide +kernel, rfl⟩
theorem d9_41 : Dc method_7_code 41 (.aload_n 2) 1 42 := ⟨by decide +kernel, rfl⟩
theorem d9_42 : Dc method_7_code 42 (.iconst 1) 1 43 := ⟨by decide +kernel, rfl⟩
theorem d9_43 : Dc method_7_code 43 (.caload) 1 44 := ⟨by decide +kernel, rfl⟩
theorem d9_44 : Dc method_7_code 44 (.invokestatic 36) 3 47 := ⟨by decide +kernel, rfl⟩
theorem d9_47 : Db method_7_code 47 (.ifCond .ne 5) 3 50 (5) 52 := ⟨by decide +kernel, rfl, by decide, by decide⟩
theorem d9_50 : Dc method_7_code 50 (.iconst 0) 1 51 := ⟨by decide +kernel, rfl⟩
theorem d9_51 : Dc method_7_code 51 (.ireturn) 1 52 := ⟨by decide +kernel, rfl⟩
theorem d9_52 : Dc method_7_code 52 (.iload_n 3) 1 53 := ⟨by decide +kernel, rfl⟩
theorem d9_53 : Dc method_7_code 53 (.iconst 3) 1 54 := ⟨by decide +kernel, rfl⟩
theorem d9_54 : Db method_7_code 54 (.if_icmp .lt 20) 3 57 (20) 74 := ⟨by decide +kernel, rfl, by decide, by decide⟩
theorem d9_57 : Dc method_7_code 57 (.aload_n 0) 1 58 := ⟨by decide +kernel, rfl⟩
theorem d9_58 : Dc method_7_code 58 (.iload 4) 2 60 := ⟨by decide +kernel, rfl⟩
theorem d9_60 : Dc method_7_code 60 (.iconst 2) 1 61 := ⟨by decide +kernel, rfl⟩
theorem d9_61 : Dc method_7_code 61 (.iadd) 1 62 := ⟨by decide +kernel, rfl⟩
theorem d9_62 : Dc method_7_code 62 (.caload) 1 63 := ⟨by decide +kernel, rfl⟩
theorem d9_63 : Dc method_7_code 63 (.aload_n 2) 1 64 := ⟨by decide +kernel, rfl⟩
theorem d9_64 : Dc method_7_code 64 (.iconst 2) 1 65 := ⟨by decide +kernel, rfl⟩
theorem d9_65 : Dc method_7_code 65 (.caload) 1 66 := ⟨by decide +kernel, rfl⟩
theorem d9_66 : Dc method_7_code 66 (.invokestatic 36) 3 69 := ⟨by decide +kernel, rfl⟩
theorem d9_69 : Db method_7_code 69 (.ifCond .ne 5) 3 72 (5) 74 := ⟨by decide +kernel, rfl, by decide, by decide⟩
theorem d9_72 : Dc method_7_code 72 (.iconst 0) 1 73 := ⟨by decide +kernel, rfl⟩
theorem d9_73 : Dc method_7_code 73 (.ireturn) 1 74 := ⟨by decide +kernel, rfl⟩
theorem d9_74 : Dc method_7_code 74 (.iconst 1) 1 75 := ⟨by decide +kernel, rfl⟩
theorem d9_75 : Dc method_7_code 75 (.ireturn) 1 76 := ⟨by decide +kernel, rfl⟩
theorem d10_0 : Dc jdk_42_method_54_code 0 (.aload_n 0) 1 1 := ⟨by decide +kernel, rfl⟩
theorem d10_1 : Dc jdk_42_method_54_code 1 (.getfield 9) 3 4 := ⟨by decide +kernel, rfl⟩
theorem d10_4 : Dc jdk_42_method_54_code 4 (.arraylength) 1 5 := ⟨by decide +kernel, rfl⟩
theorem d10_5 : Dc jdk_42_method_54_code 5 (.aload_n 0) 1 6 := ⟨by decide +kernel, rfl⟩
theorem d10_6 : Dc jdk_42_method_54_code 6 (.invokevirtual 335) 3 9 := ⟨by decide +kernel, rfl⟩
theorem d10_9 : Dc jdk_42_method_54_code 9 (.ishr) 1 10 := ⟨by decide +kernel, rfl⟩
theorem d10_10 : Dc jdk_42_method_54_code 10 (.ireturn) 1 11 := ⟨by decide +kernel, rfl⟩
theorem d11_0 : Dc jdk_42_method_152_code 0 (.getstatic 38) 3 3 := ⟨by decide +kernel, rfl⟩
theorem d11_3 : Db jdk_42_method_152_code 3 (.ifCond .eq 10) 3 6 (10) 13 := ⟨by decide +kernel, rfl, by decide, by decide⟩
theorem d11_6 : Dc jdk_42_method_152_code 6 (.aload_n 0) 1 7 := ⟨by decide +kernel, rfl⟩
theorem d11_7 : Dc jdk_42_method_152_code 7 (.getfield 15) 3 10 := ⟨by decide +kernel, rfl⟩
theorem d11_10 : Db jdk_42_method_152_code 10 (.goto 4) 3 13 (4) 14 := ⟨by decide +kernel, rfl, by decide, by decide⟩
theorem d11_14 : Dc jdk_42_method_152_code 14 (.ireturn) 1 15 := ⟨by decide +kernel, rfl⟩
theorem d12_0 : Dc jdk_42_method_74_code 0 (.iload_n 1) 1 1 := ⟨by decide +kernel, rfl⟩
theorem d12_1 : Db jdk_42_method_74_code 1 (.ifCond .ne 14) 3 4 (14) 15 := ⟨by decide +kernel, rfl, by decide, by decide⟩
theorem d12_15 : Dc jdk_42_method_74_code 15 (.iload 4) 2 17 := ⟨by decide +kernel, rfl⟩
theorem d12_17 : Db jdk_42_method_74_code 17 (.ifCond .lt 38) 3 20 (38) 55 := ⟨by decide +kernel, rfl, by decide, by decide⟩
theorem d12_20 : Dc jdk_42_method_74_code 20 (.iload_n 2) 1 21 := ⟨by decide +kernel, rfl⟩
theorem d12_21 : Db jdk_42_method_74_code 21 (.ifCond .lt 34) 3 24 (34) 55 := ⟨by decide +kernel, rfl, by decide, by decide⟩
theorem d12_24 : Dc jdk_42_method_74_code 24 (.iload_n 2) 1 25 := ⟨by decide +kernel, rfl⟩
theorem d12_25 : Dc jdk_42_method_74_code 25 (.i2l) 1 26 := ⟨by decide +kernel, rfl⟩
theorem d12_26 : Dc jdk_42_method_74_code 26 (.aload_n 0) 1 27 := ⟨by decide +kernel, rfl⟩
theorem d12_27 : Dc jdk_42_method_74_code 27 (.invokevirtual 505) 3 30 := ⟨by decide +kernel, rfl⟩
theorem d12_30 : Dc jdk_42_method_74_code 30 (.i2l) 1 31 := ⟨by decide +kernel, rfl⟩
theorem d12_31 : Dc jdk_42_method_74_code 31 (.iload 5) 2 33 := ⟨by decide +kernel, rfl⟩
theorem d12_33 : Dc jdk_42_method_74_code 33 (.i2l) 1 34 := ⟨by decide +kernel, rfl⟩
theorem d12_34 : Dc jdk_42_method_74_code 34 (.lsub) 1 35 := ⟨by decide +kernel, rfl⟩
theorem d12_35 : Dc jdk_42_method_74_code 35 (.lcmp) 1 36 := ⟨by decide +kernel, rfl⟩
theorem d12_36 : Db jdk_42_method_74_code 36 (.ifCond .gt 19) 3 39 (19) 55 := ⟨by decide +kernel, rfl, by decide, by decide⟩
theorem d12_39 : Dc jdk_42_method_74_code 39 (.iload 4) 2 41 := ⟨by decide +kernel, rfl⟩
theorem d12_41 : Dc jdk_42_method_74_code 41 (.i2l) 1 42 := ⟨by decide +kernel, rfl⟩
theorem d12_42 : Dc jdk_42_method_74_code 42 (.aload_n 3) 1 43 := ⟨by decide +kernel, rfl⟩
theorem d12_43 : Dc jdk_42_method_74_code 43 (.invokevirtual 505) 3 46 := ⟨by decide +kernel, rfl⟩
theorem d12_46 : Dc jdk_42_method_74_code 46 (.i2l) 1 47 := ⟨by decide +kernel, rfl⟩
theorem d12_47 : Dc jdk_42_method_74_code 47 (.iload 5) 2 49 := ⟨by decide +kernel, rfl⟩
theorem d12_49 : Dc jdk_42_method_74_code 49 (.i2l) 1 50 := ⟨by decide +kernel, rfl⟩
theorem d12_50 : Dc jdk_42_method_74_code 50 (.lsub) 1 51 := ⟨by decide +kernel, rfl⟩
theorem d12_51 : Dc jdk_42_method_74_code 51 (.lcmp) 1 52 := ⟨by decide +kernel, rfl⟩
theorem d12_52 : Db jdk_42_method_74_code 52 (.ifCond .le 5) 3 55 (5) 57 := ⟨by decide +kernel, rfl, by decide, by decide⟩
theorem d12_55 : Dc jdk_42_method_74_code 55 (.iconst 0) 1 56 := ⟨by decide +kernel, rfl⟩
theorem d12_56 : Dc jdk_42_method_74_code 56 (.ireturn) 1 57 := ⟨by decide +kernel, rfl⟩
theorem d12_57 : Dc jdk_42_method_74_code 57 (.aload_n 0) 1 58 := ⟨by decide +kernel, rfl⟩
theorem d12_58 : Dc jdk_42_method_74_code 58 (.getfield 9) 3 61 := ⟨by decide +kernel, rfl⟩
theorem d12_61 : Dc jdk_42_method_74_code 61 (.astore 6) 2 63 := ⟨by decide +kernel, rfl⟩
theorem d12_63 : Dc jdk_42_method_74_code 63 (.aload_n 3) 1 64 := ⟨by decide +kernel, rfl⟩
theorem d12_64 : Dc jdk_42_method_74_code 64 (.getfield 9) 3 67 := ⟨by decide +kernel, rfl⟩
theorem d12_67 : Dc jdk_42_method_74_code 67 (.astore 7) 2 69 := ⟨by decide +kernel, rfl⟩
theorem d12_69 : Dc jdk_42_method_74_code 69 (.aload_n 0) 1 70 := ⟨by decide +kernel, rfl⟩
theorem d12_70 : Dc jdk_42_method_74_code 70 (.invokevirtual 335) 3 73 := ⟨by decide +kernel, rfl⟩
theorem d12_73 : Dc jdk_42_method_74_code 73 (.istore 8) 2 75 := ⟨by decide +kernel, rfl⟩
theorem d12_75 : Dc jdk_42_method_74_code 75 (.iload 8) 2 77 := ⟨by decide +kernel, rfl⟩
theorem d12_77 : Dc jdk_42_method_74_code 77 (.aload_n 3) 1 78 := ⟨by decide +kernel, rfl⟩
theorem d12_78 : Dc jdk_42_method_74_code 78 (.invokevirtual 335) 3 81 := ⟨by decide +kernel, rfl⟩
theorem d12_81 : Db jdk_42_method_74_code 81 (.if_icmp .ne 36) 3 84 (36) 117 := ⟨by decide +kernel, rfl, by decide, by decide⟩
theorem d12_84 : Dc jdk_42_method_74_code 84 (.iload 8) 2 86 := ⟨by decide +kernel, rfl⟩
theorem d12_86 : Db jdk_42_method_74_code 86 (.ifCond .ne 18) 3 89 (18) 104 := ⟨by decide +kernel, rfl, by decide, by decide⟩
theorem d12_89 : Dc jdk_42_method_74_code 89 (.aload 6) 2 91 := ⟨by decide +kernel, rfl⟩
theorem d12_91 : Dc jdk_42_method_74_code 91 (.iload_n 2) 1 92 := ⟨by decide +kernel, rfl⟩
theorem d12_92 : Dc jdk_42_method_74_code 92 (.aload 7) 2 94 := ⟨by decide +kernel, rfl⟩
theorem d12_94 : Dc jdk_42_method_74_code 94 (.iload 4) 2 96 := ⟨by decide +kernel, rfl⟩
theorem d12_96 : Dc jdk_42_method_74_code 96 (.iload 5) 2 98 := ⟨by decide +kernel, rfl⟩
theorem d12_98 : Dc jdk_42_method_74_code 98 (.invokestatic 613) 3 101 := ⟨by decide +kernel, rfl⟩
theorem d12_101 : Db jdk_42_method_74_code 101 (.goto 15) 3 104 (15) 116 := ⟨by decide +kernel, rfl, by decide, by decide⟩
theorem d12_116 : Dc jdk_42_method_74_code 116 (.ireturn) 1 117 := ⟨by decide +kernel, rfl⟩
theorem d13_0 : Dc jdk_43_method_30_code 0 (.iload_n 1) 1 1 := ⟨by decide +kernel, rfl⟩
theorem d13_1 : Dc jdk_43_method_30_code 1 (.iload 4) 2 3 := ⟨by decide +kernel, rfl⟩
theorem d13_3 : Dc jdk_43_method_30_code 3 (.iadd) 1 4 := ⟨by decide +kernel, rfl⟩
theorem d13_4 : Dc jdk_43_method_30_code 4 (.istore 5) 2 6 := ⟨by decide +kernel, rfl⟩
theorem d13_6 : Dc jdk_43_method_30_code 6 (.iload_n 1) 1 7 := ⟨by decide +kernel, rfl⟩
theorem d13_7 : Dc jdk_43_method_30_code 7 (.iload 5) 2 9 := ⟨by decide +kernel, rfl⟩
theorem d13_9 : Db jdk_43_method_30_code 9 (.if_icmp .ge 34) 3 12 (34) 43 := ⟨by decide +kernel, rfl, by decide, by decide⟩
theorem d13_12 : Dc jdk_43_method_30_code 12 (.aload_n 0) 1 13 := ⟨by decide +kernel, rfl⟩
theorem d13_13 : Dc jdk_43_method_30_code 13 (.iload_n 1) 1 14 := ⟨by decide +kernel, rfl⟩
theorem d13_14 : Dc jdk_43_method_30_code 14 (.iinc 1 1) 3 17 := ⟨by decide +kernel, rfl⟩
theorem d13_17 : Dc jdk_43_method_30_code 17 (.baload) 1 18 := ⟨by decide +kernel, rfl⟩
theorem d13_18 : Dc jdk_43_method_30_code 18 (.istore 6) 2 20 := ⟨by decide +kernel, rfl⟩
theorem d13_20 : Dc jdk_43_method_30_code 20 (.aload_n 2) 1 21 := ⟨by decide +kernel, rfl⟩
theorem d13_21 : Dc jdk_43_method_30_code 21 (.iload_n 3) 1 22 := ⟨by decide +kernel, rfl⟩
theorem d13_22 : Dc jdk_43_method_30_code 22 (.iinc 3 1) 3 25 := ⟨by decide +kernel, rfl⟩
theorem d13_25 : Dc jdk_43_method_30_code 25 (.baload) 1 26 := ⟨by decide +kernel, rfl⟩
theorem d13_26 : Dc jdk_43_method_30_code 26 (.istore 7) 2 28 := ⟨by decide +kernel, rfl⟩
theorem d13_28 : Dc jdk_43_method_30_code 28 (.iload 6) 2 30 := ⟨by decide +kernel, rfl⟩
theorem d13_30 : Dc jdk_43_method_30_code 30 (.iload 7) 2 32 := ⟨by decide +kernel, rfl⟩
theorem d13_32 : Dc jdk_43_method_30_code 32 (.invokestatic 153) 3 35 := ⟨by decide +kernel, rfl⟩
theorem d13_35 : Db jdk_43_method_30_code 35 (.ifCond .eq 6) 3 38 (6) 41 := ⟨by decide +kernel, rfl, by decide, by decide⟩
theorem d13_38 : Db jdk_43_method_30_code 38 (.goto (-32)) 3 41 (-32) 6 := ⟨by decide +kernel, rfl, by decide, by decide⟩
theorem d13_41 : Dc jdk_43_method_30_code 41 (.iconst 0) 1 42 := ⟨by decide +kernel, rfl⟩
theorem d13_42 : Dc jdk_43_method_30_code 42 (.ireturn) 1 43 := ⟨by decide +kernel, rfl⟩
theorem d13_43 : Dc jdk_43_method_30_code 43 (.iconst 1) 1 44 := ⟨by decide +kernel, rfl⟩
theorem d13_44 : Dc jdk_43_method_30_code 44 (.ireturn) 1 45 := ⟨by decide +kernel, rfl⟩
theorem d14_0 : Dc method_6_code 0 (.iload_n 0) 1 1 := ⟨by decide +kernel, rfl⟩
theorem d14_1 : Dc method_6_code 1 (.iload_n 1) 1 2 := ⟨by decide +kernel, rfl⟩
theorem d14_2 : Db method_6_code 2 (.if_icmp .eq 14) 3 5 (14) 16 := ⟨by decide +kernel, rfl, by decide, by decide⟩
theorem d14_5 : Dc method_6_code 5 (.iload_n 0) 1 6 := ⟨by decide +kernel, rfl⟩
theorem d14_6 : Dc method_6_code 6 (.invokestatic 32) 3 9 := ⟨by decide +kernel, rfl⟩
theorem d14_9 : Dc method_6_code 9 (.iload_n 1) 1 10 := ⟨by decide +kernel, rfl⟩
theorem d14_10 : Dc method_6_code 10 (.invokestatic 32) 3 13 := ⟨by decide +kernel, rfl⟩
theorem d14_13 : Db method_6_code 13 (.if_icmp .ne 7) 3 16 (7) 20 := ⟨by decide +kernel, rfl, by decide, by decide⟩
theorem d14_16 : Dc method_6_code 16 (.iconst 1) 1 17 := ⟨by decide +kernel, rfl⟩
theorem d14_17 : Db method_6_code 17 (.goto 4) 3 20 (4) 21 := ⟨by decide +kernel, rfl, by decide, by decide⟩
theorem d14_20 : Dc method_6_code 20 (.iconst 0) 1 21 := ⟨by decide +kernel, rfl⟩
theorem d14_21 : Dc method_6_code 21 (.ireturn) 1 22 := ⟨by decide +kernel, rfl⟩
theorem d15_0 : Dc method_5_code 0 (.iload_n 0) 1 1 := ⟨by decide +kernel, rfl⟩
theorem d15_1 : Dc method_5_code 1 (.bipush 65) 2 3 := ⟨by decide +kernel, rfl⟩
theorem d15_3 : Db method_5_code 3 (.if_icmp .lt 14) 3 6 (14) 17 := ⟨by decide +kernel, rfl, by decide, by decide⟩
theorem d15_6 : Dc method_5_code 6 (.iload_n 0) 1 7 := ⟨by decide +kernel, rfl⟩
theorem d15_7 : Dc method_5_code 7 (.bipush 90) 2 9 := ⟨by decide +kernel, rfl⟩
theorem d15_9 : Db method_5_code 9 (.if_icmp .gt 8) 3 12 (8) 17 := ⟨by decide +kernel, rfl, by decide, by decide⟩
theorem d15_12 : Dc method_5_code 12 (.iload_n 0) 1 13 := ⟨by decide +kernel, rfl⟩
theorem d15_13 : Dc method_5_code 13 (.bipush 32) 2 15 := ⟨by decide +kernel, rfl⟩
theorem d15_15 : Dc method_5_code 15 (.iadd) 1 16 := ⟨by decide +kernel, rfl⟩
theorem d15_16 : Dc method_5_code 16 (.ireturn) 1 17 := ⟨by decide +kernel, rfl⟩
theorem d15_17 : Dc method_5_code 17 (.iload_n 0) 1 18 := ⟨by decide +kernel, rfl⟩
theorem d15_18 : Dc method_5_code 18 (.sipush 192) 3 21 := ⟨by decide +kernel, rfl⟩
theorem d15_21 : Db method_5_code 21 (.if_icmp .lt 22) 3 24 (22) 43 := ⟨by decide +kernel, rfl, by decide, by decide⟩
theorem d15_24 : Dc method_5_code 24 (.iload_n 0) 1 25 := ⟨by decide +kernel, rfl⟩
theorem d15_25 : Dc method_5_code 25 (.sipush 222) 3 28 := ⟨by decide +kernel, rfl⟩
theorem d15_28 : Db method_5_code 28 (.if_icmp .gt 15) 3 31 (15) 43 := ⟨by decide +kernel, rfl, by decide, by decide⟩
theorem d15_31 : Dc method_5_code 31 (.iload_n 0) 1 32 := ⟨by decide +kernel, rfl⟩
theorem d15_32 : Dc method_5_code 32 (.sipush 215) 3 35 := ⟨by decide +kernel, rfl⟩
theorem d15_35 : Db method_5_code 35 (.if_icmp .eq 8) 3 38 (8) 43 := ⟨by decide +kernel, rfl, by decide, by decide⟩
theorem d15_38 : Dc method_5_code 38 (.iload_n 0) 1 39 := ⟨by decide +kernel, rfl⟩
theorem d15_39 : Dc method_5_code 39 (.bipush 32) 2 41 := ⟨by decide +kernel, rfl⟩
theorem d15_41 : Dc method_5_code 41 (.iadd) 1 42 := ⟨by decide +kernel, rfl⟩
theorem d15_42 : Dc method_5_code 42 (.ireturn) 1 43 := ⟨by decide +kernel, rfl⟩
theorem d15_43 : Dc method_5_code 43 (.iload_n 0) 1 44 := ⟨by decide +kernel, rfl⟩
theorem d15_44 : Dc method_5_code 44 (.ireturn) 1 45 := ⟨by decide +kernel, rfl⟩
theorem d16_0 : Dc jdk_116_method_22_code 0 (.iload_n 0) 1 1 := ⟨by decide +kernel, rfl⟩
theorem d16_1 : Dc jdk_116_method_22_code 1 (.iload_n 1) 1 2 := ⟨by decide +kernel, rfl⟩
theorem d16_2 : Db jdk_116_method_22_code 2 (.if_icmp .ne 5) 3 5 (5) 7 := ⟨by decide +kernel, rfl, by decide, by decide⟩
theorem d16_5 : Dc jdk_116_method_22_code 5 (.iconst 1) 1 6 := ⟨by decide +kernel, rfl⟩
theorem d16_6 : Dc jdk_116_method_22_code 6 (.ireturn) 1 7 := ⟨by decide +kernel, rfl⟩
theorem d16_7 : Dc jdk_116_method_22_code 7 (.iload_n 0) 1 8 := ⟨by decide +kernel, rfl⟩
theorem d16_8 : Dc jdk_116_method_22_code 8 (.sipush 223) 3 11 := ⟨by decide +kernel, rfl⟩
theorem d16_11 : Dc jdk_116_method_22_code 11 (.iand) 1 12 := ⟨by decide +kernel, rfl⟩
theorem d16_12 : Dc jdk_116_method_22_code 12 (.istore_n 2) 1 13 := ⟨by decide +kernel, rfl⟩
theorem d16_13 : Dc jdk_116_method_22_code 13 (.iload_n 2) 1 14 := ⟨by decide +kernel, rfl⟩
theorem d16_14 : Dc jdk_116_method_22_code 14 (.bipush 65) 2 16 := ⟨by decide +kernel, rfl⟩
theorem d16_16 : Db jdk_116_method_22_code 16 (.if_icmp .ge 5) 3 19 (5) 21 := ⟨by decide +kernel, rfl, by decide, by decide⟩
theorem d16_19 : Dc jdk_116_method_22_code 19 (.iconst 0) 1 20 := ⟨by decide +kernel, rfl⟩
theorem d16_20 : Dc jdk_116_method_22_code 20 (.ireturn) 1 21 := ⟨by decide +kernel, rfl⟩
theorem d16_21 : Dc jdk_116_method_22_code 21 (.iload_n 2) 1 22 := ⟨by decide +kernel, rfl⟩
theorem d16_22 : Dc jdk_116_method_22_code 22 (.bipush 90) 2 24 := ⟨by decide +kernel, rfl⟩
theorem d16_24 : Db jdk_116_method_22_code 24 (.if_icmp .le 24) 3 27 (24) 48 := ⟨by decide +kernel, rfl, by decide, by decide⟩
theorem d16_27 : Dc jdk_116_method_22_code 27 (.iload_n 2) 1 28 := ⟨by decide +kernel, rfl⟩
theorem d16_28 : Dc jdk_116_method_22_code 28 (.sipush 192) 3 31 := ⟨by decide +kernel, rfl⟩
theorem d16_31 : Db jdk_116_method_22_code 31 (.if_icmp .lt 30) 3 34 (30) 61 := ⟨by decide +kernel, rfl, by decide, by decide⟩
theorem d16_34 : Dc jdk_116_method_22_code 34 (.iload_n 2) 1 35 := ⟨by decide +kernel, rfl⟩
theorem d16_35 : Dc jdk_116_method_22_code 35 (.sipush 222) 3 38 := ⟨by decide +kernel, rfl⟩
theorem d16_38 : Db jdk_116_method_22_code 38 (.if_icmp .gt 23) 3 41 (23) 61 := ⟨by decide +kernel, rfl, by decide, by decide⟩
theorem d16_41 : Dc jdk_116_method_22_code 41 (.iload_n 2) 1 42 := ⟨by decide +kernel, rfl⟩
theorem d16_42 : Dc jdk_116_method_22_code 42 (.sipush 215) 3 45 := ⟨by decide +kernel, rfl⟩
theorem d16_45 : Db jdk_116_method_22_code 45 (.if_icmp .eq 16) 3 48 (16) 61 := ⟨by decide +kernel, rfl, by decide, by decide⟩
theorem d16_48 : Dc jdk_116_method_22_code 48 (.iload_n 2) 1 49 := ⟨by decide +kernel, rfl⟩
theorem d16_49 : Dc jdk_116_method_22_code 49 (.iload_n 1) 1 50 := ⟨by decide +kernel, rfl⟩
theorem d16_50 : Dc jdk_116_method_22_code 50 (.sipush 223) 3 53 := ⟨by decide +kernel, rfl⟩
theorem d16_53 : Dc jdk_116_method_22_code 53 (.iand) 1 54 := ⟨by decide +kernel, rfl⟩
theorem d16_54 : Db jdk_116_method_22_code 54 (.if_icmp .ne 7) 3 57 (7) 61 := ⟨by decide +kernel, rfl, by decide, by decide⟩
theorem d16_57 : Dc jdk_116_method_22_code 57 (.iconst 1) 1 58 := ⟨by decide +kernel, rfl⟩
theorem d16_58 : Db jdk_116_method_22_code 58 (.goto 4) 3 61 (4) 62 := ⟨by decide +kernel, rfl, by decide, by decide⟩
theorem d16_61 : Dc jdk_116_method_22_code 61 (.iconst 0) 1 62 := ⟨by decide +kernel, rfl⟩
theorem d16_62 : Dc jdk_116_method_22_code 62 (.ireturn) 1 63 := ⟨by decide +kernel, rfl⟩
theorem d17_0 : Dc code 0 (.iload_n 0) 1 1 := ⟨by decide +kernel, rfl⟩
theorem d17_1 : Dc code 1 (.sipush 255) 3 4 := ⟨by decide +kernel, rfl⟩
theorem d17_4 : Dc code 4 (.iand) 1 5 := ⟨by decide +kernel, rfl⟩
theorem d17_5 : Dc code 5 (.i2c) 1 6 := ⟨by decide +kernel, rfl⟩
theorem d17_6 : Dc code 6 (.istore_n 3) 1 7 := ⟨by decide +kernel, rfl⟩
theorem d17_7 : Dc code 7 (.iload_n 0) 1 8 := ⟨by decide +kernel, rfl⟩
theorem d17_8 : Dc code 8 (.bipush 8) 2 10 := ⟨by decide +kernel, rfl⟩
theorem d17_10 : Dc code 10 (.iushr) 1 11 := ⟨by decide +kernel, rfl⟩
theorem d17_11 : Dc code 11 (.sipush 255) 3 14 := ⟨by decide +kernel, rfl⟩
theorem d17_14 : Dc code 14 (.iand) 1 15 := ⟨by decide +kernel, rfl⟩
theorem d17_15 : Dc code 15 (.i2c) 1 16 := ⟨by decide +kernel, rfl⟩
theorem d17_16 : Dc code 16 (.istore 4) 2 18 := ⟨by decide +kernel, rfl⟩
theorem d17_18 : Dc code 18 (.iload_n 0) 1 19 := ⟨by decide +kernel, rfl⟩
theorem d17_19 : Dc code 19 (.bipush 16) 2 21 := ⟨by decide +kernel, rfl⟩
theorem d17_21 : Dc code 21 (.iushr) 1 22 := ⟨by decide +kernel, rfl⟩
theorem d17_22 : Dc code 22 (.sipush 255) 3 25 := ⟨by decide +kernel, rfl⟩
theorem d17_25 : Dc code 25 (.iand) 1 26 := ⟨by decide +kernel, rfl⟩
theorem d17_26 : Dc code 26 (.i2c) 1 27 := ⟨by decide +kernel, rfl⟩
theorem d17_27 : Dc code 27 (.istore 5) 2 29 := ⟨by decide +kernel, rfl⟩
theorem d17_29 : Dc code 29 (.iload_n 0) 1 30 := ⟨by decide +kernel, rfl⟩
theorem d17_30 : Dc code 30 (.bipush 24) 2 32 := ⟨by decide +kernel, rfl⟩
theorem d17_32 : Dc code 32 (.iushr) 1 33 := ⟨by decide +kernel, rfl⟩
theorem d17_33 : Dc code 33 (.sipush 255) 3 36 := ⟨by decide +kernel, rfl⟩
theorem d17_36 : Dc code 36 (.iand) 1 37 := ⟨by decide +kernel, rfl⟩
theorem d17_37 : Dc code 37 (.i2c) 1 38 := ⟨by decide +kernel, rfl⟩
theorem d17_38 : Dc code 38 (.istore 6) 2 40 := ⟨by decide +kernel, rfl⟩
theorem d17_40 : Dc code 40 (.iload_n 1) 1 41 := ⟨by decide +kernel, rfl⟩
theorem d17_41 : Dc code 41 (.sipush 255) 3 44 := ⟨by decide +kernel, rfl⟩
theorem d17_44 : Dc code 44 (.iand) 1 45 := ⟨by decide +kernel, rfl⟩
theorem d17_45 : Dc code 45 (.i2c) 1 46 := ⟨by decide +kernel, rfl⟩
theorem d17_46 : Dc code 46 (.istore 7) 2 48 := ⟨by decide +kernel, rfl⟩
theorem d17_48 : Dc code 48 (.iload_n 1) 1 49 := ⟨by decide +kernel, rfl⟩
theorem d17_49 : Dc code 49 (.bipush 8) 2 51 := ⟨by decide +kernel, rfl⟩
theorem d17_51 : Dc code 51 (.iushr) 1 52 := ⟨by decide +kernel, rfl⟩
theorem d17_52 : Dc code 52 (.sipush 255) 3 55 := ⟨by decide +kernel, rfl⟩
theorem d17_55 : Dc code 55 (.iand) 1 56 := ⟨by decide +kernel, rfl⟩
theorem d17_56 : Dc code 56 (.i2c) 1 57 := ⟨by decide +kernel, rfl⟩
theorem d17_57 : Dc code 57 (.istore 8) 2 59 := ⟨by decide +kernel, rfl⟩
theorem d17_59 : Dc code 59 (.iload_n 1) 1 60 := ⟨by decide +kernel, rfl⟩
theorem d17_60 : Dc code 60 (.bipush 16) 2 62 := ⟨by decide +kernel, rfl⟩
theorem d17_62 : Dc code 62 (.iushr) 1 63 := ⟨by decide +kernel, rfl⟩
theorem d17_63 : Dc code 63 (.sipush 255) 3 66 := ⟨by decide +kernel, rfl⟩
theorem d17_66 : Dc code 66 (.iand) 1 67 := ⟨by decide +kernel, rfl⟩
theorem d17_67 : Dc code 67 (.i2c) 1 68 := ⟨by decide +kernel, rfl⟩
theorem d17_68 : Dc code 68 (.istore 9) 2 70 := ⟨by decide +kernel, rfl⟩
theorem d17_70 : Dc code 70 (.iload_n 1) 1 71 := ⟨by decide +kernel, rfl⟩
theorem d17_71 : Dc code 71 (.bipush 24) 2 73 := ⟨by decide +kernel, rfl⟩
theorem d17_73 : Dc code 73 (.iushr) 1 74 := ⟨by decide +kernel, rfl⟩
theorem d17_74 : Dc code 74 (.iconst 3) 1 75 := ⟨by decide +kernel, rfl⟩
theorem d17_75 : Dc code 75 (.iand) 1 76 := ⟨by decide +kernel, rfl⟩
theorem d17_76 : Dc code 76 (.istore 10) 2 78 := ⟨by decide +kernel, rfl⟩
theorem d17_78 : Dc code 78 (.iload_n 2) 1 79 := ⟨by decide +kernel, rfl⟩
theorem d17_79 : Dc code 79 (.bipush 7) 2 81 := ⟨by decide +kernel, rfl⟩
theorem d17_81 : Dc code 81 (.iand) 1 82 := ⟨by decide +kernel, rfl⟩
theorem d17_82 : Dc code 82 (.iconst 5) 1 83 := ⟨by decide +kernel, rfl⟩
theorem d17_83 : Dc code 83 (.irem) 1 84 := ⟨by decide +kernel, rfl⟩
theorem d17_84 : Dc code 84 (.istore 11) 2 86 := ⟨by decide +kernel, rfl⟩
theorem d17_86 : Dc code 86 (.iload_n 2) 1 87 := ⟨by decide +kernel, rfl⟩
theorem d17_87 : Dc code 87 (.iconst 3) 1 88 := ⟨by decide +kernel, rfl⟩
theorem d17_88 : Dc code 88 (.iushr) 1 89 := ⟨by decide +kernel, rfl⟩
theorem d17_89 : Dc code 89 (.bipush 7) 2 91 := ⟨by decide +kernel, rfl⟩
theorem d17_91 : Dc code 91 (.iand) 1 92 := ⟨by decide +kernel, rfl⟩
theorem d17_92 : Db code 92 (.ifCond .ne 7) 3 95 (7) 99 := ⟨by decide +kernel, rfl, by decide, by decide⟩
theorem d17_95 : Dc code 95 (.iconst 1) 1 96 := ⟨by decide +kernel, rfl⟩
theorem d17_96 : Db code 96 (.goto 4) 3 99 (4) 100 := ⟨by decide +kernel, rfl, by decide, by decide⟩
theorem d17_99 : Dc code 99 (.iconst 0) 1 100 := ⟨by decide +kernel, rfl⟩
theorem d17_100 : Dc code 100 (.istore 12) 2 102 := ⟨by decide +kernel, rfl⟩
theorem d17_102 : Dc code 102 (.iconst 4) 1 103 := ⟨by decide +kernel, rfl⟩
theorem d17_103 : Dc code 103 (.newarray .char) 2 105 := ⟨by decide +kernel, rfl⟩
theorem d17_105 : Dc code 105 (.dup) 1 106 := ⟨by decide +kernel, rfl⟩
theorem d17_106 : Dc code 106 (.iconst 0) 1 107 := ⟨by decide +kernel, rfl⟩
theorem d17_107 : Dc code 107 (.iload_n 3) 1 108 := ⟨by decide +kernel, rfl⟩
theorem d17_108 : Dc code 108 (.castore) 1 109 := ⟨by decide +kernel, rfl⟩
theorem d17_109 : Dc code 109 (.dup) 1 110 := ⟨by decide +kernel, rfl⟩
theorem d17_110 : Dc code 110 (.iconst 1) 1 111 := ⟨by decide +kernel, rfl⟩
theorem d17_111 : Dc code 111 (.iload 4) 2 113 := ⟨by decide +kernel, rfl⟩
theorem d17_113 : Dc code 113 (.castore) 1 114 := ⟨by decide +kernel, rfl⟩
theorem d17_114 : Dc code 114 (.dup) 1 115 := ⟨by decide +kernel, rfl⟩
theorem d17_115 : Dc code 115 (.iconst 2) 1 116 := ⟨by decide +kernel, rfl⟩
theorem d17_116 : Dc code 116 (.iload 5) 2 118 := ⟨by decide +kernel, rfl⟩
theorem d17_118 : Dc code 118 (.castore) 1 119 := ⟨by decide +kernel, rfl⟩
theorem d17_119 : Dc code 119 (.dup) 1 120 := ⟨by decide +kernel, rfl⟩
theorem d17_120 : Dc code 120 (.iconst 3) 1 121 := ⟨by decide +kernel, rfl⟩
theorem d17_121 : Dc code 121 (.iload 6) 2 123 := ⟨by decide +kernel, rfl⟩
theorem d17_123 : Dc code 123 (.castore) 1 124 := ⟨by decide +kernel, rfl⟩
theorem d17_124 : Dc code 124 (.astore 13) 2 126 := ⟨by decide +kernel, rfl⟩
theorem d17_126 : Dc code 126 (.iconst 3) 1 127 := ⟨by decide +kernel, rfl⟩
theorem d17_127 : Dc code 127 (.newarray .char) 2 129 := ⟨by decide +kernel, rfl⟩
theorem d17_129 : Dc code 129 (.dup) 1 130 := ⟨by decide +kernel, rfl⟩
theorem d17_130 : Dc code 130 (.iconst 0) 1 131 := ⟨by decide +kernel, rfl⟩
theorem d17_131 : Dc code 131 (.iload 7) 2 133 := ⟨by decide +kernel, rfl⟩
theorem d17_133 : Dc code 133 (.castore) 1 134 := ⟨by decide +kernel, rfl⟩
theorem d17_134 : Dc code 134 (.dup) 1 135 := ⟨by decide +kernel, rfl⟩
theorem d17_135 : Dc code 135 (.iconst 1) 1 136 := ⟨by decide +kernel, rfl⟩
theorem d17_136 : Dc code 136 (.iload 8) 2 138 := ⟨by decide +kernel, rfl⟩
theorem d17_138 : Dc code 138 (.castore) 1 139 := ⟨by decide +kernel, rfl⟩
theorem d17_139 : Dc code 139 (.dup) 1 140 := ⟨by decide +kernel, rfl⟩
theorem d17_140 : Dc code 140 (.iconst 2) 1 141 := ⟨by decide +kernel, rfl⟩
theorem d17_141 : Dc code 141 (.iload 9) 2 143 := ⟨by decide +kernel, rfl⟩
theorem d17_143 : Dc code 143 (.castore) 1 144 := ⟨by decide +kernel, rfl⟩
theorem d17_144 : Dc code 144 (.astore 14) 2 146 := ⟨by decide +kernel, rfl⟩
theorem d17_146 : Dc code 146 (.iload 12) 2 148 := ⟨by decide +kernel, rfl⟩
theorem d17_148 : Db code 148 (.ifCond .eq 7) 3 151 (7) 155 := ⟨by decide +kernel, rfl, by decide, by decide⟩
theorem d17_151 : Dc code 151 (.aconst_null) 1 152 := ⟨by decide +kernel, rfl⟩
theorem d17_152 : Db code 152 (.goto 15) 3 155 (15) 167 := ⟨by decide +kernel, rfl, by decide, by decide⟩
theorem d17_155 : Dc code 155 (.iload 11) 2 157 := ⟨by decide +kernel, rfl⟩
theorem d17_157 : Dc code 157 (.iload_n 3) 1 158 := ⟨by decide +kernel, rfl⟩
theorem d17_158 : Dc code 158 (.iload 4) 2 160 := ⟨by decide +kernel, rfl⟩
theorem d17_160 : Dc code 160 (.iload 5) 2 162 := ⟨by decide +kernel, rfl⟩
theorem d17_162 : Dc code 162 (.iload 6) 2 164 := ⟨by decide +kernel, rfl⟩
theorem d17_164 : Dc code 164 (.invokestatic 7) 3 167 := ⟨by decide +kernel, rfl⟩
theorem d17_167 : Dc code 167 (.astore 15) 2 169 := ⟨by decide +kernel, rfl⟩
theorem d17_169 : Dc code 169 (.iload 10) 2 171 := ⟨by decide +kernel, rfl⟩
theorem d17_171 : Dc code 171 (.iload 7) 2 173 := ⟨by decide +kernel, rfl⟩
theorem d17_173 : Dc code 173 (.iload 8) 2 175 := ⟨by decide +kernel, rfl⟩
theorem d17_175 : Dc code 175 (.iload 9) 2 177 := ⟨by decide +kernel, rfl⟩
theorem d17_177 : Dc code 177 (.invokestatic 13) 3 180 := ⟨by decide +kernel, rfl⟩
theorem d17_180 : Dc code 180 (.astore 16) 2 182 := ⟨by decide +kernel, rfl⟩
theorem d17_182 : Dc code 182 (.iload 12) 2 184 := ⟨by decide +kernel, rfl⟩
theorem d17_184 : Db code 184 (.ifCond .ne 82) 3 187 (82) 266 := ⟨by decide +kernel, rfl, by decide, by decide⟩
theorem d17_187 : Dc code 187 (.aload 13) 2 189 := ⟨by decide +kernel, rfl⟩
theorem d17_189 : Dc code 189 (.iload 11) 2 191 := ⟨by decide +kernel, rfl⟩
theorem d17_191 : Dc code 191 (.aload 14) 2 193 := ⟨by decide +kernel, rfl⟩
theorem d17_193 : Dc code 193 (.iload 10) 2 195 := ⟨by decide +kernel, rfl⟩
theorem d17_195 : Dc code 195 (.iconst 0) 1 196 := ⟨by decide +kernel, rfl⟩
theorem d17_196 : Dc code 196 (.invokestatic 17) 3 199 := ⟨by decide +kernel, rfl⟩
theorem d17_199 : Db code 199 (.ifCond .ne 63) 3 202 (63) 262 := ⟨by decide +kernel, rfl, by decide, by decide⟩
theorem d17_202 : Dc code 202 (.aload 13) 2 204 := ⟨by decide +kernel, rfl⟩
theorem d17_204 : Dc code 204 (.iload 11) 2 206 := ⟨by decide +kernel, rfl⟩
theorem d17_206 : Dc code 206 (.aload 14) 2 208 := ⟨by decide +kernel, rfl⟩
theorem d17_208 : Dc code 208 (.iload 10) 2 210 := ⟨by decide +kernel, rfl⟩
theorem d17_210 : Dc code 210 (.iconst 1) 1 211 := ⟨by decide +kernel, rfl⟩
theorem d17_211 : Dc code 211 (.invokestatic 17) 3 214 := ⟨by decide +kernel, rfl⟩
theorem d17_214 : Db code 214 (.ifCond .ne 48) 3 217 (48) 262 := ⟨by decide +kernel, rfl, by decide, by decide⟩
theorem d17_217 : Dc code 217 (.aload 13) 2 219 := ⟨by decide +kernel, rfl⟩
theorem d17_219 : Dc code 219 (.iload 11) 2 221 := ⟨by decide +kernel, rfl⟩
theorem d17_221 : Dc code 221 (.aload 14) 2 223 := ⟨by decide +kernel, rfl⟩
theorem d17_223 : Dc code 223 (.iload 10) 2 225 := ⟨by decide +kernel, rfl⟩
theorem d17_225 : Dc code 225 (.iconst 2) 1 226 := ⟨by decide +kernel, rfl⟩
theorem d17_226 : Dc code 226 (.invokestatic 17) 3 229 := ⟨by decide +kernel, rfl⟩
theorem d17_229 : Db code 229 (.ifCond .ne 33) 3 232 (33) 262 := ⟨by decide +kernel, rfl, by decide, by decide⟩
theorem d17_232 : Dc code 232 (.aload 13) 2 234 := ⟨by decide +kernel, rfl⟩
theorem d17_234 : Dc code 234 (.iload 11) 2 236 := ⟨by decide +kernel, rfl⟩
theorem d17_236 : Dc code 236 (.aload 14) 2 238 := ⟨by decide +kernel, rfl⟩
theorem d17_238 : Dc code 238 (.iload 10) 2 240 := ⟨by decide +kernel, rfl⟩
theorem d17_240 : Dc code 240 (.iconst 3) 1 241 := ⟨by decide +kernel, rfl⟩
theorem d17_241 : Dc code 241 (.invokestatic 17) 3 244 := ⟨by decide +kernel, rfl⟩
theorem d17_244 : Db code 244 (.ifCond .ne 18) 3 247 (18) 262 := ⟨by decide +kernel, rfl, by decide, by decide⟩
theorem d17_247 : Dc code 247 (.aload 13) 2 249 := ⟨by decide +kernel, rfl⟩
theorem d17_249 : Dc code 249 (.iload 11) 2 251 := ⟨by decide +kernel, rfl⟩
theorem d17_251 : Dc code 251 (.aload 14) 2 253 := ⟨by decide +kernel, rfl⟩
theorem d17_253 : Dc code 253 (.iload 10) 2 255 := ⟨by decide +kernel, rfl⟩
theorem d17_255 : Dc code 255 (.iconst 4) 1 256 := ⟨by decide +kernel, rfl⟩
theorem d17_256 : Dc code 256 (.invokestatic 17) 3 259 := ⟨by decide +kernel, rfl⟩
theorem d17_259 : Db code 259 (.ifCond .eq 7) 3 262 (7) 266 := ⟨by decide +kernel, rfl, by decide, by decide⟩
theorem d17_262 : Dc code 262 (.iconst 1) 1 263 := ⟨by decide +kernel, rfl⟩
theorem d17_263 : Db code 263 (.goto 4) 3 266 (4) 267 := ⟨by decide +kernel, rfl, by decide, by decide⟩
theorem d17_266 : Dc code 266 (.iconst 0) 1 267 := ⟨by decide +kernel, rfl⟩
theorem d17_267 : Dc code 267 (.istore 17) 2 269 := ⟨by decide +kernel, rfl⟩
theorem d17_269 : Dc code 269 (.aload 15) 2 271 := ⟨by decide +kernel, rfl⟩
theorem d17_271 : Dc code 271 (.aload 16) 2 273 := ⟨by decide +kernel, rfl⟩
theorem d17_273 : Dc code 273 (.invokestatic 21) 3 276 := ⟨by decide +kernel, rfl⟩
theorem d17_276 : Dc code 276 (.iload 17) 2 278 := ⟨by decide +kernel, rfl⟩
theorem d17_278 : Db code 278 (.if_icmp .ne 7) 3 281 (7) 285 := ⟨by decide +kernel, rfl, by decide, by decide⟩
theorem d17_281 : Dc code 281 (.iconst 1) 1 282 := ⟨by decide +kernel, rfl⟩
theorem d17_282 : Db code 282 (.goto 4) 3 285 (4) 286 := ⟨by decide +kernel, rfl, by decide, by decide⟩
theorem d17_286 : Dc code 286 (.ireturn) 1 287 := ⟨by decide +kernel, rfl⟩
theorem pd__28BB_29Z : parseMethodDescriptor "(BB)Z" = some ⟨[.byte, .byte], some .boolean⟩ := by decide +kernel
theorem pd__28CC_29Z : parseMethodDescriptor "(CC)Z" = some ⟨[.char, .char], some .boolean⟩ := by decide +kernel
theorem pd__28C_29I : parseMethodDescriptor "(C)I" = some ⟨[.char], some .int⟩ := by decide +kernel
theorem pd__28ICCCC_29Ljava_2flang_2fString_3b : parseMethodDescriptor "(ICCCC)Ljava/lang/String;" = some ⟨[.int, .char, .char, .char, .char], some (.object "java/lang/String")⟩ := by decide +kernel
theorem pd__28ICCC_29Ljava_2flang_2fString_3b : parseMethodDescriptor "(ICCC)Ljava/lang/String;" = some ⟨[.int, .char, .char, .char], some (.object "java/lang/String")⟩ := by decide +kernel
theorem pd__28Ljava_2flang_2fString_3bLjava_2flang_2fString_3b_29Z : parseMethodDescriptor "(Ljava/lang/String;Ljava/lang/String;)Z" = some ⟨[(.object "java/lang/String"), (.object "java/lang/String")], some .boolean⟩ := by decide +kernel
theorem pd__28ZILjava_2flang_2fString_3bII_29Z : parseMethodDescriptor "(ZILjava/lang/String;II)Z" = some ⟨[.boolean, .int, (.object "java/lang/String"), .int, .int], some .boolean⟩ := by decide +kernel
theorem pd__28_29B : parseMethodDescriptor "()B" = some ⟨[], some .byte⟩ := by decide +kernel
theorem pd__28_29I : parseMethodDescriptor "()I" = some ⟨[], some .int⟩ := by decide +kernel
theorem pd__28_5bBI_29B : parseMethodDescriptor "([BI)B" = some ⟨[(.array .byte), .int], some .byte⟩ := by decide +kernel
theorem pd__28_5bBI_5bBII_29Z : parseMethodDescriptor "([BI[BII)Z" = some ⟨[(.array .byte), .int, (.array .byte), .int, .int], some .boolean⟩ := by decide +kernel
theorem pd__28_5bCIILjava_2flang_2fVoid_3b_29V : parseMethodDescriptor "([CIILjava/lang/Void;)V" = some ⟨[(.array .char), .int, .int, (.object "java/lang/Void")], none⟩ := by decide +kernel
theorem pd__28_5bCII_29_5bB : parseMethodDescriptor "([CII)[B" = some ⟨[(.array .char), .int, .int], some (.array .byte)⟩ := by decide +kernel
theorem pd__28_5bCI_5bBII_29I : parseMethodDescriptor "([CI[BII)I" = some ⟨[(.array .char), .int, (.array .byte), .int, .int], some .int⟩ := by decide +kernel
theorem pd__28_5bCI_5bCII_29Z : parseMethodDescriptor "([CI[CII)Z" = some ⟨[(.array .char), .int, (.array .char), .int, .int], some .boolean⟩ := by decide +kernel
theorem pd__28_5bC_29V : parseMethodDescriptor "([C)V" = some ⟨[(.array .char)], none⟩ := by decide +kernel
set_option maxRecDepth 65536 in
set_option maxHeartbeats 4000000 in
theorem k_compress5 {Z : State} {a0 : Array Value} (hw : ∀ d ∈ tables_1, d.before a0 Z = true) (hs : Stt Z) {n0 : Nat} {h0 : Heap} {a b : Addr} {cs : List Int32} (hcs : ∀ c ∈ cs, isCh c) (hl : cs.length ≤ 4096) (A : Ary Z h0 a .char (chs cs)) (B : Ary Z h0 b .byte (List.replicate cs.length (.int 0))) (O : Old Z n0 h0) :
    Con WD Z EL0 n0 (⟨"java/lang/StringUTF16", "compress", "([CI[BII)I"⟩ : MethodName) jdk_52_method_21_code 7 (some .int) (Rm 0 0 0 0) [(.ref a), (.int (0 : Int32)), (.ref b), (.int (0 : Int32)), (.int (natI cs.length))] h0 [b] (fun v h gs => v = some (.int (natI (pfx cs))) ∧ gs = [] ∧ Ary Z h b .byte (lat (cs.take (pfx cs)) ++ List.replicate (cs.length - pfx cs) (.int 0))) := by
  refine Con.of (a0 := a0) (by first | (simp [plainName, overriddenIn]; done) | decide +kernel) (hEL hw) hWE O (L0 := #[.val (.ref a), .val (.int (0 : Int32)), .val (.ref b), .val (.int (0 : Int32)), .val (.int (natI cs.length)), .unset, .unset]) (fun m => by first | rfl | (simp [entryFrame, mkF, argsToLocals, Value.category]; done)) ?_
  intro K C hh
  have loop : ∀ (m i : Nat) (h : Heap) (s6 : Slot), i + m = cs.length → (∀ c ∈ cs.take i, c.toInt < 256) → (s6 = .unset ∨ ∃ w, s6 = .val w ∧ w.category = 1) → Ary Z h a .char (chs cs) → Ary Z h b .byte (lat (cs.take i) ++ List.replicate m (.int 0)) → Go WD K Z EL0 n0 [b] (fun v h gs => v = some (.int (natI (pfx cs))) ∧ gs = [] ∧ Ary Z h b .byte (lat (cs.take (pfx cs)) ++ List.replicate (cs.length - pfx cs) (.int 0))) 3 #[.val (.ref a), .val (.int (natI i)), .val (.ref b), .val (.int (natI i)), .val (.int (natI cs.length)), .val (.int (natI i)), s6] [] h [b] 0 0 := by
    intro m
    induction m with
    | zero =>
      intro i h s6 hm hp hs6 A B
      have e1 := natI_toInt (i := i) (by omega)
      have e2 := natI_toInt (i := cs.length) (by omega)
      refine Own.iload C d7_3 rfl ?_
      refine Own.iload C d7_5 rfl ?_
      refine icmp_ge C d7_7 (fun q1 => ?_) (fun q1 => ?_)
      · refine Own.iload C d7_44 rfl ?_
        have hi : i = cs.length := by omega
        subst hi
        rw [List.take_length] at hp B
        have hq := pfx_all hp
        exact retI_ C (gs := []) d7_46 (dle rfl) (dle rfl) (fun _ q => nomatch q) ⟨by rw [hq], rfl, by rw [hq, List.take_length, Nat.sub_self]; exact B⟩
      · rw [lt32] at q1
        omega
    | succ m ih =>
      intro i h s6 hm hp hs6 A B
      have e1 := natI_toInt (i := i) (by omega)
      have e2 := natI_toInt (i := cs.length) (by omega)
      refine Own.iload C d7_3 rfl ?_
      refine Own.iload C d7_5 rfl ?_
      refine icmp_ge C d7_7 (fun q2 => ?_) (fun q2 => ?_)
      · rw [lt32] at q2
        omega
      · obtain ⟨c, hc⟩ : ∃ c, cs[i]? = some c := ⟨_, List.getElem?_eq_getElem (by omega)⟩
        have hch := hcs c (List.mem_of_getElem? hc)
        refine Own.aloadN C d7_10 rfl rfl ?_
        refine Own.iloadN C d7_11 rfl ?_
        refine caload_ C (v := .int c) A i e1 (chs_at hc) d7_12 ?_
        refine Own.istore (L' := #[.val (.ref a), .val (.int (natI i)), .val (.ref b), .val (.int (natI i)), .val (.int (natI cs.length)), .val (.int (natI i)), .val (.int c)]) C d7_13 (st1 rfl hs6 rfl rfl) ?_
        refine Own.iload C d7_15 rfl ?_
        refine Own.sipush (v := 255) C d7_17 rfl ?_
        refine icmp_le C d7_20 (fun q3 => ?_) (fun q3 => ?_)
        · have hlt : c.toInt < 256 := by have e : (255 : Int32).toInt = 255 := rfl; rw [lt32] at q3; omega
          refine Own.aloadN C d7_26 rfl rfl ?_
          refine Own.iloadN C d7_27 rfl ?_
          refine Own.iload C d7_28 rfl ?_
          refine Own.i2b C d7_30 ?_
          refine bastore_ C B i e1 (by simp [lat_len]; omega) (by simp) d7_31 (fun hp4 W4 A4 => ?_)
          rw [lat_set hm hc] at A4
          have e3 := natI_succ (i := i) (by omega)
          refine Own.iinc (L' := #[.val (.ref a), .val (.int (natI (i + 1))), .val (.ref b), .val (.int (natI i)), .val (.int (natI cs.length)), .val (.int (natI i)), .val (.int c)]) (y := (natI (i + 1))) C d7_32 rfl e3 rfl ?_
          refine Own.iinc (L' := #[.val (.ref a), .val (.int (natI (i + 1))), .val (.ref b), .val (.int (natI (i + 1))), .val (.int (natI cs.length)), .val (.int (natI i)), .val (.int c)]) (y := (natI (i + 1))) C d7_35 rfl e3 rfl ?_
          refine Own.iinc (L' := #[.val (.ref a), .val (.int (natI (i + 1))), .val (.ref b), .val (.int (natI (i + 1))), .val (.int (natI cs.length)), .val (.int (natI (i + 1))), .val (.int c)]) (y := (natI (i + 1))) C d7_38 rfl e3 rfl ?_
          refine Own.goto_ C d7_41 ?_
          exact ih (i + 1) hp4 _ (by omega) (take_lt hp hc hlt) (Or.inr ⟨_, rfl, rfl⟩) (A.other W4 (A.ne B (by decide))) A4
        · have hge : 256 ≤ c.toInt := by have e : (255 : Int32).toInt = 255 := rfl; rw [lt32] at q3; omega
          refine Own.iload C d7_23 rfl ?_
          have hq := pfx_at hp hc hge
          exact retI_ C (gs := []) d7_25 (dle rfl) (dle rfl) (fun _ q => nomatch q) ⟨by rw [hq], rfl, by rw [hq, show cs.length - i = m + 1 by omega]; exact B⟩
  refine Own.iconst (v := 0) C d7_0 rfl ?_
  refine Own.istore (L' := #[.val (.ref a), .val (.int (0 : Int32)), .val (.ref b), .val (.int (0 : Int32)), .val (.int (natI cs.length)), .val (.int (0 : Int32)), .unset]) C d7_1 rfl ?_
  exact loop cs.length 0 h0 .unset (by omega) (by simp) (Or.inl rfl) A (by simpa [lat] using B)
set_option maxRecDepth 65536 in
set_option maxHeartbeats 4000000 in
theorem k_compress3 {Z : State} {a0 : Array Value} (hw : ∀ d ∈ tables_1, d.before a0 Z = true) (hs : Stt Z) {n0 : Nat} {h0 : Heap} {N : Nat} {a : Addr} {cs : List Int32} (hcs : ∀ c ∈ cs, isCh c) (hl : cs.length ≤ 4096) (hN : cs.length ≤ N ∧ N ≤ 4096) (A : Ary Z h0 a .char (chs cs)) (hlat : ∀ c ∈ cs, c.toInt < 256) (O : Old Z n0 h0) :
    Con WD Z EL0 n0 (⟨"java/lang/StringUTF16", "compress", "([CII)[B"⟩ : MethodName) jdk_52_method_16_code 6 (some (.array .byte)) (Rm 1 1 (0 + 1 * N) 18) [(.ref a), (.int (0 : Int32)), (.int (natI cs.length))] h0 [] (fun v h gs => gs = [] ∧ ∃ (b : Addr) (z : Int32) (vs : List Value), v = some (.ref b) ∧ h0.size ≤ b ∧ Ary Z h b .byte vs ∧ Byt cs z vs) := by
  refine Con.of (a0 := a0) (by first | (simp [plainName, overriddenIn]; done) | decide +kernel) (hEL hw) hWE O (L0 := #[.val (.ref a), .val (.int (0 : Int32)), .val (.int (natI cs.length)), .unset, .unset, .unset]) (fun m => by first | rfl | (simp [entryFrame, mkF, argsToLocals, Value.category]; done)) ?_
  intro K C hh
  have e2 := natI_toInt (i := cs.length) (by omega)
  have e3 : (natI cs.length).toNatClampNeg = cs.length := natI_clamp (by omega)
  refine Own.iloadN C d6_0 rfl ?_
  refine newarr C (hw _ (List.mem_of_getElem? (i := 19) rfl)) (by rw [lt32, e2]; exact Int.not_lt.mpr (Int.natCast_nonneg _)) N (by omega) (by omega) (dle rfl) (by omega) d6_1 (fun hp1 K1 lt1 le1 A1 => ?_)
  obtain ⟨b, g1⟩ : ∃ z, z = h0.size := ⟨_, rfl⟩
  rw [← g1] at A1 lt1 le1 ⊢
  rw [e3] at A1
  have A' := A.keep K1 nin0
  refine Own.astoreN (L' := #[.val (.ref a), .val (.int (0 : Int32)), .val (.int (natI cs.length)), .val (.ref b), .unset, .unset]) C d6_3 rfl rfl ?_
  refine Own.aloadN C d6_4 rfl rfl ?_
  refine Own.iloadN C d6_5 rfl ?_
  refine Own.aloadN C d6_6 rfl rfl ?_
  refine Own.iconst (v := 0) C d6_7 rfl ?_
  refine Own.iloadN C d6_8 rfl ?_
  refine callS_ C (as := [(.ref a), (.int (0 : Int32)), (.ref b), (.int (0 : Int32)), (.int (natI cs.length))]) (st := []) (hw _ (List.mem_of_getElem? (i := 38) rfl)) (hw _ (List.mem_of_getElem? (i := 39) rfl)) (hw _ (List.mem_of_getElem? (i := 36) rfl)) (hw _ (List.mem_of_getElem? (i := 40) rfl)) ⟨by decide, by decide⟩ pd__28_5bCI_5bBII_29I rfl (fun O => k_compress5 hw hs hcs hl A' A1 O) (by simp) rfl (dle rfl) (dle rfl) (dle rfl) (by omega) d6_9 rfl (fun v2 hp2 gs2 K2 Q2 => ?_)
  obtain ⟨rfl, rfl, B2⟩ := Q2
  show Go _ K Z _ n0 _ _ 12 #[.val (.ref a), .val (.int (0 : Int32)), .val (.int (natI cs.length)), .val (.ref b), .unset, .unset] [(.int (natI (pfx cs)))] hp2 _ _ _
  refine Own.istore (L' := #[.val (.ref a), .val (.int (0 : Int32)), .val (.int (natI cs.length)), .val (.ref b), .val (.int (natI (pfx cs))), .unset]) C d6_12 rfl ?_
  refine Own.iload C d6_14 rfl ?_
  refine Own.iloadN C d6_16 rfl ?_
  refine icmp_eq C d6_17 (fun q3 => ?_) (fun q3 => ?_)
  · have hp : pfx cs = cs.length := by have e4 := natI_toInt (i := pfx cs) (by have := pfx_le cs; omega); have e5 := congrArg Int32.toInt q3; omega
    rw [hp, List.take_length, Nat.sub_self] at B2
    refine Own.aloadN C d6_57 rfl rfl ?_
    exact retA C (gs := []) rfl rfl d6_58 (dle rfl) (by omega) (fun _ q => nomatch q) ⟨rfl, b, 0, lat cs, rfl, by omega, by simpa using B2, Or.inl ⟨pfx_full hp, rfl, rfl⟩⟩
  · exact absurd (by rw [pfx_all hlat]) q3
set_option maxRecDepth 65536 in
set_option maxHeartbeats 4000000 in
theorem k_coder {Z : State} {a0 : Array Value} (hw : ∀ d ∈ tables_1, d.before a0 Z = true) (hs : Stt Z) {n0 : Nat} {h0 : Heap} {b : Addr} {cs : List Int32} {z : Int32} {vs : List Value} (h1 : 1 ≤ cs.length) (hl : cs.length ≤ 4096) (A : Ary Z h0 b .byte vs) (B : Byt cs z vs) (O : Old Z n0 h0) :
    Con WD Z EL0 n0 (⟨"java/lang/StringUTF16", "coderFromArrayLen", "([BI)B"⟩ : MethodName) jdk_52_method_15_code 2 (some .byte) (Rm 0 0 0 0) [(.ref b), (.int (natI cs.length))] h0 [] (fun v h gs => v = some (.int z) ∧ gs = []) := by
  refine Con.of (a0 := a0) (by first | (simp [plainName, overriddenIn]; done) | decide +kernel) (hEL hw) hWE O (L0 := #[.val (.ref b), .val (.int (natI cs.length))]) (fun m => by first | rfl | (simp [entryFrame, mkF, argsToLocals, Value.category]; done)) ?_
  intro K C hh
  obtain ⟨y, hy⟩ : ∃ y : Int32, y.toInt = vs.length := ⟨natI vs.length, natI_toInt (Byt.len_lt B hl)⟩
  refine Own.iloadN C d8_0 rfl ?_
  refine Own.aloadN C d8_1 rfl rfl ?_
  refine arrlen C A (z := y) hy d8_2 ?_
  refine Own.isub C d8_3 ?_
  refine Own.bipush (v := 31) C d8_4 rfl ?_
  refine Own.iushr C d8_6 ?_
  refine Own.i2b C d8_7 ?_
  exact retB C (gs := []) d8_8 (dle rfl) (dle rfl) (fun _ q => nomatch q) ⟨by rw [Byt.coder B h1 hl hy], rfl⟩
set_option maxRecDepth 65536 in
set_option maxHeartbeats 4000000 in
theorem k_init4 {Z : State} {a0 : Array Value} (hw : ∀ d ∈ tables_1, d.before a0 Z = true) (hs : Stt Z) {n0 : Nat} {h0 : Heap} {N : Nat} {a b0 : Addr} {cs : List Int32} {u1 u2 : Value} (hcs : ∀ c ∈ cs, isCh c) (hl : cs.length ≤ 4096) (hN : cs.length ≤ N ∧ N ≤ 4096) (hlat : ∀ c ∈ cs, c.toInt < 256) (A : Ary Z h0 b0 .char (chs cs)) (E : Exa Z h0 a "java/lang/String") (Fv : Fld Z h0 a "java/lang/String" "value" "[B" u1) (Fc : Fld Z h0 a "java/lang/String" "coder" "B" u2) (O : Old Z n0 h0) :
    Con WD Z EL0 n0 (⟨"java/lang/String", "<init>", "([CIILjava/lang/Void;)V"⟩ : MethodName) jdk_42_method_149_code 6 none (Rm 2 4 (8 + 1 * N) 35) [(.ref a), (.ref b0), (.int (0 : Int32)), (.int (natI cs.length)), .null] h0 [a] (fun v h gs => v = none ∧ gs = [] ∧ Str Z h a cs) := by
  refine Con.of (a0 := a0) (by first | (simp [plainName, overriddenIn]; done) | decide +kernel) (hEL hw) hWE O (L0 := #[.val (.ref a), .val (.ref b0), .val (.int (0 : Int32)), .val (.int (natI cs.length)), .val .null, .unset]) (fun m => by first | rfl | (simp [entryFrame, mkF, argsToLocals, Value.category]; done)) ?_
  intro K C hh
  have e2 := natI_toInt (i := cs.length) (by omega)
  obtain ⟨cv, hcv, Sc⟩ := st_c hs
  refine Own.aloadN C d2_0 rfl rfl ?_
  refine initO_ C (hw _ (List.mem_of_getElem? (i := 15) rfl)) (hw _ (List.mem_of_getElem? (i := 16) rfl)) (hw _ (List.mem_of_getElem? (i := 17) rfl)) rfl (dle rfl) (dle rfl) d2_1 ?_
  refine Own.iloadN C d2_4 rfl ?_
  refine if_ne C d2_5 (fun q1 => ?_) (fun q1 => ?_)
  · have h1 : 1 ≤ cs.length := by rcases Nat.eq_zero_or_pos cs.length with z | z; exact absurd (by rw [z]; rfl) q1; exact z
    refine getS_ C (hw _ (List.mem_of_getElem? (i := 33) rfl)) Sc d2_27 ?_
    refine if_eq C d2_30 (fun q2 => ?_) (fun q2 => ?_)
    · exact absurd q2 hcv
    · refine Own.aloadN C d2_33 rfl rfl ?_
      refine Own.iloadN C d2_34 rfl ?_
      refine Own.iloadN C d2_35 rfl ?_
      refine callS_ C (as := [(.ref b0), (.int (0 : Int32)), (.int (natI cs.length))]) (st := []) (hw _ (List.mem_of_getElem? (i := 34) rfl)) (hw _ (List.mem_of_getElem? (i := 35) rfl)) (hw _ (List.mem_of_getElem? (i := 36) rfl)) (hw _ (List.mem_of_getElem? (i := 37) rfl)) ⟨by decide, by decide⟩ pd__28_5bCII_29_5bB rfl (fun O => k_compress3 (N := N) hw hs hcs hl hN A hlat O) (fun _ q => nomatch q) rfl (dle rfl) (dle rfl) (dle rfl) (by omega) d2_36 rfl (fun v3 hp3 gs3 K3 Q3 => ?_)
      obtain ⟨rfl, b, z, vs, rfl, hb, B, hB⟩ := Q3
      show Go _ K Z _ n0 _ _ 39 #[.val (.ref a), .val (.ref b0), .val (.int (0 : Int32)), .val (.int (natI cs.length)), .val .null, .unset] [(.ref b)] hp3 _ _ _
      refine Own.astore (L' := #[.val (.ref a), .val (.ref b0), .val (.int (0 : Int32)), .val (.int (natI cs.length)), .val .null, .val (.ref b)]) C d2_39 rfl rfl ?_
      refine Own.aloadN C d2_41 rfl rfl ?_
      refine Own.aload C d2_42 rfl rfl ?_
      refine Own.iloadN C d2_44 rfl ?_
      refine callS_ C (as := [(.ref b), (.int (natI cs.length))]) (st := [(.ref a)]) (hw _ (List.mem_of_getElem? (i := 41) rfl)) (hw _ (List.mem_of_getElem? (i := 42) rfl)) (hw _ (List.mem_of_getElem? (i := 36) rfl)) (hw _ (List.mem_of_getElem? (i := 43) rfl)) ⟨by decide, by decide⟩ pd__28_5bBI_29B rfl (fun O => k_coder hw hs h1 hl B hB O) (fun _ q => nomatch q) rfl (dle rfl) (dle rfl) (dle rfl) (by omega) d2_45 rfl (fun v4 hp4 gs4 K4 Q4 => ?_)
      obtain ⟨rfl, rfl⟩ := Q4
      show Go _ K Z _ n0 _ _ 48 #[.val (.ref a), .val (.ref b0), .val (.int (0 : Int32)), .val (.int (natI cs.length)), .val .null, .val (.ref b)] [(.int z), (.ref a)] hp4 _ _ _
      have K1 := K3.trans K4 (fun _ q => nomatch q)
      have E1 := E.keep K1
      have C1 := Fc.keep K1 nin0
      have V1 := Fv.keep K1 nin0
      refine putF_ C (v' := .int z) (ty := .byte) (hw _ (List.mem_of_getElem? (i := 25) rfl)) C1 E1 (Or.inr ⟨(hw _ (List.mem_of_getElem? (i := 21) rfl)), rfl, rfl⟩) (hw _ (List.mem_of_getElem? (i := 6) rfl)) (by decide) (by rcases hB with ⟨-, rfl, -⟩ | ⟨-, rfl, -⟩ <;> rfl) (by rcases hB with ⟨-, rfl, -⟩ | ⟨-, rfl, -⟩ <;> rfl) (by simp) d2_48 (fun hp5 W6 => ?_)
      have hne := slot_ne (Or.inr (hw _ (List.mem_of_getElem? (i := 20) rfl)) : Laid Z a0 "java/lang/String" "java/lang/String" "value" "[B") (Or.inr (hw _ (List.mem_of_getElem? (i := 21) rfl)) : Laid Z a0 "java/lang/String" "java/lang/String" "coder" "B") (by decide) (t := .array .byte) (t' := .byte) (by decide) (by decide)
      have E2 := E1.wr W6
      have C2 := C1.same W6
      have V2 := V1.other W6 (Or.inr hne)
      have B2 := (B.keep K4 nin0).other W6 ((B.keep K4 nin0).neX E1 (hw _ (List.mem_of_getElem? (i := 6) rfl)))
      refine Own.aloadN C d2_51 rfl rfl ?_
      refine Own.aload C d2_52 rfl rfl ?_
      refine putF_ C (v' := .ref b) (ty := (.array .byte)) (hw _ (List.mem_of_getElem? (i := 24) rfl)) V2 E2 (Or.inr ⟨(hw _ (List.mem_of_getElem? (i := 20) rfl)), rfl, rfl⟩) (hw _ (List.mem_of_getElem? (i := 6) rfl)) (by decide) rfl rfl (by simp) d2_54 (fun hp7 W8 => ?_)
      have E3 := E2.wr W8
      have V3 := V2.same W8
      have C3 := C2.other W8 (Or.inr hne.symm)
      have B3 := B2.other W8 (B2.neX E2 (hw _ (List.mem_of_getElem? (i := 6) rfl)))
      exact retV C (gs := []) d2_57 (dle rfl) (by omega) (fun _ q => nomatch q) ⟨rfl, rfl, E3, hcs, hl, b, z, vs, V3, C3, B3, hB⟩
  · have hn0 : cs = [] := by have e0 : (0 : Int32).toInt = 0 := rfl; have := congrArg Int32.toInt q1; exact List.eq_nil_of_length_eq_zero (by omega)
    subst hn0
    refine Own.aloadN C d2_8 rfl rfl ?_
    refine ldcS_ rfl C (text := "") (vs := []) (z := 0) (nn := 0) (hw _ (List.mem_of_getElem? (i := 18) rfl)) (wS hw) (by simp) ⟨by decide +kernel, by decide +kernel⟩ (by decide) (by decide) (by decide +kernel) (by decide) (dle rfl) (by omega) d2_9 (fun hp9 s9 b9 K9 E9 C9 V9 A9 ne9 => ?_)
    refine getF_ C (hw _ (List.mem_of_getElem? (i := 24) rfl)) V9 d2_11 ?_
    have E1 := E.keep K9
    have V1 := Fv.keep K9 nin0
    have C1 := Fc.keep K9 nin0
    refine putF_ C (v' := .ref b9) (ty := (.array .byte)) (hw _ (List.mem_of_getElem? (i := 24) rfl)) V1 E1 (Or.inr ⟨(hw _ (List.mem_of_getElem? (i := 20) rfl)), rfl, rfl⟩) (hw _ (List.mem_of_getElem? (i := 6) rfl)) (by decide) rfl rfl (by simp) d2_14 (fun hp10 W11 => ?_)
    have hne := slot_ne (Or.inr (hw _ (List.mem_of_getElem? (i := 20) rfl)) : Laid Z a0 "java/lang/String" "java/lang/String" "value" "[B") (Or.inr (hw _ (List.mem_of_getElem? (i := 21) rfl)) : Laid Z a0 "java/lang/String" "java/lang/String" "coder" "B") (by decide) (t := .array .byte) (t' := .byte) (by decide) (by decide)
    have E2 := E1.wr W11
    have V2 := V1.same W11
    have C2 := C1.other W11 (Or.inr hne.symm)
    have A2 := A9.other W11 (A9.neX E1 (hw _ (List.mem_of_getElem? (i := 6) rfl)))
    refine Own.aloadN C d2_17 rfl rfl ?_
    refine ldcS_ rfl C (text := "") (vs := []) (z := 0) (nn := 0) (hw _ (List.mem_of_getElem? (i := 18) rfl)) (wS hw) (by simp) ⟨by decide +kernel, by decide +kernel⟩ (by decide) (by decide) (by decide +kernel) (by decide) (dle rfl) (by omega) d2_18 (fun hp12 s12 b12 K12 E12 C12 V12 A12 ne12 => ?_)
    refine getF_ C (hw _ (List.mem_of_getElem? (i := 25) rfl)) C12 d2_20 ?_
    have E3 := E2.keep K12
    have V3 := V2.keep K12 nin0
    have C3 := C2.keep K12 nin0
    have A3 := A2.keep K12 nin0
    refine putF_ C (v' := .int (0 : Int32)) (ty := .byte) (hw _ (List.mem_of_getElem? (i := 25) rfl)) C3 E3 (Or.inr ⟨(hw _ (List.mem_of_getElem? (i := 21) rfl)), rfl, rfl⟩) (hw _ (List.mem_of_getElem? (i := 6) rfl)) (by decide) rfl rfl (by simp) d2_23 (fun hp13 W14 => ?_)
    have E4 := E3.wr W14
    have V4 := V3.other W14 (Or.inr hne)
    have C4 := C3.same W14
    have A4 := A3.other W14 (A3.neX E3 (hw _ (List.mem_of_getElem? (i := 6) rfl)))
    exact retV C (gs := []) d2_26 (dle rfl) (by omega) (fun _ q => nomatch q) ⟨rfl, rfl, E4, hcs, hl, b9, 0, [], V4, C4, A4, Or.inl ⟨by simp, rfl, rfl⟩⟩
set_option maxRecDepth 65536 in
set_option maxHeartbeats 4000000 in
theorem k_init {Z : State} {a0 : Array Value} (hw : ∀ d ∈ tables_1, d.before a0 Z = true) (hs : Stt Z) {n0 : Nat} {h0 : Heap} {N : Nat} {a b0 : Addr} {cs : List Int32} {u1 u2 : Value} (hcs : ∀ c ∈ cs, isCh c) (hl : cs.length ≤ 4096) (hN : cs.length ≤ N ∧ N ≤ 4096) (hlat : ∀ c ∈ cs, c.toInt < 256) (A : Ary Z h0 b0 .char (chs cs)) (E : Exa Z h0 a "java/lang/String") (Fv : Fld Z h0 a "java/lang/String" "value" "[B" u1) (Fc : Fld Z h0 a "java/lang/String" "coder" "B" u2) (O : Old Z n0 h0) :
    Con WD Z EL0 n0 (⟨"java/lang/String", "<init>", "([C)V"⟩ : MethodName) jdk_42_method_3_code 2 none (Rm 3 4 (8 + 1 * N) 52) [(.ref a), (.ref b0)] h0 [a] (fun v h gs => v = none ∧ gs = [] ∧ Str Z h a cs) := by
  refine Con.of (a0 := a0) (by first | (simp [plainName, overriddenIn]; done) | decide +kernel) (hEL hw) hWE O (L0 := #[.val (.ref a), .val (.ref b0)]) (fun m => by first | rfl | (simp [entryFrame, mkF, argsToLocals, Value.category]; done)) ?_
  intro K C hh
  have e2 := natI_toInt (i := cs.length) (by omega)
  refine Own.aloadN C d1_0 rfl rfl ?_
  refine Own.aloadN C d1_1 rfl rfl ?_
  refine Own.iconst (v := 0) C d1_2 rfl ?_
  refine Own.aloadN C d1_3 rfl rfl ?_
  refine arrlen C A (z := (natI cs.length)) (by rw [e2, chs_len]) d1_4 ?_
  refine Own.aconstNull C d1_5 ?_
  refine callI_ C (as' := [(.ref b0), (.int (0 : Int32)), (.int (natI cs.length)), .null]) (st := []) rfl (hw _ (List.mem_of_getElem? (i := 11) rfl)) (hw _ (List.mem_of_getElem? (i := 12) rfl)) (hw _ (List.mem_of_getElem? (i := 7) rfl)) (hw _ (List.mem_of_getElem? (i := 14) rfl)) ⟨by decide, by decide⟩ pd__28_5bCIILjava_2flang_2fVoid_3b_29V rfl (fun O => k_init4 (N := N) hw hs hcs hl hN hlat A E Fv Fc O) (by simp) rfl (dle rfl) (dle rfl) (dle rfl) (by omega) d1_6 rfl (fun v1 hp1 gs1 K1 Q1 => ?_)
  obtain ⟨rfl, rfl, S1⟩ := Q1
  show Go _ K Z _ n0 _ _ 9 #[.val (.ref a), .val (.ref b0)] [] hp1 _ _ _
  exact retV C (gs := []) d1_9 (dle rfl) (by omega) (fun _ q => nomatch q) ⟨rfl, rfl, S1⟩
set_option maxRecDepth 65536 in
set_option maxHeartbeats 4000000 in
theorem k_scoder {Z : State} {a0 : Array Value} (hw : ∀ d ∈ tables_1, d.before a0 Z = true) (hs : Stt Z) {n0 : Nat} {h0 : Heap} {a : Addr} {z : Int32} (hz : nar .byte z = z) (Fc : Fld Z h0 a "java/lang/String" "coder" "B" (.int z)) (O : Old Z n0 h0) :
    Con WD Z EL0 n0 (⟨"java/lang/String", "coder", "()B"⟩ : MethodName) jdk_42_method_152_code 1 (some .byte) (Rm 0 0 0 0) [(.ref a)] h0 [] (fun v h gs => v = some (.int z) ∧ gs = []) := by
  refine Con.of (a0 := a0) (by first | (simp [plainName, overriddenIn]; done) | decide +kernel) (hEL hw) hWE O (L0 := #[.val (.ref a)]) (fun m => by first | rfl | (simp [entryFrame, mkF, argsToLocals, Value.category]; done)) ?_
  intro K C hh
  obtain ⟨cv, hcv, Sc⟩ := st_c hs
  refine getS_ C (hw _ (List.mem_of_getElem? (i := 33) rfl)) Sc d11_0 ?_
  refine if_eq C d11_3 (fun q1 => ?_) (fun q1 => ?_)
  · exact absurd q1 hcv
  · refine Own.aloadN C d11_6 rfl rfl ?_
    refine getF_ C (hw _ (List.mem_of_getElem? (i := 25) rfl)) Fc d11_7 ?_
    refine Own.goto_ C d11_10 ?_
    exact retB C (gs := []) d11_14 (dle rfl) (dle rfl) (fun _ q => nomatch q) ⟨by rw [hz], rfl⟩
set_option maxRecDepth 65536 in
set_option maxHeartbeats 4000000 in
theorem k_length {Z : State} {a0 : Array Value} (hw : ∀ d ∈ tables_1, d.before a0 Z = true) (hs : Stt Z) {n0 : Nat} {h0 : Heap} {a : Addr} {cs : List Int32} (F : Str Z h0 a cs) (O : Old Z n0 h0) :
    Con WD Z EL0 n0 (⟨"java/lang/String", "length", "()I"⟩ : MethodName) jdk_42_method_54_code 1 (some .int) (Rm 1 0 0 13) [(.ref a)] h0 [] (fun v h gs => v = some (.int (natI cs.length)) ∧ gs = []) := by
  refine Con.of (a0 := a0) (by first | (simp [plainName, overriddenIn]; done) | decide +kernel) (hEL hw) hWE O (L0 := #[.val (.ref a)]) (fun m => by first | rfl | (simp [entryFrame, mkF, argsToLocals, Value.category]; done)) ?_
  intro K C hh
  obtain ⟨E, hc1, hl1, b, z, vs, Fv, Fc, A, Bt⟩ := F
  obtain ⟨y, hy⟩ : ∃ y : Int32, y.toInt = vs.length := ⟨natI vs.length, natI_toInt (Byt.len_lt Bt hl1)⟩
  refine Own.aloadN C d10_0 rfl rfl ?_
  refine getF_ C (hw _ (List.mem_of_getElem? (i := 24) rfl)) Fv d10_1 ?_
  refine arrlen C A (z := y) hy d10_4 ?_
  refine Own.aloadN C d10_5 rfl rfl ?_
  refine callV_ C (as' := []) (st := [(.int y)]) (hw _ (List.mem_of_getElem? (i := 52) rfl)) (hw _ (List.mem_of_getElem? (i := 53) rfl)) (fun _ hZ => notFace_of_selects (args := #[]) (mvT hZ (hw _ (List.mem_of_getElem? (i := 55) rfl)))) (hw _ (List.mem_of_getElem? (i := 55) rfl)) (hw _ (List.mem_of_getElem? (i := 54) rfl)) (hw _ (List.mem_of_getElem? (i := 7) rfl)) (hw _ (List.mem_of_getElem? (i := 56) rfl)) ⟨by decide, by decide⟩ E pd__28_29B rfl (fun O => k_scoder hw hs Bt.nb Fc O) (fun _ q => nomatch q) rfl (dle rfl) (dle rfl) (dle rfl) (dle rfl) d10_6 rfl (fun v1 hp1 gs1 K1 Q1 => ?_)
  obtain ⟨rfl, rfl⟩ := Q1
  show Go _ K Z _ n0 _ _ 9 #[.val (.ref a)] [(.int z), (.int y)] hp1 _ _ _
  refine Own.ishr C d10_9 ?_
  exact retI_ C (gs := []) d10_10 (dle rfl) (dle rfl) (fun _ q => nomatch q) ⟨by rw [Bt.isr hl1 hy], rfl⟩
def fold (c : Int32) : Int32 := if ¬ c < 65 ∧ ¬ 90 < c then c + 32 else if ¬ c < 192 ∧ ¬ 222 < c ∧ ¬ c = 215 then c + 32 else c
def eqv (a b : Int32) : Int32 := if a = b ∨ fold a = fold b then 1 else 0
/-- CharacterDataLatin1.equalsIgnoreCase -/
def eic (x y : Int32) : Int32 := if x = y then 1 else if (x &&& 223) < 65 then 0 else if ¬ 90 < (x &&& 223) ∨ (¬ (x &&& 223) < 192 ∧ ¬ 222 < (x &&& 223) ∧ ¬ (x &&& 223) = 215) then (if (x &&& 223) = (y &&& 223) then 1 else 0) else 0
theorem eic01 (x y : Int32) : eic x y = 0 ∨ eic x y = 1 := by
  unfold eic
  split
  · exact Or.inr rfl
  · split
    · exact Or.inl rfl
    · split
      · split
        · exact Or.inr rfl
        · exact Or.inl rfl
      · exact Or.inl rfl
theorem eqv01 (x y : Int32) : eqv x y = 0 ∨ eqv x y = 1 := by
  unfold eqv; split
  · exact Or.inr rfl
  · exact Or.inl rfl
/-- the first n of xs and ys, letter case aside -/
def rmt : List Int32 → List Int32 → Nat → Bool
  | _, _, 0 => true
  | x :: xs, y :: ys, n + 1 => decide (eic (nar .byte x) (nar .byte y) = 1) && rmt xs ys n
  | _, _, _ + 1 => false
theorem rmt_zero (xs ys : List Int32) : rmt xs ys 0 = true := by cases xs <;> cases ys <;> rfl
theorem rmt_step {xs ys : List Int32} {i j n : Nat} {x y : Int32} (hx : xs[i]? = some x) (hy : ys[j]? = some y) : rmt (xs.drop i) (ys.drop j) (n + 1) = (decide (eic (nar .byte x) (nar .byte y) = 1) && rmt (xs.drop (i + 1)) (ys.drop (j + 1)) n) := by
  obtain ⟨h1, rfl⟩ := List.getElem?_eq_some_iff.mp hx
  obtain ⟨h2, rfl⟩ := List.getElem?_eq_some_iff.mp hy
  rw [List.drop_eq_getElem_cons h1, List.drop_eq_getElem_cons h2]
  rfl

set_option maxRecDepth 65536 in
set_option maxHeartbeats 4000000 in
theorem k_eic {Z : State} {a0 : Array Value} (hw : ∀ d ∈ tables_1, d.before a0 Z = true) (hs : Stt Z) {n0 : Nat} {h0 : Heap} {p p' : Int32} (O : Old Z n0 h0) :
    Con WD Z EL0 n0 (⟨"java/lang/CharacterDataLatin1", "equalsIgnoreCase", "(BB)Z"⟩ : MethodName) jdk_116_method_22_code 3 (some .boolean) (Rm 0 0 0 0) [(.int p), (.int p')] h0 [] (fun v h gs => v = some (.int (eic p p')) ∧ gs = []) := by
  refine Con.of (a0 := a0) (by first | (simp [plainName, overriddenIn]; done) | decide +kernel) (hEL hw) hWE O (L0 := #[.val (.int p), .val (.int p'), .unset]) (fun m => by first | rfl | (simp [entryFrame, mkF, argsToLocals, Value.category]; done)) ?_
  intro K C hh
  refine Own.iloadN C d16_0 rfl ?_
  refine Own.iloadN C d16_1 rfl ?_
  refine icmp_ne C d16_2 (fun q1 => ?_) (fun q1 => ?_)
  · refine Own.iloadN C d16_7 rfl ?_
    refine Own.sipush (v := 223) C d16_8 rfl ?_
    refine Own.iand C d16_11 ?_
    refine Own.istoreN (L' := #[.val (.int p), .val (.int p'), .val (.int (p &&& (223 : Int32)))]) C d16_12 rfl ?_
    refine Own.iloadN C d16_13 rfl ?_
    refine Own.bipush (v := 65) C d16_14 rfl ?_
    refine icmp_ge C d16_16 (fun q2 => ?_) (fun q2 => ?_)
    · refine Own.iloadN C d16_21 rfl ?_
      refine Own.bipush (v := 90) C d16_22 rfl ?_
      refine icmp_le C d16_24 (fun q3 => ?_) (fun q3 => ?_)
      · refine Own.iloadN C d16_48 rfl ?_
        refine Own.iloadN C d16_49 rfl ?_
        refine Own.sipush (v := 223) C d16_50 rfl ?_
        refine Own.iand C d16_53 ?_
        refine icmp_ne C d16_54 (fun q4 => ?_) (fun q4 => ?_)
        · refine Own.iconst (v := 0) C d16_61 rfl ?_
          exact retZ C (gs := []) d16_62 (dle rfl) (dle rfl) (fun _ q => nomatch q) ⟨by rw [show eic p p' = 0 by simp_all [eic]]; rfl, rfl⟩
        · refine Own.iconst (v := 1) C d16_57 rfl ?_
          refine Own.goto_ C d16_58 ?_
          exact retZ C (gs := []) d16_62 (dle rfl) (dle rfl) (fun _ q => nomatch q) ⟨by rw [show eic p p' = 1 by simp_all [eic]]; rfl, rfl⟩
      · refine Own.iloadN C d16_27 rfl ?_
        refine Own.sipush (v := 192) C d16_28 rfl ?_
        refine icmp_lt C d16_31 (fun q5 => ?_) (fun q5 => ?_)
        · refine Own.iconst (v := 0) C d16_61 rfl ?_
          exact retZ C (gs := []) d16_62 (dle rfl) (dle rfl) (fun _ q => nomatch q) ⟨by rw [show eic p p' = 0 by simp_all [eic]]; rfl, rfl⟩
        · refine Own.iloadN C d16_34 rfl ?_
          refine Own.sipush (v := 222) C d16_35 rfl ?_
          refine icmp_gt C d16_38 (fun q6 => ?_) (fun q6 => ?_)
          · refine Own.iconst (v := 0) C d16_61 rfl ?_
            exact retZ C (gs := []) d16_62 (dle rfl) (dle rfl) (fun _ q => nomatch q) ⟨by rw [show eic p p' = 0 by simp_all [eic]]; rfl, rfl⟩
          · refine Own.iloadN C d16_41 rfl ?_
            refine Own.sipush (v := 215) C d16_42 rfl ?_
            refine icmp_eq C d16_45 (fun q7 => ?_) (fun q7 => ?_)
            · refine Own.iconst (v := 0) C d16_61 rfl ?_
              exact retZ C (gs := []) d16_62 (dle rfl) (dle rfl) (fun _ q => nomatch q) ⟨by rw [show eic p p' = 0 by simp_all [eic]]; rfl, rfl⟩
            · refine Own.iloadN C d16_48 rfl ?_
              refine Own.iloadN C d16_49 rfl ?_
              refine Own.sipush (v := 223) C d16_50 rfl ?_
              refine Own.iand C d16_53 ?_
              refine icmp_ne C d16_54 (fun q8 => ?_) (fun q8 => ?_)
              · refine Own.iconst (v := 0) C d16_61 rfl ?_
                exact retZ C (gs := []) d16_62 (dle rfl) (dle rfl) (fun _ q => nomatch q) ⟨by rw [show eic p p' = 0 by simp_all [eic]]; rfl, rfl⟩
              · refine Own.iconst (v := 1) C d16_57 rfl ?_
                refine Own.goto_ C d16_58 ?_
                exact retZ C (gs := []) d16_62 (dle rfl) (dle rfl) (fun _ q => nomatch q) ⟨by rw [show eic p p' = 1 by simp_all [eic]]; rfl, rfl⟩
    · refine Own.iconst (v := 0) C d16_19 rfl ?_
      exact retZ C (gs := []) d16_20 (dle rfl) (dle rfl) (fun _ q => nomatch q) ⟨by rw [show eic p p' = 0 by simp_all [eic]]; rfl, rfl⟩
  · refine Own.iconst (v := 1) C d16_5 rfl ?_
    exact retZ C (gs := []) d16_6 (dle rfl) (dle rfl) (fun _ q => nomatch q) ⟨by rw [show eic p p' = 1 by simp [eic, q1]]; rfl, rfl⟩
set_option maxRecDepth 65536 in
set_option maxHeartbeats 4000000 in
theorem k_rmci {Z : State} {a0 : Array Value} (hw : ∀ d ∈ tables_1, d.before a0 Z = true) (hs : Stt Z) {n0 : Nat} {h0 : Heap} {a b : Addr} {xs ys : List Int32} {t n : Nat} (hx : xs.length ≤ 4096) (hy : ys.length ≤ 4096) (ht : t + n ≤ xs.length) (hn : n ≤ ys.length) (A : Ary Z h0 a .byte (lat xs)) (B : Ary Z h0 b .byte (lat ys)) (O : Old Z n0 h0) :
    Con WD Z EL0 n0 (⟨"java/lang/StringLatin1", "regionMatchesCI", "([BI[BII)Z"⟩ : MethodName) jdk_43_method_30_code 8 (some .boolean) (Rm 1 0 0 14) [(.ref a), (.int (natI t)), (.ref b), (.int (0 : Int32)), (.int (natI n))] h0 [] (fun v h gs => v = some (.int (if rmt (xs.drop t) ys n = true then 1 else 0)) ∧ gs = []) := by
  refine Con.of (a0 := a0) (by first | (simp [plainName, overriddenIn]; done) | decide +kernel) (hEL hw) hWE O (L0 := #[.val (.ref a), .val (.int (natI t)), .val (.ref b), .val (.int (0 : Int32)), .val (.int (natI n)), .unset, .unset, .unset]) (fun m => by first | rfl | (simp [entryFrame, mkF, argsToLocals, Value.category]; done)) ?_
  intro K C hh
  have ee := natI_toInt (i := t + n) (by omega)
  have loop : ∀ (m j : Nat) (h : Heap) (s6 s7 : Slot), j + m = n → rmt (xs.drop t) ys n = rmt (xs.drop (t + j)) (ys.drop j) m → (s6 = .unset ∨ ∃ w, s6 = .val w ∧ w.category = 1) → (s7 = .unset ∨ ∃ w, s7 = .val w ∧ w.category = 1) → Ary Z h a .byte (lat xs) → Ary Z h b .byte (lat ys) → Go WD K Z EL0 n0 [] (fun v h gs => v = some (.int (if rmt (xs.drop t) ys n = true then 1 else 0)) ∧ gs = []) 6 #[.val (.ref a), .val (.int (natI (t + j))), .val (.ref b), .val (.int (natI j)), .val (.int (natI n)), .val (.int (natI (t + n))), s6, s7] [] h [] 0 0 := by
    intro m
    induction m with
    | zero =>
      intro j h s6 s7 hm hr hs6 hs7 A B
      have e1 := natI_toInt (i := t + j) (by omega)
      have e2 := natI_toInt (i := j) (by omega)
      refine Own.iloadN C d13_6 rfl ?_
      refine Own.iload C d13_7 rfl ?_
      refine icmp_ge C d13_9 (fun q1 => ?_) (fun q1 => ?_)
      · refine Own.iconst (v := 1) C d13_43 rfl ?_
        exact retZ C (gs := []) d13_44 (dle rfl) (dle rfl) (fun _ q => nomatch q) ⟨by rw [hr, rmt_zero]; rfl, rfl⟩
      · rw [lt32] at q1
        omega
    | succ m ih =>
      intro j h s6 s7 hm hr hs6 hs7 A B
      have e1 := natI_toInt (i := t + j) (by omega)
      have e2 := natI_toInt (i := j) (by omega)
      refine Own.iloadN C d13_6 rfl ?_
      refine Own.iload C d13_7 rfl ?_
      refine icmp_ge C d13_9 (fun q2 => ?_) (fun q2 => ?_)
      · rw [lt32] at q2
        omega
      · obtain ⟨c, hc⟩ : ∃ c, xs[t + j]? = some c := ⟨_, List.getElem?_eq_getElem (by omega)⟩
        obtain ⟨d, hd⟩ : ∃ d, ys[j]? = some d := ⟨_, List.getElem?_eq_getElem (by omega)⟩
        rw [rmt_step hc hd] at hr
        have e3 := natI_succ (i := t + j) (by omega)
        have e4 := natI_succ (i := j) (by omega)
        refine Own.aloadN C d13_12 rfl rfl ?_
        refine Own.iloadN C d13_13 rfl ?_
        refine Own.iinc (L' := #[.val (.ref a), .val (.int (natI (t + j + 1))), .val (.ref b), .val (.int (natI j)), .val (.int (natI n)), .val (.int (natI (t + n))), s6, s7]) (y := (natI (t + j + 1))) C d13_14 rfl e3 rfl ?_
        refine baload_ C (v := .int (nar .byte c)) A (t + j) e1 (lat_at hc) d13_17 ?_
        refine Own.istore (L' := #[.val (.ref a), .val (.int (natI (t + j + 1))), .val (.ref b), .val (.int (natI j)), .val (.int (natI n)), .val (.int (natI (t + n))), .val (.int (nar .byte c)), s7]) C d13_18 (st1 rfl hs6 rfl rfl) ?_
        refine Own.aloadN C d13_20 rfl rfl ?_
        refine Own.iloadN C d13_21 rfl ?_
        refine Own.iinc (L' := #[.val (.ref a), .val (.int (natI (t + j + 1))), .val (.ref b), .val (.int (natI (j + 1))), .val (.int (natI n)), .val (.int (natI (t + n))), .val (.int (nar .byte c)), s7]) (y := (natI (j + 1))) C d13_22 rfl e4 rfl ?_
        refine baload_ C (v := .int (nar .byte d)) B j e2 (lat_at hd) d13_25 ?_
        refine Own.istore (L' := #[.val (.ref a), .val (.int (natI (t + j + 1))), .val (.ref b), .val (.int (natI (j + 1))), .val (.int (natI n)), .val (.int (natI (t + n))), .val (.int (nar .byte c)), .val (.int (nar .byte d))]) C d13_26 (st1 rfl hs7 rfl rfl) ?_
        refine Own.iload C d13_28 rfl ?_
        refine Own.iload C d13_30 rfl ?_
        refine callS_ C (as := [(.int (nar .byte c)), (.int (nar .byte d))]) (st := []) (hw _ (List.mem_of_getElem? (i := 73) rfl)) (hw _ (List.mem_of_getElem? (i := 74) rfl)) (hw _ (List.mem_of_getElem? (i := 75) rfl)) (hw _ (List.mem_of_getElem? (i := 76) rfl)) ⟨by decide, by decide⟩ pd__28BB_29Z rfl (fun O => k_eic hw hs O) (fun _ q => nomatch q) rfl (dle rfl) (dle rfl) (dle rfl) (dle rfl) d13_32 rfl (fun v3 hp3 gs3 K3 Q3 => ?_)
        obtain ⟨rfl, rfl⟩ := Q3
        show Go _ K Z _ n0 _ _ 35 #[.val (.ref a), .val (.int (natI (t + j + 1))), .val (.ref b), .val (.int (natI (j + 1))), .val (.int (natI n)), .val (.int (natI (t + n))), .val (.int (nar .byte c)), .val (.int (nar .byte d))] [(.int (eic (nar .byte c) (nar .byte d)))] hp3 _ _ _
        refine if_eq C d13_35 (fun q4 => ?_) (fun q4 => ?_)
        · refine Own.iconst (v := 0) C d13_41 rfl ?_
          exact retZ C (gs := []) d13_42 (dle rfl) (dle rfl) (fun _ q => nomatch q) ⟨by rw [hr, q4]; rfl, rfl⟩
        · have e5 := (eic01 _ _).resolve_left q4
          rw [e5] at hr
          refine Own.goto_ C d13_38 ?_
          exact ih (j + 1) _ _ _ (by omega) (by rw [hr]; rfl) (Or.inr ⟨_, rfl, rfl⟩) (Or.inr ⟨_, rfl, rfl⟩) (A.keep K3 nin0) (B.keep K3 nin0)
  have e0 : natI t + natI n = natI (t + n) := i32e (by have a1 := natI_toInt (i := t) (by omega); have a2 := natI_toInt (i := n) (by omega); have a3 := c_iadd (natI t) (natI n); have a4 := rng32 (natI t + natI n); omega)
  refine Own.iloadN C d13_0 rfl ?_
  refine Own.iload C d13_1 rfl ?_
  refine Own.iadd C d13_3 ?_
  rw [e0]
  show Go _ K Z _ n0 _ _ 4 #[.val (.ref a), .val (.int (natI t)), .val (.ref b), .val (.int (0 : Int32)), .val (.int (natI n)), .unset, .unset, .unset] [(.int (natI (t + n)))] h0 _ _ _
  refine Own.istore (L' := #[.val (.ref a), .val (.int (natI t)), .val (.ref b), .val (.int (0 : Int32)), .val (.int (natI n)), .val (.int (natI (t + n))), .unset, .unset]) C d13_4 rfl ?_
  exact loop n 0 h0 .unset .unset (by omega) (by simp) (Or.inl rfl) (Or.inl rfl) A B
set_option maxRecDepth 65536 in
set_option maxHeartbeats 4000000 in
theorem k_rm {Z : State} {a0 : Array Value} (hw : ∀ d ∈ tables_1, d.before a0 Z = true) (hs : Stt Z) {n0 : Nat} {h0 : Heap} {a b0 : Addr} {xs ys : List Int32} {t : Nat} (F : Str Z h0 a xs) (G : Str Z h0 b0 ys) (hxs : ∀ c ∈ xs, c.toInt < 256) (hys : ∀ c ∈ ys, c.toInt < 256) (ht : t ≤ 4096) (O : Old Z n0 h0) :
    Con WD Z EL0 n0 (⟨"java/lang/String", "regionMatches", "(ZILjava/lang/String;II)Z"⟩ : MethodName) jdk_42_method_74_code 9 (some .boolean) (Rm 2 0 0 33) [(.ref a), (.int (1 : Int32)), (.int (natI t)), (.ref b0), (.int (0 : Int32)), (.int (natI ys.length))] h0 [] (fun v h gs => v = some (.int (if t + ys.length ≤ xs.length ∧ rmt (xs.drop t) ys ys.length = true then 1 else 0)) ∧ gs = []) := by
  refine Con.of (a0 := a0) (by first | (simp [plainName, overriddenIn]; done) | decide +kernel) (hEL hw) hWE O (L0 := #[.val (.ref a), .val (.int (1 : Int32)), .val (.int (natI t)), .val (.ref b0), .val (.int (0 : Int32)), .val (.int (natI ys.length)), .unset, .unset, .unset]) (fun m => by first | rfl | (simp [entryFrame, mkF, argsToLocals, Value.category]; done)) ?_
  intro K C hh
  have F' := F
  have G' := G
  have lF := F.2.2.1
  have lG := G.2.2.1
  have et := natI_toInt (i := t) (by omega)
  have ex := natI_toInt (i := xs.length) (by omega)
  have ey := natI_toInt (i := ys.length) (by omega)
  have l1 : (lcmpW (natI t).toInt64 ((natI xs.length).toInt64 - (natI ys.length).toInt64)).toInt = if t + ys.length ≤ xs.length then (if t + ys.length = xs.length then 0 else -1) else 1 := by
    have a1 := c_i2l (natI t)
    have a2 := c_i2l (natI xs.length)
    have a3 := c_i2l (natI ys.length)
    have a4 := c_lsub (natI xs.length).toInt64 (natI ys.length).toInt64
    have a5 := rng64 ((natI xs.length).toInt64 - (natI ys.length).toInt64)
    obtain ⟨b1, b2, b3⟩ := c_lcmp (natI t).toInt64 ((natI xs.length).toInt64 - (natI ys.length).toInt64)
    by_cases q : t + ys.length ≤ xs.length
    · rw [if_pos q]
      by_cases q2 : t + ys.length = xs.length
      · rw [if_pos q2]; exact b2 (by omega)
      · rw [if_neg q2]; exact b1 (by omega)
    · rw [if_neg q]; exact b3 (by omega)
  have l2 : (lcmpW (0 : Int32).toInt64 ((natI ys.length).toInt64 - (natI ys.length).toInt64)).toInt = 0 := by
    have a3 := c_i2l (natI ys.length)
    have a1 := c_i2l 0
    have a4 := c_lsub (natI ys.length).toInt64 (natI ys.length).toInt64
    have a5 := rng64 ((natI ys.length).toInt64 - (natI ys.length).toInt64)
    have a0 : (0 : Int32).toInt = 0 := rfl
    exact (c_lcmp (0 : Int32).toInt64 ((natI ys.length).toInt64 - (natI ys.length).toInt64)).2.1 (by omega)
  have z0 : (0 : Int32).toInt = 0 := rfl
  refine Own.iloadN C d12_0 rfl ?_
  refine if_ne C d12_1 (fun q1 => ?_) (fun q1 => ?_)
  · refine Own.iload C d12_15 rfl ?_
    refine if_lt C d12_17 (fun q2 => ?_) (fun q2 => ?_)
    · exact absurd q2 (by decide)
    · refine Own.iloadN C d12_20 rfl ?_
      refine if_lt C d12_21 (fun q3 => ?_) (fun q3 => ?_)
      · rw [lt32, et, z0] at q3
        omega
      · refine Own.iloadN C d12_24 rfl ?_
        refine Own.i2l C d12_25 ?_
        refine Own.aloadN C d12_26 rfl rfl ?_
        refine callV_ C (as' := []) (st := [(.long (Int32.toInt64 (natI t)))]) (hw _ (List.mem_of_getElem? (i := 62) rfl)) (hw _ (List.mem_of_getElem? (i := 48) rfl)) (fun _ hZ => notFace_of_selects (args := #[]) (mvT hZ (hw _ (List.mem_of_getElem? (i := 50) rfl)))) (hw _ (List.mem_of_getElem? (i := 50) rfl)) (hw _ (List.mem_of_getElem? (i := 49) rfl)) (hw _ (List.mem_of_getElem? (i := 7) rfl)) (hw _ (List.mem_of_getElem? (i := 51) rfl)) ⟨by decide, by decide⟩ F.1 pd__28_29I rfl (fun O => k_length hw hs F O) (fun _ q => nomatch q) rfl (dle rfl) (dle rfl) (dle rfl) (dle rfl) d12_27 rfl (fun v4 hp4 gs4 K4 Q4 => ?_)
        obtain ⟨rfl, rfl⟩ := Q4
        show Go _ K Z _ n0 _ _ 30 #[.val (.ref a), .val (.int (1 : Int32)), .val (.int (natI t)), .val (.ref b0), .val (.int (0 : Int32)), .val (.int (natI ys.length)), .unset, .unset, .unset] [(.int (natI xs.length)), (.long (Int32.toInt64 (natI t)))] hp4 _ _ _
        have F := F.keep K4
        have G := G.keep K4
        refine Own.i2l C d12_30 ?_
        refine Own.iload C d12_31 rfl ?_
        refine Own.i2l C d12_33 ?_
        refine Own.lsub C d12_34 ?_
        refine Own.lcmp C d12_35 ?_
        refine if_gt C d12_36 (fun q5 => ?_) (fun q5 => ?_)
        · have hno : ¬ t + ys.length ≤ xs.length := fun z => by rw [lt32, l1, if_pos z, z0] at q5; split at q5 <;> omega
          refine Own.iconst (v := 0) C d12_55 rfl ?_
          exact retZ C (gs := []) d12_56 (dle rfl) (dle rfl) (fun _ q => nomatch q) ⟨by rw [if_neg (fun z => hno z.1)]; rfl, rfl⟩
        · have hle : t + ys.length ≤ xs.length := by by_cases z : t + ys.length ≤ xs.length; exact z; rw [lt32, l1, if_neg z, z0] at q5; omega
          refine Own.iload C d12_39 rfl ?_
          refine Own.i2l C d12_41 ?_
          refine Own.aloadN C d12_42 rfl rfl ?_
          refine callV_ C (as' := []) (st := [(.long (Int32.toInt64 (0 : Int32)))]) (hw _ (List.mem_of_getElem? (i := 62) rfl)) (hw _ (List.mem_of_getElem? (i := 48) rfl)) (fun _ hZ => notFace_of_selects (args := #[]) (mvT hZ (hw _ (List.mem_of_getElem? (i := 50) rfl)))) (hw _ (List.mem_of_getElem? (i := 50) rfl)) (hw _ (List.mem_of_getElem? (i := 49) rfl)) (hw _ (List.mem_of_getElem? (i := 7) rfl)) (hw _ (List.mem_of_getElem? (i := 51) rfl)) ⟨by decide, by decide⟩ G.1 pd__28_29I rfl (fun O => k_length hw hs G O) (fun _ q => nomatch q) rfl (dle rfl) (dle rfl) (dle rfl) (dle rfl) d12_43 rfl (fun v6 hp6 gs6 K6 Q6 => ?_)
          obtain ⟨rfl, rfl⟩ := Q6
          show Go _ K Z _ n0 _ _ 46 #[.val (.ref a), .val (.int (1 : Int32)), .val (.int (natI t)), .val (.ref b0), .val (.int (0 : Int32)), .val (.int (natI ys.length)), .unset, .unset, .unset] [(.int (natI ys.length)), (.long (Int32.toInt64 (0 : Int32)))] hp6 _ _ _
          have F := F.keep K6
          have G := G.keep K6
          refine Own.i2l C d12_46 ?_
          refine Own.iload C d12_47 rfl ?_
          refine Own.i2l C d12_49 ?_
          refine Own.lsub C d12_50 ?_
          refine Own.lcmp C d12_51 ?_
          refine if_le C d12_52 (fun q7 => ?_) (fun q7 => ?_)
          · obtain ⟨E, hc1, hl1, b, z, vs, Fv, Fc, A, Bt⟩ := F
            obtain ⟨E', hc2, hl2, b', z', vs', Fv', Fc', A', Bt'⟩ := G
            obtain ⟨rfl, rfl⟩ : z = 0 ∧ vs = lat xs := by rcases Bt with ⟨-, p, q⟩ | ⟨⟨c, hc, p⟩, -⟩; exact ⟨p, q⟩; exact absurd (hxs c hc) (by omega)
            obtain ⟨rfl, rfl⟩ : z' = 0 ∧ vs' = lat ys := by rcases Bt' with ⟨-, p, q⟩ | ⟨⟨c, hc, p⟩, -⟩; exact ⟨p, q⟩; exact absurd (hys c hc) (by omega)
            refine Own.aloadN C d12_57 rfl rfl ?_
            refine getF_ C (hw _ (List.mem_of_getElem? (i := 24) rfl)) Fv d12_58 ?_
            refine Own.astore (L' := #[.val (.ref a), .val (.int (1 : Int32)), .val (.int (natI t)), .val (.ref b0), .val (.int (0 : Int32)), .val (.int (natI ys.length)), .val (.ref b), .unset, .unset]) C d12_61 rfl rfl ?_
            refine Own.aloadN C d12_63 rfl rfl ?_
            refine getF_ C (hw _ (List.mem_of_getElem? (i := 24) rfl)) Fv' d12_64 ?_
            refine Own.astore (L' := #[.val (.ref a), .val (.int (1 : Int32)), .val (.int (natI t)), .val (.ref b0), .val (.int (0 : Int32)), .val (.int (natI ys.length)), .val (.ref b), .val (.ref b'), .unset]) C d12_67 rfl rfl ?_
            refine Own.aloadN C d12_69 rfl rfl ?_
            refine callV_ C (as' := []) (st := []) (hw _ (List.mem_of_getElem? (i := 52) rfl)) (hw _ (List.mem_of_getElem? (i := 53) rfl)) (fun _ hZ => notFace_of_selects (args := #[]) (mvT hZ (hw _ (List.mem_of_getElem? (i := 55) rfl)))) (hw _ (List.mem_of_getElem? (i := 55) rfl)) (hw _ (List.mem_of_getElem? (i := 54) rfl)) (hw _ (List.mem_of_getElem? (i := 7) rfl)) (hw _ (List.mem_of_getElem? (i := 56) rfl)) ⟨by decide, by decide⟩ E pd__28_29B rfl (fun O => k_scoder hw hs rfl Fc O) (fun _ q => nomatch q) rfl (dle rfl) (dle rfl) (dle rfl) (dle rfl) d12_70 rfl (fun v8 hp8 gs8 K8 Q8 => ?_)
            obtain ⟨rfl, rfl⟩ := Q8
            show Go _ K Z _ n0 _ _ 73 #[.val (.ref a), .val (.int (1 : Int32)), .val (.int (natI t)), .val (.ref b0), .val (.int (0 : Int32)), .val (.int (natI ys.length)), .val (.ref b), .val (.ref b'), .unset] [(.int (0 : Int32))] hp8 _ _ _
            refine Own.istore (L' := #[.val (.ref a), .val (.int (1 : Int32)), .val (.int (natI t)), .val (.ref b0), .val (.int (0 : Int32)), .val (.int (natI ys.length)), .val (.ref b), .val (.ref b'), .val (.int (0 : Int32))]) C d12_73 rfl ?_
            refine Own.iload C d12_75 rfl ?_
            refine Own.aloadN C d12_77 rfl rfl ?_
            refine callV_ C (as' := []) (st := [(.int (0 : Int32))]) (hw _ (List.mem_of_getElem? (i := 52) rfl)) (hw _ (List.mem_of_getElem? (i := 53) rfl)) (fun _ hZ => notFace_of_selects (args := #[]) (mvT hZ (hw _ (List.mem_of_getElem? (i := 55) rfl)))) (hw _ (List.mem_of_getElem? (i := 55) rfl)) (hw _ (List.mem_of_getElem? (i := 54) rfl)) (hw _ (List.mem_of_getElem? (i := 7) rfl)) (hw _ (List.mem_of_getElem? (i := 56) rfl)) ⟨by decide, by decide⟩ (E'.keep K8) pd__28_29B rfl (fun O => k_scoder hw hs rfl (Fc'.keep K8 nin0) O) (fun _ q => nomatch q) rfl (dle rfl) (dle rfl) (dle rfl) (dle rfl) d12_78 rfl (fun v9 hp9 gs9 K9 Q9 => ?_)
            obtain ⟨rfl, rfl⟩ := Q9
            show Go _ K Z _ n0 _ _ 81 #[.val (.ref a), .val (.int (1 : Int32)), .val (.int (natI t)), .val (.ref b0), .val (.int (0 : Int32)), .val (.int (natI ys.length)), .val (.ref b), .val (.ref b'), .val (.int (0 : Int32))] [(.int (0 : Int32)), (.int (0 : Int32))] hp9 _ _ _
            have KK := K8.trans K9 (fun _ q => nomatch q)
            refine icmp_ne C d12_81 (fun q10 => ?_) (fun q10 => ?_)
            · exact absurd rfl q10
            · refine Own.iload C d12_84 rfl ?_
              refine if_ne C d12_86 (fun q11 => ?_) (fun q11 => ?_)
              · exact absurd rfl q11
              · refine Own.aload C d12_89 rfl rfl ?_
                refine Own.iloadN C d12_91 rfl ?_
                refine Own.aload C d12_92 rfl rfl ?_
                refine Own.iload C d12_94 rfl ?_
                refine Own.iload C d12_96 rfl ?_
                refine callS_ C (as := [(.ref b), (.int (natI t)), (.ref b'), (.int (0 : Int32)), (.int (natI ys.length))]) (st := []) (hw _ (List.mem_of_getElem? (i := 63) rfl)) (hw _ (List.mem_of_getElem? (i := 64) rfl)) (hw _ (List.mem_of_getElem? (i := 65) rfl)) (hw _ (List.mem_of_getElem? (i := 66) rfl)) ⟨by decide, by decide⟩ pd__28_5bBI_5bBII_29Z rfl (fun O => k_rmci hw hs hl1 hl2 hle (Nat.le_refl _) (A.keep KK nin0) (A'.keep KK nin0) O) (fun _ q => nomatch q) rfl (dle rfl) (dle rfl) (dle rfl) (dle rfl) d12_98 rfl (fun v12 hp12 gs12 K12 Q12 => ?_)
                obtain ⟨rfl, rfl⟩ := Q12
                show Go _ K Z _ n0 _ _ 101 #[.val (.ref a), .val (.int (1 : Int32)), .val (.int (natI t)), .val (.ref b0), .val (.int (0 : Int32)), .val (.int (natI ys.length)), .val (.ref b), .val (.ref b'), .val (.int (0 : Int32))] [(.int (if rmt (xs.drop t) ys ys.length = true then 1 else 0))] hp12 _ _ _
                refine Own.goto_ C d12_101 ?_
                exact retZ C (gs := []) d12_116 (dle rfl) (dle rfl) (fun _ q => nomatch q) ⟨by by_cases z : rmt (xs.drop t) ys ys.length = true; rw [if_pos z, if_pos ⟨hle, z⟩]; rfl; rw [if_neg z, if_neg (fun w => z w.2)]; rfl, rfl⟩
          · rw [lt32, l2, z0] at q7
            omega
  · exact absurd q1 (by decide)
set_option maxRecDepth 65536 in
set_option maxHeartbeats 4000000 in
theorem k_fold {Z : State} {a0 : Array Value} (hw : ∀ d ∈ tables_1, d.before a0 Z = true) (hs : Stt Z) {n0 : Nat} {h0 : Heap} {p : Int32} (O : Old Z n0 h0) :
    Con WD Z EL0 n0 (⟨"com/example/harnessd/harnessd/model/SearchContainsPinLaw", "fold", "(C)I"⟩ : MethodName) method_5_code 1 (some .int) (Rm 0 0 0 0) [(.int p)] h0 [] (fun v h gs => v = some (.int (fold p)) ∧ gs = []) := by
  refine Con.of (a0 := a0) (by first | (simp [plainName, overriddenIn]; done) | decide +kernel) (hEL hw) hWE O (L0 := #[.val (.int p)]) (fun m => by first | rfl | (simp [entryFrame, mkF, argsToLocals, Value.category]; done)) ?_
  intro K C hh
  refine Own.iloadN C d15_0 rfl ?_
  refine Own.bipush (v := 65) C d15_1 rfl ?_
  refine icmp_lt C d15_3 (fun q1 => ?_) (fun q1 => ?_)
  · refine Own.iloadN C d15_17 rfl ?_
    refine Own.sipush (v := 192) C d15_18 rfl ?_
    refine icmp_lt C d15_21 (fun q2 => ?_) (fun q2 => ?_)
    · refine Own.iloadN C d15_43 rfl ?_
      exact retI_ C (gs := []) d15_44 (dle rfl) (dle rfl) (fun _ q => nomatch q) ⟨by simp_all [fold], rfl⟩
    · refine Own.iloadN C d15_24 rfl ?_
      refine Own.sipush (v := 222) C d15_25 rfl ?_
      refine icmp_gt C d15_28 (fun q3 => ?_) (fun q3 => ?_)
      · refine Own.iloadN C d15_43 rfl ?_
        exact retI_ C (gs := []) d15_44 (dle rfl) (dle rfl) (fun _ q => nomatch q) ⟨by simp_all [fold], rfl⟩
      · refine Own.iloadN C d15_31 rfl ?_
        refine Own.sipush (v := 215) C d15_32 rfl ?_
        refine icmp_eq C d15_35 (fun q4 => ?_) (fun q4 => ?_)
        · refine Own.iloadN C d15_43 rfl ?_
          exact retI_ C (gs := []) d15_44 (dle rfl) (dle rfl) (fun _ q => nomatch q) ⟨by simp_all [fold], rfl⟩
        · refine Own.iloadN C d15_38 rfl ?_
          refine Own.bipush (v := 32) C d15_39 rfl ?_
          refine Own.iadd C d15_41 ?_
          exact retI_ C (gs := []) d15_42 (dle rfl) (dle rfl) (fun _ q => nomatch q) ⟨by simp_all [fold], rfl⟩
  · refine Own.iloadN C d15_6 rfl ?_
    refine Own.bipush (v := 90) C d15_7 rfl ?_
    refine icmp_gt C d15_9 (fun q5 => ?_) (fun q5 => ?_)
    · refine Own.iloadN C d15_17 rfl ?_
      refine Own.sipush (v := 192) C d15_18 rfl ?_
      refine icmp_lt C d15_21 (fun q6 => ?_) (fun q6 => ?_)
      · refine Own.iloadN C d15_43 rfl ?_
        exact retI_ C (gs := []) d15_44 (dle rfl) (dle rfl) (fun _ q => nomatch q) ⟨by simp_all [fold], rfl⟩
      · refine Own.iloadN C d15_24 rfl ?_
        refine Own.sipush (v := 222) C d15_25 rfl ?_
        refine icmp_gt C d15_28 (fun q7 => ?_) (fun q7 => ?_)
        · refine Own.iloadN C d15_43 rfl ?_
          exact retI_ C (gs := []) d15_44 (dle rfl) (dle rfl) (fun _ q => nomatch q) ⟨by simp_all [fold], rfl⟩
        · refine Own.iloadN C d15_31 rfl ?_
          refine Own.sipush (v := 215) C d15_32 rfl ?_
          refine icmp_eq C d15_35 (fun q8 => ?_) (fun q8 => ?_)
          · refine Own.iloadN C d15_43 rfl ?_
            exact retI_ C (gs := []) d15_44 (dle rfl) (dle rfl) (fun _ q => nomatch q) ⟨by simp_all [fold], rfl⟩
          · refine Own.iloadN C d15_38 rfl ?_
            refine Own.bipush (v := 32) C d15_39 rfl ?_
            refine Own.iadd C d15_41 ?_
            exact retI_ C (gs := []) d15_42 (dle rfl) (dle rfl) (fun _ q => nomatch q) ⟨by simp_all [fold], rfl⟩
    · refine Own.iloadN C d15_12 rfl ?_
      refine Own.bipush (v := 32) C d15_13 rfl ?_
      refine Own.iadd C d15_15 ?_
      exact retI_ C (gs := []) d15_16 (dle rfl) (dle rfl) (fun _ q => nomatch q) ⟨by simp_all [fold], rfl⟩
set_option maxRecDepth 65536 in
set_option maxHeartbeats 4000000 in
theorem k_eq {Z : State} {a0 : Array Value} (hw : ∀ d ∈ tables_1, d.before a0 Z = true) (hs : Stt Z) {n0 : Nat} {h0 : Heap} {p p' : Int32} (O : Old Z n0 h0) :
    Con WD Z EL0 n0 (⟨"com/example/harnessd/harnessd/model/SearchContainsPinLaw", "eq", "(CC)Z"⟩ : MethodName) method_6_code 2 (some .boolean) (Rm 1 0 0 13) [(.int p), (.int p')] h0 [] (fun v h gs => v = some (.int (eqv p p')) ∧ gs = []) := by
  refine Con.of (a0 := a0) (by first | (simp [plainName, overriddenIn]; done) | decide +kernel) (hEL hw) hWE O (L0 := #[.val (.int p), .val (.int p')]) (fun m => by first | rfl | (simp [entryFrame, mkF, argsToLocals, Value.category]; done)) ?_
  intro K C hh
  refine Own.iloadN C d14_0 rfl ?_
  refine Own.iloadN C d14_1 rfl ?_
  refine icmp_eq C d14_2 (fun q1 => ?_) (fun q1 => ?_)
  · refine Own.iconst (v := 1) C d14_16 rfl ?_
    refine Own.goto_ C d14_17 ?_
    exact retZ C (gs := []) d14_21 (dle rfl) (dle rfl) (fun _ q => nomatch q) ⟨by rw [show eqv p p' = 1 by simp [eqv, q1]]; rfl, rfl⟩
  · refine Own.iloadN C d14_5 rfl ?_
    refine callS_ C (as := [(.int p)]) (st := []) (hw _ (List.mem_of_getElem? (i := 70) rfl)) (hw _ (List.mem_of_getElem? (i := 71) rfl)) (hw _ (List.mem_of_getElem? (i := 3) rfl)) (hw _ (List.mem_of_getElem? (i := 72) rfl)) ⟨by decide, by decide⟩ pd__28C_29I rfl (fun O => k_fold hw hs O) (fun _ q => nomatch q) rfl (dle rfl) (dle rfl) (dle rfl) (dle rfl) d14_6 rfl (fun v2 hp2 gs2 K2 Q2 => ?_)
    obtain ⟨rfl, rfl⟩ := Q2
    show Go _ K Z _ n0 _ _ 9 #[.val (.int p), .val (.int p')] [(.int (fold p))] hp2 _ _ _
    refine Own.iloadN C d14_9 rfl ?_
    refine callS_ C (as := [(.int p')]) (st := [(.int (fold p))]) (hw _ (List.mem_of_getElem? (i := 70) rfl)) (hw _ (List.mem_of_getElem? (i := 71) rfl)) (hw _ (List.mem_of_getElem? (i := 3) rfl)) (hw _ (List.mem_of_getElem? (i := 72) rfl)) ⟨by decide, by decide⟩ pd__28C_29I rfl (fun O => k_fold hw hs O) (fun _ q => nomatch q) rfl (dle rfl) (dle rfl) (dle rfl) (dle rfl) d14_10 rfl (fun v3 hp3 gs3 K3 Q3 => ?_)
    obtain ⟨rfl, rfl⟩ := Q3
    show Go _ K Z _ n0 _ _ 13 #[.val (.int p), .val (.int p')] [(.int (fold p')), (.int (fold p))] hp3 _ _ _
    refine icmp_ne C d14_13 (fun q4 => ?_) (fun q4 => ?_)
    · refine Own.iconst (v := 0) C d14_20 rfl ?_
      exact retZ C (gs := []) d14_21 (dle rfl) (dle rfl) (fun _ q => nomatch q) ⟨by rw [show eqv p p' = 0 by simp [eqv, q1, q4]]; rfl, rfl⟩
    · refine Own.iconst (v := 1) C d14_16 rfl ?_
      refine Own.goto_ C d14_17 ?_
      exact retZ C (gs := []) d14_21 (dle rfl) (dle rfl) (fun _ q => nomatch q) ⟨by rw [show eqv p p' = 1 by simp [eqv, q4]]; rfl, rfl⟩
def mk3 (n c0 c1 c2 : Int32) : List Int32 := if n = 0 then [] else if n = 1 then [c0] else if n = 2 then [c0, c1] else [c0, c1, c2]
def mk4 (n c0 c1 c2 c3 : Int32) : List Int32 := if n = 0 then [] else if n = 1 then [c0] else if n = 2 then [c0, c1] else if n = 3 then [c0, c1, c2] else [c0, c1, c2, c3]
theorem natI_add {i n : Nat} (h : i + n < 2 ^ 31) : natI i + natI n = natI (i + n) := i32e (by
  have a1 := natI_toInt (i := i) (by omega); have a2 := natI_toInt (i := n) (by omega); have a3 := c_iadd (natI i) (natI n); have a4 := rng32 (natI i + natI n); have a5 := natI_toInt h; omega)
def hasB (cs ds : List Int32) : Bool := (List.range (cs.length + 1)).any fun i => decide (i + ds.length ≤ cs.length) && rmt (cs.drop i) ds ds.length
theorem hasB_yes {cs ds : List Int32} {i : Nat} (h : i + ds.length ≤ cs.length ∧ rmt (cs.drop i) ds ds.length = true) : hasB cs ds = true := by
  unfold hasB
  rw [List.any_eq_true]
  exact ⟨i, List.mem_range.mpr (by omega), by simp [h.1, h.2]⟩
theorem hasB_no {cs ds : List Int32} (h : ∀ i, ¬ (i + ds.length ≤ cs.length ∧ rmt (cs.drop i) ds ds.length = true)) : hasB cs ds = false := by
  unfold hasB
  rw [List.any_eq_false]
  intro i _ z
  simp only [Bool.and_eq_true, decide_eq_true_eq] at z
  exact h i z
def atv (ta pa : Int32) (tb pb : Int32) (tc pc' : Int32) (tl pl i : Int32) : Int32 := if tl < i + pl then 0 else if ¬ pl < 1 ∧ eqv ta pa = 0 then 0 else if ¬ pl < 2 ∧ eqv tb pb = 0 then 0 else if ¬ pl < 3 ∧ eqv tc pc' = 0 then 0 else 1
theorem atv01 (ta pa tb pb tc pc' tl pl i : Int32) : atv ta pa tb pb tc pc' tl pl i = 0 ∨ atv ta pa tb pb tc pc' tl pl i = 1 := by
  unfold atv
  split
  · exact Or.inl rfl
  · split
    · exact Or.inl rfl
    · split
      · exact Or.inl rfl
      · split
        · exact Or.inl rfl
        · exact Or.inr rfl
set_option maxRecDepth 65536 in
set_option maxHeartbeats 4000000 in
theorem k_str3 {Z : State} {a0 : Array Value} (hw : ∀ d ∈ tables_1, d.before a0 Z = true) (hs : Stt Z) {n0 : Nat} {h0 : Heap} {n c0 c1 c2 : Int32} (hch0 : isCh c0) (hch1 : isCh c1) (hch2 : isCh c2) (hlt0 : c0.toInt < 256) (hlt1 : c1.toInt < 256) (hlt2 : c2.toInt < 256) (O : Old Z n0 h0) :
    Con WD Z EL0 n0 (⟨"com/example/harnessd/harnessd/model/SearchContainsPinLaw", "str3", "(ICCC)Ljava/lang/String;"⟩ : MethodName) method_4_code 4 (some (.object "java/lang/String")) (Rm 4 6 18 66) [(.int n), (.int c0), (.int c1), (.int c2)] h0 [] (fun v h gs => gs = [] ∧ ∃ a : Addr, v = some (.ref a) ∧ Str Z h a (mk3 n c0 c1 c2)) := by
  refine Con.of (a0 := a0) (by first | (simp [plainName, overriddenIn]; done) | decide +kernel) (hEL hw) hWE O (L0 := #[.val (.int n), .val (.int c0), .val (.int c1), .val (.int c2)]) (fun m => by first | rfl | (simp [entryFrame, mkF, argsToLocals, Value.category]; done)) ?_
  intro K C hh
  refine Own.iloadN C d0_0 rfl ?_
  refine if_ne C d0_1 (fun q1 => ?_) (fun q1 => ?_)
  · refine Own.iloadN C d0_15 rfl ?_
    refine Own.iconst (v := 1) C d0_16 rfl ?_
    refine icmp_ne C d0_17 (fun q2 => ?_) (fun q2 => ?_)
    · refine Own.iloadN C d0_35 rfl ?_
      refine Own.iconst (v := 2) C d0_36 rfl ?_
      refine icmp_ne C d0_37 (fun q3 => ?_) (fun q3 => ?_)
      · refine new_ C (hw _ (List.mem_of_getElem? (i := 5) rfl)) (hw _ (List.mem_of_getElem? (i := 6) rfl)) (hw _ (List.mem_of_getElem? (i := 7) rfl)) (dle rfl) (dle rfl) d0_59 (fun hp4 K4 lt4 le4 ⟨E4, F4⟩ => ?_)
        obtain ⟨a, g4⟩ : ∃ z, z = h0.size := ⟨_, rfl⟩
        rw [← g4] at E4 F4 lt4 le4 ⊢
        have Fv := F4 (Or.inr (hw _ (List.mem_of_getElem? (i := 20) rfl)) : Laid Z a0 "java/lang/String" "java/lang/String" "value" "[B") (ty := .array .byte) (by decide)
        have Fc := F4 (Or.inr (hw _ (List.mem_of_getElem? (i := 21) rfl)) : Laid Z a0 "java/lang/String" "java/lang/String" "coder" "B") (ty := .byte) (by decide)
        refine Own.dup C d0_62 rfl ?_
        refine Own.iconst (v := 3) C d0_63 rfl ?_
        refine newarr C (hw _ (List.mem_of_getElem? (i := 0) rfl)) (by decide) 3 (by decide) (by decide) (dle rfl) (dle rfl) d0_64 (fun hp5 K5 lt5 le5 A5 => ?_)
        obtain ⟨b0, g5⟩ : ∃ z, z = hp4.size := ⟨_, rfl⟩
        rw [← g5] at A5 lt5 le5 ⊢
        refine Own.dup C d0_66 rfl ?_
        refine Own.iconst (v := 0) C d0_67 rfl ?_
        refine Own.iloadN C d0_68 rfl ?_
        refine castore_ C A5 0 (by decide) (dlt rfl) (by simp) d0_69 (fun hp6 W6 A6 => ?_)
        refine Own.dup C d0_70 rfl ?_
        refine Own.iconst (v := 1) C d0_71 rfl ?_
        refine Own.iloadN C d0_72 rfl ?_
        refine castore_ C A6 1 (by decide) (dlt rfl) (by simp) d0_73 (fun hp7 W7 A7 => ?_)
        refine Own.dup C d0_74 rfl ?_
        refine Own.iconst (v := 2) C d0_75 rfl ?_
        refine Own.iloadN C d0_76 rfl ?_
        refine castore_ C A7 2 (by decide) (dlt rfl) (by simp) d0_77 (fun hp8 W8 A8 => ?_)
        have hne : a ≠ b0 := by rw [g5]; exact Nat.ne_of_lt lt4
        have KA : Keep hp4 hp8 [b0] := (((((Keep.refl _ [b0]).trans K5 (fun _ q => nomatch q)).trans (Keep.of_wr W6) (fun x hx => Or.inl hx)).trans (Keep.of_wr W7) (fun x hx => Or.inl hx)).trans (Keep.of_wr W8) (fun x hx => Or.inl hx))
        have A : Ary Z hp8 b0 .char (chs [c0, c1, c2]) := by have q := A8; simp only [narc_id (hch0), narc_id (hch1), narc_id (hch2)] at q; exact q
        refine callI_ C (as' := [(.ref b0)]) (st := [(.ref a)]) rfl (hw _ (List.mem_of_getElem? (i := 8) rfl)) (hw _ (List.mem_of_getElem? (i := 9) rfl)) (hw _ (List.mem_of_getElem? (i := 7) rfl)) (hw _ (List.mem_of_getElem? (i := 10) rfl)) ⟨by decide, by decide⟩ pd__28_5bC_29V rfl (fun O => k_init (N := 3) hw hs (by simp; exact ⟨hch0, hch1, hch2⟩) (dle rfl) ⟨dle rfl, by decide⟩ (by simp; exact ⟨hlt0, hlt1, hlt2⟩) A (E4.keep KA) (Fv.keep KA (ninS hne nin0)) (Fc.keep KA (ninS hne nin0)) O) (by simp) rfl (dle rfl) (dle rfl) (dle rfl) (dle rfl) d0_78 rfl (fun v9 hp9 gs9 K9 Q9 => ?_)
        obtain ⟨rfl, rfl, S9⟩ := Q9
        show Go _ K Z _ n0 _ _ 81 #[.val (.int n), .val (.int c0), .val (.int c1), .val (.int c2)] [(.ref a)] hp9 _ _ _
        exact retA C (gs := []) rfl rfl d0_81 (dle rfl) (dle rfl) (fun _ q => nomatch q) ⟨rfl, a, rfl, by simp only [mk3, if_neg q1, if_neg q2, if_neg q3]; exact S9⟩
      · refine new_ C (hw _ (List.mem_of_getElem? (i := 5) rfl)) (hw _ (List.mem_of_getElem? (i := 6) rfl)) (hw _ (List.mem_of_getElem? (i := 7) rfl)) (dle rfl) (dle rfl) d0_40 (fun hp10 K10 lt10 le10 ⟨E10, F10⟩ => ?_)
        obtain ⟨a, g10⟩ : ∃ z, z = h0.size := ⟨_, rfl⟩
        rw [← g10] at E10 F10 lt10 le10 ⊢
        have Fv := F10 (Or.inr (hw _ (List.mem_of_getElem? (i := 20) rfl)) : Laid Z a0 "java/lang/String" "java/lang/String" "value" "[B") (ty := .array .byte) (by decide)
        have Fc := F10 (Or.inr (hw _ (List.mem_of_getElem? (i := 21) rfl)) : Laid Z a0 "java/lang/String" "java/lang/String" "coder" "B") (ty := .byte) (by decide)
        refine Own.dup C d0_43 rfl ?_
        refine Own.iconst (v := 2) C d0_44 rfl ?_
        refine newarr C (hw _ (List.mem_of_getElem? (i := 0) rfl)) (by decide) 2 (by decide) (by decide) (dle rfl) (dle rfl) d0_45 (fun hp11 K11 lt11 le11 A11 => ?_)
        obtain ⟨b0, g11⟩ : ∃ z, z = hp10.size := ⟨_, rfl⟩
        rw [← g11] at A11 lt11 le11 ⊢
        refine Own.dup C d0_47 rfl ?_
        refine Own.iconst (v := 0) C d0_48 rfl ?_
        refine Own.iloadN C d0_49 rfl ?_
        refine castore_ C A11 0 (by decide) (dlt rfl) (by simp) d0_50 (fun hp12 W12 A12 => ?_)
        refine Own.dup C d0_51 rfl ?_
        refine Own.iconst (v := 1) C d0_52 rfl ?_
        refine Own.iloadN C d0_53 rfl ?_
        refine castore_ C A12 1 (by decide) (dlt rfl) (by simp) d0_54 (fun hp13 W13 A13 => ?_)
        have hne : a ≠ b0 := by rw [g11]; exact Nat.ne_of_lt lt10
        have KA : Keep hp10 hp13 [b0] := ((((Keep.refl _ [b0]).trans K11 (fun _ q => nomatch q)).trans (Keep.of_wr W12) (fun x hx => Or.inl hx)).trans (Keep.of_wr W13) (fun x hx => Or.inl hx))
        have A : Ary Z hp13 b0 .char (chs [c0, c1]) := by have q := A13; simp only [narc_id (hch0), narc_id (hch1)] at q; exact q
        refine callI_ C (as' := [(.ref b0)]) (st := [(.ref a)]) rfl (hw _ (List.mem_of_getElem? (i := 8) rfl)) (hw _ (List.mem_of_getElem? (i := 9) rfl)) (hw _ (List.mem_of_getElem? (i := 7) rfl)) (hw _ (List.mem_of_getElem? (i := 10) rfl)) ⟨by decide, by decide⟩ pd__28_5bC_29V rfl (fun O => k_init (N := 3) hw hs (by simp; exact ⟨hch0, hch1⟩) (dle rfl) ⟨dle rfl, by decide⟩ (by simp; exact ⟨hlt0, hlt1⟩) A (E10.keep KA) (Fv.keep KA (ninS hne nin0)) (Fc.keep KA (ninS hne nin0)) O) (by simp) rfl (dle rfl) (dle rfl) (dle rfl) (dle rfl) d0_55 rfl (fun v14 hp14 gs14 K14 Q14 => ?_)
        obtain ⟨rfl, rfl, S14⟩ := Q14
        show Go _ K Z _ n0 _ _ 58 #[.val (.int n), .val (.int c0), .val (.int c1), .val (.int c2)] [(.ref a)] hp14 _ _ _
        exact retA C (gs := []) rfl rfl d0_58 (dle rfl) (dle rfl) (fun _ q => nomatch q) ⟨rfl, a, rfl, by simp only [mk3, if_neg q1, if_neg q2, if_pos q3]; exact S14⟩
    · refine new_ C (hw _ (List.mem_of_getElem? (i := 5) rfl)) (hw _ (List.mem_of_getElem? (i := 6) rfl)) (hw _ (List.mem_of_getElem? (i := 7) rfl)) (dle rfl) (dle rfl) d0_20 (fun hp15 K15 lt15 le15 ⟨E15, F15⟩ => ?_)
      obtain ⟨a, g15⟩ : ∃ z, z = h0.size := ⟨_, rfl⟩
      rw [← g15] at E15 F15 lt15 le15 ⊢
      have Fv := F15 (Or.inr (hw _ (List.mem_of_getElem? (i := 20) rfl)) : Laid Z a0 "java/lang/String" "java/lang/String" "value" "[B") (ty := .array .byte) (by decide)
      have Fc := F15 (Or.inr (hw _ (List.mem_of_getElem? (i := 21) rfl)) : Laid Z a0 "java/lang/String" "java/lang/String" "coder" "B") (ty := .byte) (by decide)
      refine Own.dup C d0_23 rfl ?_
      refine Own.iconst (v := 1) C d0_24 rfl ?_
      refine newarr C (hw _ (List.mem_of_getElem? (i := 0) rfl)) (by decide) 1 (by decide) (by decide) (dle rfl) (dle rfl) d0_25 (fun hp16 K16 lt16 le16 A16 => ?_)
      obtain ⟨b0, g16⟩ : ∃ z, z = hp15.size := ⟨_, rfl⟩
      rw [← g16] at A16 lt16 le16 ⊢
      refine Own.dup C d0_27 rfl ?_
      refine Own.iconst (v := 0) C d0_28 rfl ?_
      refine Own.iloadN C d0_29 rfl ?_
      refine castore_ C A16 0 (by decide) (dlt rfl) (by simp) d0_30 (fun hp17 W17 A17 => ?_)
      have hne : a ≠ b0 := by rw [g16]; exact Nat.ne_of_lt lt15
      have KA : Keep hp15 hp17 [b0] := (((Keep.refl _ [b0]).trans K16 (fun _ q => nomatch q)).trans (Keep.of_wr W17) (fun x hx => Or.inl hx))
      have A : Ary Z hp17 b0 .char (chs [c0]) := by have q := A17; simp only [narc_id (hch0)] at q; exact q
      refine callI_ C (as' := [(.ref b0)]) (st := [(.ref a)]) rfl (hw _ (List.mem_of_getElem? (i := 8) rfl)) (hw _ (List.mem_of_getElem? (i := 9) rfl)) (hw _ (List.mem_of_getElem? (i := 7) rfl)) (hw _ (List.mem_of_getElem? (i := 10) rfl)) ⟨by decide, by decide⟩ pd__28_5bC_29V rfl (fun O => k_init (N := 3) hw hs (by simp; exact hch0) (dle rfl) ⟨dle rfl, by decide⟩ (by simp; exact hlt0) A (E15.keep KA) (Fv.keep KA (ninS hne nin0)) (Fc.keep KA (ninS hne nin0)) O) (by simp) rfl (dle rfl) (dle rfl) (dle rfl) (dle rfl) d0_31 rfl (fun v18 hp18 gs18 K18 Q18 => ?_)
      obtain ⟨rfl, rfl, S18⟩ := Q18
      show Go _ K Z _ n0 _ _ 34 #[.val (.int n), .val (.int c0), .val (.int c1), .val (.int c2)] [(.ref a)] hp18 _ _ _
      exact retA C (gs := []) rfl rfl d0_34 (dle rfl) (dle rfl) (fun _ q => nomatch q) ⟨rfl, a, rfl, by simp only [mk3, if_neg q1, if_pos q2]; exact S18⟩
  · refine new_ C (hw _ (List.mem_of_getElem? (i := 5) rfl)) (hw _ (List.mem_of_getElem? (i := 6) rfl)) (hw _ (List.mem_of_getElem? (i := 7) rfl)) (dle rfl) (dle rfl) d0_4 (fun hp19 K19 lt19 le19 ⟨E19, F19⟩ => ?_)
    obtain ⟨a, g19⟩ : ∃ z, z = h0.size := ⟨_, rfl⟩
    rw [← g19] at E19 F19 lt19 le19 ⊢
    have Fv := F19 (Or.inr (hw _ (List.mem_of_getElem? (i := 20) rfl)) : Laid Z a0 "java/lang/String" "java/lang/String" "value" "[B") (ty := .array .byte) (by decide)
    have Fc := F19 (Or.inr (hw _ (List.mem_of_getElem? (i := 21) rfl)) : Laid Z a0 "java/lang/String" "java/lang/String" "coder" "B") (ty := .byte) (by decide)
    refine Own.dup C d0_7 rfl ?_
    refine Own.iconst (v := 0) C d0_8 rfl ?_
    refine newarr C (hw _ (List.mem_of_getElem? (i := 0) rfl)) (by decide) 0 (by decide) (by decide) (dle rfl) (dle rfl) d0_9 (fun hp20 K20 lt20 le20 A20 => ?_)
    obtain ⟨b0, g20⟩ : ∃ z, z = hp19.size := ⟨_, rfl⟩
    rw [← g20] at A20 lt20 le20 ⊢
    have hne : a ≠ b0 := by rw [g20]; exact Nat.ne_of_lt lt19
    have KA : Keep hp19 hp20 [b0] := ((Keep.refl _ [b0]).trans K20 (fun _ q => nomatch q))
    have A : Ary Z hp20 b0 .char (chs []) := A20
    refine callI_ C (as' := [(.ref b0)]) (st := [(.ref a)]) rfl (hw _ (List.mem_of_getElem? (i := 8) rfl)) (hw _ (List.mem_of_getElem? (i := 9) rfl)) (hw _ (List.mem_of_getElem? (i := 7) rfl)) (hw _ (List.mem_of_getElem? (i := 10) rfl)) ⟨by decide, by decide⟩ pd__28_5bC_29V rfl (fun O => k_init (N := 3) hw hs (by simp) (dle rfl) ⟨dle rfl, by decide⟩ (by simp) A (E19.keep KA) (Fv.keep KA (ninS hne nin0)) (Fc.keep KA (ninS hne nin0)) O) (by simp) rfl (dle rfl) (dle rfl) (dle rfl) (dle rfl) d0_11 rfl (fun v21 hp21 gs21 K21 Q21 => ?_)
    obtain ⟨rfl, rfl, S21⟩ := Q21
    show Go _ K Z _ n0 _ _ 14 #[.val (.int n), .val (.int c0), .val (.int c1), .val (.int c2)] [(.ref a)] hp21 _ _ _
    exact retA C (gs := []) rfl rfl d0_14 (dle rfl) (dle rfl) (fun _ q => nomatch q) ⟨rfl, a, rfl, by simp only [mk3, if_pos q1]; exact S21⟩
set_option maxRecDepth 65536 in
set_option maxHeartbeats 4000000 in
theorem k_str4 {Z : State} {a0 : Array Value} (hw : ∀ d ∈ tables_1, d.before a0 Z = true) (hs : Stt Z) {n0 : Nat} {h0 : Heap} {n c0 c1 c2 c3 : Int32} (hch0 : isCh c0) (hch1 : isCh c1) (hch2 : isCh c2) (hch3 : isCh c3) (hlt0 : c0.toInt < 256) (hlt1 : c1.toInt < 256) (hlt2 : c2.toInt < 256) (hlt3 : c3.toInt < 256) (O : Old Z n0 h0) :
    Con WD Z EL0 n0 (⟨"com/example/harnessd/harnessd/model/SearchContainsPinLaw", "str4", "(ICCCC)Ljava/lang/String;"⟩ : MethodName) method_3_code 5 (some (.object "java/lang/String")) (Rm 4 6 20 66) [(.int n), (.int c0), (.int c1), (.int c2), (.int c3)] h0 [] (fun v h gs => gs = [] ∧ ∃ a : Addr, v = some (.ref a) ∧ Str Z h a (mk4 n c0 c1 c2 c3)) := by
  refine Con.of (a0 := a0) (by first | (simp [plainName, overriddenIn]; done) | decide +kernel) (hEL hw) hWE O (L0 := #[.val (.int n), .val (.int c0), .val (.int c1), .val (.int c2), .val (.int c3)]) (fun m => by first | rfl | (simp [entryFrame, mkF, argsToLocals, Value.category]; done)) ?_
  intro K C hh
  refine Own.iloadN C d5_0 rfl ?_
  refine if_ne C d5_1 (fun q1 => ?_) (fun q1 => ?_)
  · refine Own.iloadN C d5_15 rfl ?_
    refine Own.iconst (v := 1) C d5_16 rfl ?_
    refine icmp_ne C d5_17 (fun q2 => ?_) (fun q2 => ?_)
    · refine Own.iloadN C d5_35 rfl ?_
      refine Own.iconst (v := 2) C d5_36 rfl ?_
      refine icmp_ne C d5_37 (fun q3 => ?_) (fun q3 => ?_)
      · refine Own.iloadN C d5_59 rfl ?_
        refine Own.iconst (v := 3) C d5_60 rfl ?_
        refine icmp_ne C d5_61 (fun q4 => ?_) (fun q4 => ?_)
        · refine new_ C (hw _ (List.mem_of_getElem? (i := 5) rfl)) (hw _ (List.mem_of_getElem? (i := 6) rfl)) (hw _ (List.mem_of_getElem? (i := 7) rfl)) (dle rfl) (dle rfl) d5_87 (fun hp5 K5 lt5 le5 ⟨E5, F5⟩ => ?_)
          obtain ⟨a, g5⟩ : ∃ z, z = h0.size := ⟨_, rfl⟩
          rw [← g5] at E5 F5 lt5 le5 ⊢
          have Fv := F5 (Or.inr (hw _ (List.mem_of_getElem? (i := 20) rfl)) : Laid Z a0 "java/lang/String" "java/lang/String" "value" "[B") (ty := .array .byte) (by decide)
          have Fc := F5 (Or.inr (hw _ (List.mem_of_getElem? (i := 21) rfl)) : Laid Z a0 "java/lang/String" "java/lang/String" "coder" "B") (ty := .byte) (by decide)
          refine Own.dup C d5_90 rfl ?_
          refine Own.iconst (v := 4) C d5_91 rfl ?_
          refine newarr C (hw _ (List.mem_of_getElem? (i := 0) rfl)) (by decide) 4 (by decide) (by decide) (dle rfl) (dle rfl) d5_92 (fun hp6 K6 lt6 le6 A6 => ?_)
          obtain ⟨b0, g6⟩ : ∃ z, z = hp5.size := ⟨_, rfl⟩
          rw [← g6] at A6 lt6 le6 ⊢
          refine Own.dup C d5_94 rfl ?_
          refine Own.iconst (v := 0) C d5_95 rfl ?_
          refine Own.iloadN C d5_96 rfl ?_
          refine castore_ C A6 0 (by decide) (dlt rfl) (by simp) d5_97 (fun hp7 W7 A7 => ?_)
          refine Own.dup C d5_98 rfl ?_
          refine Own.iconst (v := 1) C d5_99 rfl ?_
          refine Own.iloadN C d5_100 rfl ?_
          refine castore_ C A7 1 (by decide) (dlt rfl) (by simp) d5_101 (fun hp8 W8 A8 => ?_)
          refine Own.dup C d5_102 rfl ?_
          refine Own.iconst (v := 2) C d5_103 rfl ?_
          refine Own.iloadN C d5_104 rfl ?_
          refine castore_ C A8 2 (by decide) (dlt rfl) (by simp) d5_105 (fun hp9 W9 A9 => ?_)
          refine Own.dup C d5_106 rfl ?_
          refine Own.iconst (v := 3) C d5_107 rfl ?_
          refine Own.iload C d5_108 rfl ?_
          refine castore_ C A9 3 (by decide) (dlt rfl) (by simp) d5_110 (fun hp10 W10 A10 => ?_)
          have hne : a ≠ b0 := by rw [g6]; exact Nat.ne_of_lt lt5
          have KA : Keep hp5 hp10 [b0] := ((((((Keep.refl _ [b0]).trans K6 (fun _ q => nomatch q)).trans (Keep.of_wr W7) (fun x hx => Or.inl hx)).trans (Keep.of_wr W8) (fun x hx => Or.inl hx)).trans (Keep.of_wr W9) (fun x hx => Or.inl hx)).trans (Keep.of_wr W10) (fun x hx => Or.inl hx))
          have A : Ary Z hp10 b0 .char (chs [c0, c1, c2, c3]) := by have q := A10; simp only [narc_id (hch0), narc_id (hch1), narc_id (hch2), narc_id (hch3)] at q; exact q
          refine callI_ C (as' := [(.ref b0)]) (st := [(.ref a)]) rfl (hw _ (List.mem_of_getElem? (i := 8) rfl)) (hw _ (List.mem_of_getElem? (i := 9) rfl)) (hw _ (List.mem_of_getElem? (i := 7) rfl)) (hw _ (List.mem_of_getElem? (i := 10) rfl)) ⟨by decide, by decide⟩ pd__28_5bC_29V rfl (fun O => k_init (N := 4) hw hs (by simp; exact ⟨hch0, hch1, hch2, hch3⟩) (dle rfl) ⟨dle rfl, by decide⟩ (by simp; exact ⟨hlt0, hlt1, hlt2, hlt3⟩) A (E5.keep KA) (Fv.keep KA (ninS hne nin0)) (Fc.keep KA (ninS hne nin0)) O) (by simp) rfl (dle rfl) (dle rfl) (dle rfl) (dle rfl) d5_111 rfl (fun v11 hp11 gs11 K11 Q11 => ?_)
          obtain ⟨rfl, rfl, S11⟩ := Q11
          show Go _ K Z _ n0 _ _ 114 #[.val (.int n), .val (.int c0), .val (.int c1), .val (.int c2), .val (.int c3)] [(.ref a)] hp11 _ _ _
          exact retA C (gs := []) rfl rfl d5_114 (dle rfl) (dle rfl) (fun _ q => nomatch q) ⟨rfl, a, rfl, by simp only [mk4, if_neg q1, if_neg q2, if_neg q3, if_neg q4]; exact S11⟩
        · refine new_ C (hw _ (List.mem_of_getElem? (i := 5) rfl)) (hw _ (List.mem_of_getElem? (i := 6) rfl)) (hw _ (List.mem_of_getElem? (i := 7) rfl)) (dle rfl) (dle rfl) d5_64 (fun hp12 K12 lt12 le12 ⟨E12, F12⟩ => ?_)
          obtain ⟨a, g12⟩ : ∃ z, z = h0.size := ⟨_, rfl⟩
          rw [← g12] at E12 F12 lt12 le12 ⊢
          have Fv := F12 (Or.inr (hw _ (List.mem_of_getElem? (i := 20) rfl)) : Laid Z a0 "java/lang/String" "java/lang/String" "value" "[B") (ty := .array .byte) (by decide)
          have Fc := F12 (Or.inr (hw _ (List.mem_of_getElem? (i := 21) rfl)) : Laid Z a0 "java/lang/String" "java/lang/String" "coder" "B") (ty := .byte) (by decide)
          refine Own.dup C d5_67 rfl ?_
          refine Own.iconst (v := 3) C d5_68 rfl ?_
          refine newarr C (hw _ (List.mem_of_getElem? (i := 0) rfl)) (by decide) 3 (by decide) (by decide) (dle rfl) (dle rfl) d5_69 (fun hp13 K13 lt13 le13 A13 => ?_)
          obtain ⟨b0, g13⟩ : ∃ z, z = hp12.size := ⟨_, rfl⟩
          rw [← g13] at A13 lt13 le13 ⊢
          refine Own.dup C d5_71 rfl ?_
          refine Own.iconst (v := 0) C d5_72 rfl ?_
          refine Own.iloadN C d5_73 rfl ?_
          refine castore_ C A13 0 (by decide) (dlt rfl) (by simp) d5_74 (fun hp14 W14 A14 => ?_)
          refine Own.dup C d5_75 rfl ?_
          refine Own.iconst (v := 1) C d5_76 rfl ?_
          refine Own.iloadN C d5_77 rfl ?_
          refine castore_ C A14 1 (by decide) (dlt rfl) (by simp) d5_78 (fun hp15 W15 A15 => ?_)
          refine Own.dup C d5_79 rfl ?_
          refine Own.iconst (v := 2) C d5_80 rfl ?_
          refine Own.iloadN C d5_81 rfl ?_
          refine castore_ C A15 2 (by decide) (dlt rfl) (by simp) d5_82 (fun hp16 W16 A16 => ?_)
          have hne : a ≠ b0 := by rw [g13]; exact Nat.ne_of_lt lt12
          have KA : Keep hp12 hp16 [b0] := (((((Keep.refl _ [b0]).trans K13 (fun _ q => nomatch q)).trans (Keep.of_wr W14) (fun x hx => Or.inl hx)).trans (Keep.of_wr W15) (fun x hx => Or.inl hx)).trans (Keep.of_wr W16) (fun x hx => Or.inl hx))
          have A : Ary Z hp16 b0 .char (chs [c0, c1, c2]) := by have q := A16; simp only [narc_id (hch0), narc_id (hch1), narc_id (hch2)] at q; exact q
          refine callI_ C (as' := [(.ref b0)]) (st := [(.ref a)]) rfl (hw _ (List.mem_of_getElem? (i := 8) rfl)) (hw _ (List.mem_of_getElem? (i := 9) rfl)) (hw _ (List.mem_of_getElem? (i := 7) rfl)) (hw _ (List.mem_of_getElem? (i := 10) rfl)) ⟨by decide, by decide⟩ pd__28_5bC_29V rfl (fun O => k_init (N := 4) hw hs (by simp; exact ⟨hch0, hch1, hch2⟩) (dle rfl) ⟨dle rfl, by decide⟩ (by simp; exact ⟨hlt0, hlt1, hlt2⟩) A (E12.keep KA) (Fv.keep KA (ninS hne nin0)) (Fc.keep KA (ninS hne nin0)) O) (by simp) rfl (dle rfl) (dle rfl) (dle rfl) (dle rfl) d5_83 rfl (fun v17 hp17 gs17 K17 Q17 => ?_)
          obtain ⟨rfl, rfl, S17⟩ := Q17
          show Go _ K Z _ n0 _ _ 86 #[.val (.int n), .val (.int c0), .val (.int c1), .val (.int c2), .val (.int c3)] [(.ref a)] hp17 _ _ _
          exact retA C (gs := []) rfl rfl d5_86 (dle rfl) (dle rfl) (fun _ q => nomatch q) ⟨rfl, a, rfl, by simp only [mk4, if_neg q1, if_neg q2, if_neg q3, if_pos q4]; exact S17⟩
      · refine new_ C (hw _ (List.mem_of_getElem? (i := 5) rfl)) (hw _ (List.mem_of_getElem? (i := 6) rfl)) (hw _ (List.mem_of_getElem? (i := 7) rfl)) (dle rfl) (dle rfl) d5_40 (fun hp18 K18 lt18 le18 ⟨E18, F18⟩ => ?_)
        obtain ⟨a, g18⟩ : ∃ z, z = h0.size := ⟨_, rfl⟩
        rw [← g18] at E18 F18 lt18 le18 ⊢
        have Fv := F18 (Or.inr (hw _ (List.mem_of_getElem? (i := 20) rfl)) : Laid Z a0 "java/lang/String" "java/lang/String" "value" "[B") (ty := .array .byte) (by decide)
        have Fc := F18 (Or.inr (hw _ (List.mem_of_getElem? (i := 21) rfl)) : Laid Z a0 "java/lang/String" "java/lang/String" "coder" "B") (ty := .byte) (by decide)
        refine Own.dup C d5_43 rfl ?_
        refine Own.iconst (v := 2) C d5_44 rfl ?_
        refine newarr C (hw _ (List.mem_of_getElem? (i := 0) rfl)) (by decide) 2 (by decide) (by decide) (dle rfl) (dle rfl) d5_45 (fun hp19 K19 lt19 le19 A19 => ?_)
        obtain ⟨b0, g19⟩ : ∃ z, z = hp18.size := ⟨_, rfl⟩
        rw [← g19] at A19 lt19 le19 ⊢
        refine Own.dup C d5_47 rfl ?_
        refine Own.iconst (v := 0) C d5_48 rfl ?_
        refine Own.iloadN C d5_49 rfl ?_
        refine castore_ C A19 0 (by decide) (dlt rfl) (by simp) d5_50 (fun hp20 W20 A20 => ?_)
        refine Own.dup C d5_51 rfl ?_
        refine Own.iconst (v := 1) C d5_52 rfl ?_
        refine Own.iloadN C d5_53 rfl ?_
        refine castore_ C A20 1 (by decide) (dlt rfl) (by simp) d5_54 (fun hp21 W21 A21 => ?_)
        have hne : a ≠ b0 := by rw [g19]; exact Nat.ne_of_lt lt18
        have KA : Keep hp18 hp21 [b0] := ((((Keep.refl _ [b0]).trans K19 (fun _ q => nomatch q)).trans (Keep.of_wr W20) (fun x hx => Or.inl hx)).trans (Keep.of_wr W21) (fun x hx => Or.inl hx))
        have A : Ary Z hp21 b0 .char (chs [c0, c1]) := by have q := A21; simp only [narc_id (hch0), narc_id (hch1)] at q; exact q
        refine callI_ C (as' := [(.ref b0)]) (st := [(.ref a)]) rfl (hw _ (List.mem_of_getElem? (i := 8) rfl)) (hw _ (List.mem_of_getElem? (i := 9) rfl)) (hw _ (List.mem_of_getElem? (i := 7) rfl)) (hw _ (List.mem_of_getElem? (i := 10) rfl)) ⟨by decide, by decide⟩ pd__28_5bC_29V rfl (fun O => k_init (N := 4) hw hs (by simp; exact ⟨hch0, hch1⟩) (dle rfl) ⟨dle rfl, by decide⟩ (by simp; exact ⟨hlt0, hlt1⟩) A (E18.keep KA) (Fv.keep KA (ninS hne nin0)) (Fc.keep KA (ninS hne nin0)) O) (by simp) rfl (dle rfl) (dle rfl) (dle rfl) (dle rfl) d5_55 rfl (fun v22 hp22 gs22 K22 Q22 => ?_)
        obtain ⟨rfl, rfl, S22⟩ := Q22
        show Go _ K Z _ n0 _ _ 58 #[.val (.int n), .val (.int c0), .val (.int c1), .val (.int c2), .val (.int c3)] [(.ref a)] hp22 _ _ _
        exact retA C (gs := []) rfl rfl d5_58 (dle rfl) (dle rfl) (fun _ q => nomatch q) ⟨rfl, a, rfl, by simp only [mk4, if_neg q1, if_neg q2, if_pos q3]; exact S22⟩
    · refine new_ C (hw _ (List.mem_of_getElem? (i := 5) rfl)) (hw _ (List.mem_of_getElem? (i := 6) rfl)) (hw _ (List.mem_of_getElem? (i := 7) rfl)) (dle rfl) (dle rfl) d5_20 (fun hp23 K23 lt23 le23 ⟨E23, F23⟩ => ?_)
      obtain ⟨a, g23⟩ : ∃ z, z = h0.size := ⟨_, rfl⟩
      rw [← g23] at E23 F23 lt23 le23 ⊢
      have Fv := F23 (Or.inr (hw _ (List.mem_of_getElem? (i := 20) rfl)) : Laid Z a0 "java/lang/String" "java/lang/String" "value" "[B") (ty := .array .byte) (by decide)
      have Fc := F23 (Or.inr (hw _ (List.mem_of_getElem? (i := 21) rfl)) : Laid Z a0 "java/lang/String" "java/lang/String" "coder" "B") (ty := .byte) (by decide)
      refine Own.dup C d5_23 rfl ?_
      refine Own.iconst (v := 1) C d5_24 rfl ?_
      refine newarr C (hw _ (List.mem_of_getElem? (i := 0) rfl)) (by decide) 1 (by decide) (by decide) (dle rfl) (dle rfl) d5_25 (fun hp24 K24 lt24 le24 A24 => ?_)
      obtain ⟨b0, g24⟩ : ∃ z, z = hp23.size := ⟨_, rfl⟩
      rw [← g24] at A24 lt24 le24 ⊢
      refine Own.dup C d5_27 rfl ?_
      refine Own.iconst (v := 0) C d5_28 rfl ?_
      refine Own.iloadN C d5_29 rfl ?_
      refine castore_ C A24 0 (by decide) (dlt rfl) (by simp) d5_30 (fun hp25 W25 A25 => ?_)
      have hne : a ≠ b0 := by rw [g24]; exact Nat.ne_of_lt lt23
      have KA : Keep hp23 hp25 [b0] := (((Keep.refl _ [b0]).trans K24 (fun _ q => nomatch q)).trans (Keep.of_wr W25) (fun x hx => Or.inl hx))
      have A : Ary Z hp25 b0 .char (chs [c0]) := by have q := A25; simp only [narc_id (hch0)] at q; exact q
      refine callI_ C (as' := [(.ref b0)]) (st := [(.ref a)]) rfl (hw _ (List.mem_of_getElem? (i := 8) rfl)) (hw _ (List.mem_of_getElem? (i := 9) rfl)) (hw _ (List.mem_of_getElem? (i := 7) rfl)) (hw _ (List.mem_of_getElem? (i := 10) rfl)) ⟨by decide, by decide⟩ pd__28_5bC_29V rfl (fun O => k_init (N := 4) hw hs (by simp; exact hch0) (dle rfl) ⟨dle rfl, by decide⟩ (by simp; exact hlt0) A (E23.keep KA) (Fv.keep KA (ninS hne nin0)) (Fc.keep KA (ninS hne nin0)) O) (by simp) rfl (dle rfl) (dle rfl) (dle rfl) (dle rfl) d5_31 rfl (fun v26 hp26 gs26 K26 Q26 => ?_)
      obtain ⟨rfl, rfl, S26⟩ := Q26
      show Go _ K Z _ n0 _ _ 34 #[.val (.int n), .val (.int c0), .val (.int c1), .val (.int c2), .val (.int c3)] [(.ref a)] hp26 _ _ _
      exact retA C (gs := []) rfl rfl d5_34 (dle rfl) (dle rfl) (fun _ q => nomatch q) ⟨rfl, a, rfl, by simp only [mk4, if_neg q1, if_pos q2]; exact S26⟩
  · refine new_ C (hw _ (List.mem_of_getElem? (i := 5) rfl)) (hw _ (List.mem_of_getElem? (i := 6) rfl)) (hw _ (List.mem_of_getElem? (i := 7) rfl)) (dle rfl) (dle rfl) d5_4 (fun hp27 K27 lt27 le27 ⟨E27, F27⟩ => ?_)
    obtain ⟨a, g27⟩ : ∃ z, z = h0.size := ⟨_, rfl⟩
    rw [← g27] at E27 F27 lt27 le27 ⊢
    have Fv := F27 (Or.inr (hw _ (List.mem_of_getElem? (i := 20) rfl)) : Laid Z a0 "java/lang/String" "java/lang/String" "value" "[B") (ty := .array .byte) (by decide)
    have Fc := F27 (Or.inr (hw _ (List.mem_of_getElem? (i := 21) rfl)) : Laid Z a0 "java/lang/String" "java/lang/String" "coder" "B") (ty := .byte) (by decide)
    refine Own.dup C d5_7 rfl ?_
    refine Own.iconst (v := 0) C d5_8 rfl ?_
    refine newarr C (hw _ (List.mem_of_getElem? (i := 0) rfl)) (by decide) 0 (by decide) (by decide) (dle rfl) (dle rfl) d5_9 (fun hp28 K28 lt28 le28 A28 => ?_)
    obtain ⟨b0, g28⟩ : ∃ z, z = hp27.size := ⟨_, rfl⟩
    rw [← g28] at A28 lt28 le28 ⊢
    have hne : a ≠ b0 := by rw [g28]; exact Nat.ne_of_lt lt27
    have KA : Keep hp27 hp28 [b0] := ((Keep.refl _ [b0]).trans K28 (fun _ q => nomatch q))
    have A : Ary Z hp28 b0 .char (chs []) := A28
    refine callI_ C (as' := [(.ref b0)]) (st := [(.ref a)]) rfl (hw _ (List.mem_of_getElem? (i := 8) rfl)) (hw _ (List.mem_of_getElem? (i := 9) rfl)) (hw _ (List.mem_of_getElem? (i := 7) rfl)) (hw _ (List.mem_of_getElem? (i := 10) rfl)) ⟨by decide, by decide⟩ pd__28_5bC_29V rfl (fun O => k_init (N := 4) hw hs (by simp) (dle rfl) ⟨dle rfl, by decide⟩ (by simp) A (E27.keep KA) (Fv.keep KA (ninS hne nin0)) (Fc.keep KA (ninS hne nin0)) O) (by simp) rfl (dle rfl) (dle rfl) (dle rfl) (dle rfl) d5_11 rfl (fun v29 hp29 gs29 K29 Q29 => ?_)
    obtain ⟨rfl, rfl, S29⟩ := Q29
    show Go _ K Z _ n0 _ _ 14 #[.val (.int n), .val (.int c0), .val (.int c1), .val (.int c2), .val (.int c3)] [(.ref a)] hp29 _ _ _
    exact retA C (gs := []) rfl rfl d5_14 (dle rfl) (dle rfl) (fun _ q => nomatch q) ⟨rfl, a, rfl, by simp only [mk4, if_pos q1]; exact S29⟩
set_option maxRecDepth 65536 in
set_option maxHeartbeats 4000000 in
theorem k_cont0 {Z : State} {a0 : Array Value} (hw : ∀ d ∈ tables_1, d.before a0 Z = true) (hs : Stt Z) {n0 : Nat} {h0 : Heap} {b0 : Addr} (O : Old Z n0 h0) :
    Con WD Z EL0 n0 (⟨"com/example/harnessd/harnessd/model/Search", "contains", "(Ljava/lang/String;Ljava/lang/String;)Z"⟩ : MethodName) prog_12_method_2_code 3 (some .boolean) (Rm 0 0 0 0) [.null, (.ref b0)] h0 [] (fun v h gs => v = some (.int 0) ∧ gs = []) := by
  refine Con.of (a0 := a0) (by first | (simp [plainName, overriddenIn]; done) | decide +kernel) (hEL hw) hWE O (L0 := #[.val .null, .val (.ref b0), .unset]) (fun m => by first | rfl | (simp [entryFrame, mkF, argsToLocals, Value.category]; done)) ?_
  intro K C hh
  refine Own.aconstNull C d4_0 ?_
  refine Own.aloadN C d4_1 rfl rfl ?_
  refine acmp_ne C rfl rfl d4_2 (fun q1 => ?_) (fun q1 => ?_)
  · exact absurd rfl q1
  · refine Own.iconst (v := 0) C d4_5 rfl ?_
    exact retZ C (gs := []) d4_6 (dle rfl) (dle rfl) (fun _ q => nomatch q) ⟨rfl, rfl⟩
set_option maxRecDepth 65536 in
set_option maxHeartbeats 4000000 in
theorem k_cont {Z : State} {a0 : Array Value} (hw : ∀ d ∈ tables_1, d.before a0 Z = true) (hs : Stt Z) {n0 : Nat} {h0 : Heap} {a b0 : Addr} {xs ys : List Int32} (F : Str Z h0 a xs) (G : Str Z h0 b0 ys) (hxs : ∀ c ∈ xs, c.toInt < 256) (hys : ∀ c ∈ ys, c.toInt < 256) (O : Old Z n0 h0) :
    Con WD Z EL0 n0 (⟨"com/example/harnessd/harnessd/model/Search", "contains", "(Ljava/lang/String;Ljava/lang/String;)Z"⟩ : MethodName) prog_12_method_2_code 3 (some .boolean) (Rm 3 0 0 53) [(.ref a), (.ref b0)] h0 [] (fun v h gs => v = some (.int (if hasB xs ys = true then 1 else 0)) ∧ gs = []) := by
  refine Con.of (a0 := a0) (by first | (simp [plainName, overriddenIn]; done) | decide +kernel) (hEL hw) hWE O (L0 := #[.val (.ref a), .val (.ref b0), .unset]) (fun m => by first | rfl | (simp [entryFrame, mkF, argsToLocals, Value.category]; done)) ?_
  intro K C hh
  have lF := F.2.2.1
  have lG := G.2.2.1
  have ex := natI_toInt (i := xs.length) (by omega)
  have ey := natI_toInt (i := ys.length) (by omega)
  have loop : ∀ (m i : Nat) (h : Heap), i + m = xs.length + 1 → (∀ j, j < i → ¬ (j + ys.length ≤ xs.length ∧ rmt (xs.drop j) ys ys.length = true)) → Str Z h a xs → Str Z h b0 ys → Go WD K Z EL0 n0 [] (fun v h gs => v = some (.int (if hasB xs ys = true then 1 else 0)) ∧ gs = []) 9 #[.val (.ref a), .val (.ref b0), .val (.int (natI i))] [] h [] 0 0 := by
    intro m
    induction m with
    | zero =>
      intro i h hm hno F G
      have e1 := natI_toInt (i := i) (by omega)
      have e2 := natI_toInt (i := i + ys.length) (by omega)
      have e3 := natI_add (i := i) (n := ys.length) (by omega)
      refine Own.iloadN C d4_9 rfl ?_
      refine Own.aloadN C d4_10 rfl rfl ?_
      refine callV_ C (as' := []) (st := [(.int (natI i))]) (hw _ (List.mem_of_getElem? (i := 47) rfl)) (hw _ (List.mem_of_getElem? (i := 48) rfl)) (fun _ hZ => notFace_of_selects (args := #[]) (mvT hZ (hw _ (List.mem_of_getElem? (i := 50) rfl)))) (hw _ (List.mem_of_getElem? (i := 50) rfl)) (hw _ (List.mem_of_getElem? (i := 49) rfl)) (hw _ (List.mem_of_getElem? (i := 7) rfl)) (hw _ (List.mem_of_getElem? (i := 51) rfl)) ⟨by decide, by decide⟩ G.1 pd__28_29I rfl (fun O => k_length hw hs G O) (fun _ q => nomatch q) rfl (dle rfl) (dle rfl) (dle rfl) (dle rfl) d4_11 rfl (fun v1 hp1 gs1 K1 Q1 => ?_)
      obtain ⟨rfl, rfl⟩ := Q1
      show Go _ K Z _ n0 _ _ 14 #[.val (.ref a), .val (.ref b0), .val (.int (natI i))] [(.int (natI ys.length)), (.int (natI i))] hp1 _ _ _
      refine Own.iadd C d4_14 ?_
      rw [e3]
      show Go _ K Z _ n0 _ _ 15 #[.val (.ref a), .val (.ref b0), .val (.int (natI i))] [(.int (natI (i + ys.length)))] hp1 _ _ _
      have F := F.keep K1
      have G := G.keep K1
      refine Own.aloadN C d4_15 rfl rfl ?_
      refine callV_ C (as' := []) (st := [(.int (natI (i + ys.length)))]) (hw _ (List.mem_of_getElem? (i := 47) rfl)) (hw _ (List.mem_of_getElem? (i := 48) rfl)) (fun _ hZ => notFace_of_selects (args := #[]) (mvT hZ (hw _ (List.mem_of_getElem? (i := 50) rfl)))) (hw _ (List.mem_of_getElem? (i := 50) rfl)) (hw _ (List.mem_of_getElem? (i := 49) rfl)) (hw _ (List.mem_of_getElem? (i := 7) rfl)) (hw _ (List.mem_of_getElem? (i := 51) rfl)) ⟨by decide, by decide⟩ F.1 pd__28_29I rfl (fun O => k_length hw hs F O) (fun _ q => nomatch q) rfl (dle rfl) (dle rfl) (dle rfl) (dle rfl) d4_16 rfl (fun v2 hp2 gs2 K2 Q2 => ?_)
      obtain ⟨rfl, rfl⟩ := Q2
      show Go _ K Z _ n0 _ _ 19 #[.val (.ref a), .val (.ref b0), .val (.int (natI i))] [(.int (natI xs.length)), (.int (natI (i + ys.length)))] hp2 _ _ _
      have F := F.keep K2
      have G := G.keep K2
      refine icmp_gt C d4_19 (fun q3 => ?_) (fun q3 => ?_)
      · have hgt : xs.length < i + ys.length := by rw [lt32] at q3; omega
        have hf := hasB_no (cs := xs) (ds := ys) (fun j z => by rcases Nat.lt_or_ge j i with w | w; exact hno j w z; exact absurd z.1 (by omega))
        refine Own.iconst (v := 0) C d4_45 rfl ?_
        exact retZ C (gs := []) d4_46 (dle rfl) (dle rfl) (fun _ q => nomatch q) ⟨by rw [hf]; rfl, rfl⟩
      · have hle : i + ys.length ≤ xs.length := by rw [lt32] at q3; omega
        exact absurd hle (by omega)
    | succ m ih =>
      intro i h hm hno F G
      have e1 := natI_toInt (i := i) (by omega)
      have e2 := natI_toInt (i := i + ys.length) (by omega)
      have e3 := natI_add (i := i) (n := ys.length) (by omega)
      refine Own.iloadN C d4_9 rfl ?_
      refine Own.aloadN C d4_10 rfl rfl ?_
      refine callV_ C (as' := []) (st := [(.int (natI i))]) (hw _ (List.mem_of_getElem? (i := 47) rfl)) (hw _ (List.mem_of_getElem? (i := 48) rfl)) (fun _ hZ => notFace_of_selects (args := #[]) (mvT hZ (hw _ (List.mem_of_getElem? (i := 50) rfl)))) (hw _ (List.mem_of_getElem? (i := 50) rfl)) (hw _ (List.mem_of_getElem? (i := 49) rfl)) (hw _ (List.mem_of_getElem? (i := 7) rfl)) (hw _ (List.mem_of_getElem? (i := 51) rfl)) ⟨by decide, by decide⟩ G.1 pd__28_29I rfl (fun O => k_length hw hs G O) (fun _ q => nomatch q) rfl (dle rfl) (dle rfl) (dle rfl) (dle rfl) d4_11 rfl (fun v4 hp4 gs4 K4 Q4 => ?_)
      obtain ⟨rfl, rfl⟩ := Q4
      show Go _ K Z _ n0 _ _ 14 #[.val (.ref a), .val (.ref b0), .val (.int (natI i))] [(.int (natI ys.length)), (.int (natI i))] hp4 _ _ _
      refine Own.iadd C d4_14 ?_
      rw [e3]
      show Go _ K Z _ n0 _ _ 15 #[.val (.ref a), .val (.ref b0), .val (.int (natI i))] [(.int (natI (i + ys.length)))] hp4 _ _ _
      have F := F.keep K4
      have G := G.keep K4
      refine Own.aloadN C d4_15 rfl rfl ?_
      refine callV_ C (as' := []) (st := [(.int (natI (i + ys.length)))]) (hw _ (List.mem_of_getElem? (i := 47) rfl)) (hw _ (List.mem_of_getElem? (i := 48) rfl)) (fun _ hZ => notFace_of_selects (args := #[]) (mvT hZ (hw _ (List.mem_of_getElem? (i := 50) rfl)))) (hw _ (List.mem_of_getElem? (i := 50) rfl)) (hw _ (List.mem_of_getElem? (i := 49) rfl)) (hw _ (List.mem_of_getElem? (i := 7) rfl)) (hw _ (List.mem_of_getElem? (i := 51) rfl)) ⟨by decide, by decide⟩ F.1 pd__28_29I rfl (fun O => k_length hw hs F O) (fun _ q => nomatch q) rfl (dle rfl) (dle rfl) (dle rfl) (dle rfl) d4_16 rfl (fun v5 hp5 gs5 K5 Q5 => ?_)
      obtain ⟨rfl, rfl⟩ := Q5
      show Go _ K Z _ n0 _ _ 19 #[.val (.ref a), .val (.ref b0), .val (.int (natI i))] [(.int (natI xs.length)), (.int (natI (i + ys.length)))] hp5 _ _ _
      have F := F.keep K5
      have G := G.keep K5
      refine icmp_gt C d4_19 (fun q6 => ?_) (fun q6 => ?_)
      · have hgt : xs.length < i + ys.length := by rw [lt32] at q6; omega
        have hf := hasB_no (cs := xs) (ds := ys) (fun j z => by rcases Nat.lt_or_ge j i with w | w; exact hno j w z; exact absurd z.1 (by omega))
        refine Own.iconst (v := 0) C d4_45 rfl ?_
        exact retZ C (gs := []) d4_46 (dle rfl) (dle rfl) (fun _ q => nomatch q) ⟨by rw [hf]; rfl, rfl⟩
      · have hle : i + ys.length ≤ xs.length := by rw [lt32] at q6; omega
        refine Own.aloadN C d4_22 rfl rfl ?_
        refine Own.iconst (v := 1) C d4_23 rfl ?_
        refine Own.iloadN C d4_24 rfl ?_
        refine Own.aloadN C d4_25 rfl rfl ?_
        refine Own.iconst (v := 0) C d4_26 rfl ?_
        refine Own.aloadN C d4_27 rfl rfl ?_
        refine callV_ C (as' := []) (st := [(.int (0 : Int32)), (.ref b0), (.int (natI i)), (.int (1 : Int32)), (.ref a)]) (hw _ (List.mem_of_getElem? (i := 47) rfl)) (hw _ (List.mem_of_getElem? (i := 48) rfl)) (fun _ hZ => notFace_of_selects (args := #[]) (mvT hZ (hw _ (List.mem_of_getElem? (i := 50) rfl)))) (hw _ (List.mem_of_getElem? (i := 50) rfl)) (hw _ (List.mem_of_getElem? (i := 49) rfl)) (hw _ (List.mem_of_getElem? (i := 7) rfl)) (hw _ (List.mem_of_getElem? (i := 51) rfl)) ⟨by decide, by decide⟩ G.1 pd__28_29I rfl (fun O => k_length hw hs G O) (fun _ q => nomatch q) rfl (dle rfl) (dle rfl) (dle rfl) (dle rfl) d4_28 rfl (fun v7 hp7 gs7 K7 Q7 => ?_)
        obtain ⟨rfl, rfl⟩ := Q7
        show Go _ K Z _ n0 _ _ 31 #[.val (.ref a), .val (.ref b0), .val (.int (natI i))] [(.int (natI ys.length)), (.int (0 : Int32)), (.ref b0), (.int (natI i)), (.int (1 : Int32)), (.ref a)] hp7 _ _ _
        have F := F.keep K7
        have G := G.keep K7
        refine callV_ C (as' := [(.int (1 : Int32)), (.int (natI i)), (.ref b0), (.int (0 : Int32)), (.int (natI ys.length))]) (st := []) (hw _ (List.mem_of_getElem? (i := 57) rfl)) (hw _ (List.mem_of_getElem? (i := 58) rfl)) (fun _ hZ => notFace_of_selects (args := #[]) (mvT hZ (hw _ (List.mem_of_getElem? (i := 60) rfl)))) (hw _ (List.mem_of_getElem? (i := 60) rfl)) (hw _ (List.mem_of_getElem? (i := 59) rfl)) (hw _ (List.mem_of_getElem? (i := 7) rfl)) (hw _ (List.mem_of_getElem? (i := 61) rfl)) ⟨by decide, by decide⟩ F.1 pd__28ZILjava_2flang_2fString_3bII_29Z rfl (fun O => k_rm hw hs F G hxs hys (by omega) O) (fun _ q => nomatch q) rfl (dle rfl) (dle rfl) (dle rfl) (dle rfl) d4_31 rfl (fun v8 hp8 gs8 K8 Q8 => ?_)
        obtain ⟨rfl, rfl⟩ := Q8
        show Go _ K Z _ n0 _ _ 34 #[.val (.ref a), .val (.ref b0), .val (.int (natI i))] [(.int (if i + ys.length ≤ xs.length ∧ rmt (xs.drop i) ys ys.length = true then 1 else 0))] hp8 _ _ _
        refine if_eq C d4_34 (fun q9 => ?_) (fun q9 => ?_)
        · have hn : ¬ (i + ys.length ≤ xs.length ∧ rmt (xs.drop i) ys ys.length = true) := fun z => by rw [if_pos z] at q9; exact absurd q9 (by decide)
          have e4 := natI_succ (i := i) (by omega)
          refine Own.iinc (L' := #[.val (.ref a), .val (.ref b0), .val (.int (natI (i + 1)))]) (y := (natI (i + 1))) C d4_39 rfl e4 rfl ?_
          refine Own.goto_ C d4_42 ?_
          exact ih (i + 1) _ (by omega) (fun j hj => by rcases Nat.lt_or_ge j i with w | w; exact hno j w; exact (show j = i by omega) ▸ hn) (F.keep K8) (G.keep K8)
        · have hy : i + ys.length ≤ xs.length ∧ rmt (xs.drop i) ys ys.length = true := by by_cases z : i + ys.length ≤ xs.length ∧ rmt (xs.drop i) ys ys.length = true; exact z; exact absurd (if_neg z) q9
          refine Own.iconst (v := 1) C d4_37 rfl ?_
          exact retZ C (gs := []) d4_38 (dle rfl) (dle rfl) (fun _ q => nomatch q) ⟨by rw [hasB_yes hy]; rfl, rfl⟩
  refine Own.aconstNull C d4_0 ?_
  refine Own.aloadN C d4_1 rfl rfl ?_
  refine acmp_ne C rfl rfl d4_2 (fun q10 => ?_) (fun q10 => ?_)
  · refine Own.iconst (v := 0) C d4_7 rfl ?_
    refine Own.istoreN (L' := #[.val (.ref a), .val (.ref b0), .val (.int (0 : Int32))]) C d4_8 rfl ?_
    exact loop (xs.length + 1) 0 h0 (by omega) (fun j hj => absurd hj (Nat.not_lt_zero j)) F G
  · cases q10
set_option maxRecDepth 65536 in
set_option maxHeartbeats 4000000 in
theorem k_at0 {Z : State} {a0 : Array Value} (hw : ∀ d ∈ tables_1, d.before a0 Z = true) (hs : Stt Z) {n0 : Nat} {h0 : Heap} {ta pa : Addr} {t0 t1 t2 t3 p0 p1 p2 tl pl : Int32} (htl : tl = 0 ∨ tl = 1 ∨ tl = 2 ∨ tl = 3 ∨ tl = 4) (hpl : pl = 0 ∨ pl = 1 ∨ pl = 2 ∨ pl = 3) (A : Ary Z h0 ta .char (chs [t0, t1, t2, t3])) (B : Ary Z h0 pa .char (chs [p0, p1, p2])) (O : Old Z n0 h0) :
    Con WD Z EL0 n0 (⟨"com/example/harnessd/harnessd/model/SearchContainsPinLaw", "at", "([CI[CII)Z"⟩ : MethodName) method_7_code 5 (some .boolean) (Rm 2 0 0 26) [(.ref ta), (.int tl), (.ref pa), (.int pl), (.int (0 : Int32))] h0 [] (fun v h gs => v = some (.int (atv t0 p0 t1 p1 t2 p2 tl pl 0)) ∧ gs = []) := by
  refine Con.of (a0 := a0) (by first | (simp [plainName, overriddenIn]; done) | decide +kernel) (hEL hw) hWE O (L0 := #[.val (.ref ta), .val (.int tl), .val (.ref pa), .val (.int pl), .val (.int (0 : Int32))]) (fun m => by first | rfl | (simp [entryFrame, mkF, argsToLocals, Value.category]; done)) ?_
  intro K C hh
  have A0 := A
  have B0 := B
  refine Own.iload C d9_0 rfl ?_
  refine Own.iloadN C d9_2 rfl ?_
  refine Own.iadd C d9_3 ?_
  refine Own.iloadN C d9_4 rfl ?_
  refine icmp_le C d9_5 (fun q1 => ?_) (fun q1 => ?_)
  · refine Own.iloadN C d9_10 rfl ?_
    refine Own.iconst (v := 1) C d9_11 rfl ?_
    refine icmp_lt C d9_12 (fun q2 => ?_) (fun q2 => ?_)
    · refine Own.iloadN C d9_30 rfl ?_
      refine Own.iconst (v := 2) C d9_31 rfl ?_
      refine icmp_lt C d9_32 (fun q3 => ?_) (fun q3 => ?_)
      · refine Own.iloadN C d9_52 rfl ?_
        refine Own.iconst (v := 3) C d9_53 rfl ?_
        refine icmp_lt C d9_54 (fun q4 => ?_) (fun q4 => ?_)
        · refine Own.iconst (v := 1) C d9_74 rfl ?_
          exact retZ C (gs := []) d9_75 (dle rfl) (dle rfl) (fun _ q => nomatch q) ⟨by rw [show atv t0 p0 t1 p1 t2 p2 tl pl 0 = 1 by unfold atv; rw [if_neg q1, if_neg (fun z => z.1 q2), if_neg (fun z => z.1 q3), if_neg (fun z => z.1 q4)]]; rfl, rfl⟩
        · refine Own.aloadN C d9_57 rfl rfl ?_
          refine Own.iload C d9_58 rfl ?_
          refine Own.iconst (v := 2) C d9_60 rfl ?_
          refine Own.iadd C d9_61 ?_
          refine caload_ C (v := .int t2) (A0) 2 (by decide) rfl d9_62 ?_
          refine Own.aloadN C d9_63 rfl rfl ?_
          refine Own.iconst (v := 2) C d9_64 rfl ?_
          refine caload_ C (v := .int p2) (B0) 2 (by decide) rfl d9_65 ?_
          refine callS_ C (as := [(.int t2), (.int p2)]) (st := []) (hw _ (List.mem_of_getElem? (i := 67) rfl)) (hw _ (List.mem_of_getElem? (i := 68) rfl)) (hw _ (List.mem_of_getElem? (i := 3) rfl)) (hw _ (List.mem_of_getElem? (i := 69) rfl)) ⟨by decide, by decide⟩ pd__28CC_29Z rfl (fun O => k_eq hw hs O) (fun _ q => nomatch q) rfl (dle rfl) (dle rfl) (dle rfl) (dle rfl) d9_66 rfl (fun v5 hp5 gs5 K5 Q5 => ?_)
          obtain ⟨rfl, rfl⟩ := Q5
          show Go _ K Z _ n0 _ _ 69 #[.val (.ref ta), .val (.int tl), .val (.ref pa), .val (.int pl), .val (.int (0 : Int32))] [(.int (eqv t2 p2))] hp5 _ _ _
          have A1 := A0.keep K5 nin0
          have B1 := B0.keep K5 nin0
          refine if_ne C d9_69 (fun q6 => ?_) (fun q6 => ?_)
          · refine Own.iconst (v := 1) C d9_74 rfl ?_
            exact retZ C (gs := []) d9_75 (dle rfl) (dle rfl) (fun _ q => nomatch q) ⟨by rw [show atv t0 p0 t1 p1 t2 p2 tl pl 0 = 1 by unfold atv; rw [if_neg q1, if_neg (fun z => z.1 q2), if_neg (fun z => z.1 q3), if_neg (fun z => q6 z.2)]]; rfl, rfl⟩
          · refine Own.iconst (v := 0) C d9_72 rfl ?_
            exact retZ C (gs := []) d9_73 (dle rfl) (dle rfl) (fun _ q => nomatch q) ⟨by rw [show atv t0 p0 t1 p1 t2 p2 tl pl 0 = 0 by unfold atv; rw [if_neg q1, if_neg (fun z => z.1 q2), if_neg (fun z => z.1 q3), if_pos ⟨q4, q6⟩]]; rfl, rfl⟩
      · refine Own.aloadN C d9_35 rfl rfl ?_
        refine Own.iload C d9_36 rfl ?_
        refine Own.iconst (v := 1) C d9_38 rfl ?_
        refine Own.iadd C d9_39 ?_
        refine caload_ C (v := .int t1) (A0) 1 (by decide) rfl d9_40 ?_
        refine Own.aloadN C d9_41 rfl rfl ?_
        refine Own.iconst (v := 1) C d9_42 rfl ?_
        refine caload_ C (v := .int p1) (B0) 1 (by decide) rfl d9_43 ?_
        refine callS_ C (as := [(.int t1), (.int p1)]) (st := []) (hw _ (List.mem_of_getElem? (i := 67) rfl)) (hw _ (List.mem_of_getElem? (i := 68) rfl)) (hw _ (List.mem_of_getElem? (i := 3) rfl)) (hw _ (List.mem_of_getElem? (i := 69) rfl)) ⟨by decide, by decide⟩ pd__28CC_29Z rfl (fun O => k_eq hw hs O) (fun _ q => nomatch q) rfl (dle rfl) (dle rfl) (dle rfl) (dle rfl) d9_44 rfl (fun v7 hp7 gs7 K7 Q7 => ?_)
        obtain ⟨rfl, rfl⟩ := Q7
        show Go _ K Z _ n0 _ _ 47 #[.val (.ref ta), .val (.int tl), .val (.ref pa), .val (.int pl), .val (.int (0 : Int32))] [(.int (eqv t1 p1))] hp7 _ _ _
        have A1 := A0.keep K7 nin0
        have B1 := B0.keep K7 nin0
        refine if_ne C d9_47 (fun q8 => ?_) (fun q8 => ?_)
        · refine Own.iloadN C d9_52 rfl ?_
          refine Own.iconst (v := 3) C d9_53 rfl ?_
          refine icmp_lt C d9_54 (fun q9 => ?_) (fun q9 => ?_)
          · refine Own.iconst (v := 1) C d9_74 rfl ?_
            exact retZ C (gs := []) d9_75 (dle rfl) (dle rfl) (fun _ q => nomatch q) ⟨by rw [show atv t0 p0 t1 p1 t2 p2 tl pl 0 = 1 by unfold atv; rw [if_neg q1, if_neg (fun z => z.1 q2), if_neg (fun z => q8 z.2), if_neg (fun z => z.1 q9)]]; rfl, rfl⟩
          · refine Own.aloadN C d9_57 rfl rfl ?_
            refine Own.iload C d9_58 rfl ?_
            refine Own.iconst (v := 2) C d9_60 rfl ?_
            refine Own.iadd C d9_61 ?_
            refine caload_ C (v := .int t2) (A1) 2 (by decide) rfl d9_62 ?_
            refine Own.aloadN C d9_63 rfl rfl ?_
            refine Own.iconst (v := 2) C d9_64 rfl ?_
            refine caload_ C (v := .int p2) (B1) 2 (by decide) rfl d9_65 ?_
            refine callS_ C (as := [(.int t2), (.int p2)]) (st := []) (hw _ (List.mem_of_getElem? (i := 67) rfl)) (hw _ (List.mem_of_getElem? (i := 68) rfl)) (hw _ (List.mem_of_getElem? (i := 3) rfl)) (hw _ (List.mem_of_getElem? (i := 69) rfl)) ⟨by decide, by decide⟩ pd__28CC_29Z rfl (fun O => k_eq hw hs O) (fun _ q => nomatch q) rfl (dle rfl) (dle rfl) (dle rfl) (dle rfl) d9_66 rfl (fun v10 hp10 gs10 K10 Q10 => ?_)
            obtain ⟨rfl, rfl⟩ := Q10
            show Go _ K Z _ n0 _ _ 69 #[.val (.ref ta), .val (.int tl), .val (.ref pa), .val (.int pl), .val (.int (0 : Int32))] [(.int (eqv t2 p2))] hp10 _ _ _
            have A1 := A1.keep K10 nin0
            have B1 := B1.keep K10 nin0
            refine if_ne C d9_69 (fun q11 => ?_) (fun q11 => ?_)
            · refine Own.iconst (v := 1) C d9_74 rfl ?_
              exact retZ C (gs := []) d9_75 (dle rfl) (dle rfl) (fun _ q => nomatch q) ⟨by rw [show atv t0 p0 t1 p1 t2 p2 tl pl 0 = 1 by unfold atv; rw [if_neg q1, if_neg (fun z => z.1 q2), if_neg (fun z => q8 z.2), if_neg (fun z => q11 z.2)]]; rfl, rfl⟩
            · refine Own.iconst (v := 0) C d9_72 rfl ?_
              exact retZ C (gs := []) d9_73 (dle rfl) (dle rfl) (fun _ q => nomatch q) ⟨by rw [show atv t0 p0 t1 p1 t2 p2 tl pl 0 = 0 by unfold atv; rw [if_neg q1, if_neg (fun z => z.1 q2), if_neg (fun z => q8 z.2), if_pos ⟨q9, q11⟩]]; rfl, rfl⟩
        · refine Own.iconst (v := 0) C d9_50 rfl ?_
          exact retZ C (gs := []) d9_51 (dle rfl) (dle rfl) (fun _ q => nomatch q) ⟨by rw [show atv t0 p0 t1 p1 t2 p2 tl pl 0 = 0 by unfold atv; rw [if_neg q1, if_neg (fun z => z.1 q2), if_pos ⟨q3, q8⟩]]; rfl, rfl⟩
    · refine Own.aloadN C d9_15 rfl rfl ?_
      refine Own.iload C d9_16 rfl ?_
      refine caload_ C (v := .int t0) (A0) 0 (by decide) rfl d9_18 ?_
      refine Own.aloadN C d9_19 rfl rfl ?_
      refine Own.iconst (v := 0) C d9_20 rfl ?_
      refine caload_ C (v := .int p0) (B0) 0 (by decide) rfl d9_21 ?_
      refine callS_ C (as := [(.int t0), (.int p0)]) (st := []) (hw _ (List.mem_of_getElem? (i := 67) rfl)) (hw _ (List.mem_of_getElem? (i := 68) rfl)) (hw _ (List.mem_of_getElem? (i := 3) rfl)) (hw _ (List.mem_of_getElem? (i := 69) rfl)) ⟨by decide, by decide⟩ pd__28CC_29Z rfl (fun O => k_eq hw hs O) (fun _ q => nomatch q) rfl (dle rfl) (dle rfl) (dle rfl) (dle rfl) d9_22 rfl (fun v12 hp12 gs12 K12 Q12 => ?_)
      obtain ⟨rfl, rfl⟩ := Q12
      show Go _ K Z _ n0 _ _ 25 #[.val (.ref ta), .val (.int tl), .val (.ref pa), .val (.int pl), .val (.int (0 : Int32))] [(.int (eqv t0 p0))] hp12 _ _ _
      have A1 := A0.keep K12 nin0
      have B1 := B0.keep K12 nin0
      refine if_ne C d9_25 (fun q13 => ?_) (fun q13 => ?_)
      · refine Own.iloadN C d9_30 rfl ?_
        refine Own.iconst (v := 2) C d9_31 rfl ?_
        refine icmp_lt C d9_32 (fun q14 => ?_) (fun q14 => ?_)
        · refine Own.iloadN C d9_52 rfl ?_
          refine Own.iconst (v := 3) C d9_53 rfl ?_
          refine icmp_lt C d9_54 (fun q15 => ?_) (fun q15 => ?_)
          · refine Own.iconst (v := 1) C d9_74 rfl ?_
            exact retZ C (gs := []) d9_75 (dle rfl) (dle rfl) (fun _ q => nomatch q) ⟨by rw [show atv t0 p0 t1 p1 t2 p2 tl pl 0 = 1 by unfold atv; rw [if_neg q1, if_neg (fun z => q13 z.2), if_neg (fun z => z.1 q14), if_neg (fun z => z.1 q15)]]; rfl, rfl⟩
          · refine Own.aloadN C d9_57 rfl rfl ?_
            refine Own.iload C d9_58 rfl ?_
            refine Own.iconst (v := 2) C d9_60 rfl ?_
            refine Own.iadd C d9_61 ?_
            refine caload_ C (v := .int t2) (A1) 2 (by decide) rfl d9_62 ?_
            refine Own.aloadN C d9_63 rfl rfl ?_
            refine Own.iconst (v := 2) C d9_64 rfl ?_
            refine caload_ C (v := .int p2) (B1) 2 (by decide) rfl d9_65 ?_
            refine callS_ C (as := [(.int t2), (.int p2)]) (st := []) (hw _ (List.mem_of_getElem? (i := 67) rfl)) (hw _ (List.mem_of_getElem? (i := 68) rfl)) (hw _ (List.mem_of_getElem? (i := 3) rfl)) (hw _ (List.mem_of_getElem? (i := 69) rfl)) ⟨by decide, by decide⟩ pd__28CC_29Z rfl (fun O => k_eq hw hs O) (fun _ q => nomatch q) rfl (dle rfl) (dle rfl) (dle rfl) (dle rfl) d9_66 rfl (fun v16 hp16 gs16 K16 Q16 => ?_)
            obtain ⟨rfl, rfl⟩ := Q16
            show Go _ K Z _ n0 _ _ 69 #[.val (.ref ta), .val (.int tl), .val (.ref pa), .val (.int pl), .val (.int (0 : Int32))] [(.int (eqv t2 p2))] hp16 _ _ _
            have A1 := A1.keep K16 nin0
            have B1 := B1.keep K16 nin0
            refine if_ne C d9_69 (fun q17 => ?_) (fun q17 => ?_)
            · refine Own.iconst (v := 1) C d9_74 rfl ?_
              exact retZ C (gs := []) d9_75 (dle rfl) (dle rfl) (fun _ q => nomatch q) ⟨by rw [show atv t0 p0 t1 p1 t2 p2 tl pl 0 = 1 by unfold atv; rw [if_neg q1, if_neg (fun z => q13 z.2), if_neg (fun z => z.1 q14), if_neg (fun z => q17 z.2)]]; rfl, rfl⟩
            · refine Own.iconst (v := 0) C d9_72 rfl ?_
              exact retZ C (gs := []) d9_73 (dle rfl) (dle rfl) (fun _ q => nomatch q) ⟨by rw [show atv t0 p0 t1 p1 t2 p2 tl pl 0 = 0 by unfold atv; rw [if_neg q1, if_neg (fun z => q13 z.2), if_neg (fun z => z.1 q14), if_pos ⟨q15, q17⟩]]; rfl, rfl⟩
        · refine Own.aloadN C d9_35 rfl rfl ?_
          refine Own.iload C d9_36 rfl ?_
          refine Own.iconst (v := 1) C d9_38 rfl ?_
          refine Own.iadd C d9_39 ?_
          refine caload_ C (v := .int t1) (A1) 1 (by decide) rfl d9_40 ?_
          refine Own.aloadN C d9_41 rfl rfl ?_
          refine Own.iconst (v := 1) C d9_42 rfl ?_
          refine caload_ C (v := .int p1) (B1) 1 (by decide) rfl d9_43 ?_
          refine callS_ C (as := [(.int t1), (.int p1)]) (st := []) (hw _ (List.mem_of_getElem? (i := 67) rfl)) (hw _ (List.mem_of_getElem? (i := 68) rfl)) (hw _ (List.mem_of_getElem? (i := 3) rfl)) (hw _ (List.mem_of_getElem? (i := 69) rfl)) ⟨by decide, by decide⟩ pd__28CC_29Z rfl (fun O => k_eq hw hs O) (fun _ q => nomatch q) rfl (dle rfl) (dle rfl) (dle rfl) (dle rfl) d9_44 rfl (fun v18 hp18 gs18 K18 Q18 => ?_)
          obtain ⟨rfl, rfl⟩ := Q18
          show Go _ K Z _ n0 _ _ 47 #[.val (.ref ta), .val (.int tl), .val (.ref pa), .val (.int pl), .val (.int (0 : Int32))] [(.int (eqv t1 p1))] hp18 _ _ _
          have A1 := A1.keep K18 nin0
          have B1 := B1.keep K18 nin0
          refine if_ne C d9_47 (fun q19 => ?_) (fun q19 => ?_)
          · refine Own.iloadN C d9_52 rfl ?_
            refine Own.iconst (v := 3) C d9_53 rfl ?_
            refine icmp_lt C d9_54 (fun q20 => ?_) (fun q20 => ?_)
            · refine Own.iconst (v := 1) C d9_74 rfl ?_
              exact retZ C (gs := []) d9_75 (dle rfl) (dle rfl) (fun _ q => nomatch q) ⟨by rw [show atv t0 p0 t1 p1 t2 p2 tl pl 0 = 1 by unfold atv; rw [if_neg q1, if_neg (fun z => q13 z.2), if_neg (fun z => q19 z.2), if_neg (fun z => z.1 q20)]]; rfl, rfl⟩
            · refine Own.aloadN C d9_57 rfl rfl ?_
              refine Own.iload C d9_58 rfl ?_
              refine Own.iconst (v := 2) C d9_60 rfl ?_
              refine Own.iadd C d9_61 ?_
              refine caload_ C (v := .int t2) (A1) 2 (by decide) rfl d9_62 ?_
              refine Own.aloadN C d9_63 rfl rfl ?_
              refine Own.iconst (v := 2) C d9_64 rfl ?_
              refine caload_ C (v := .int p2) (B1) 2 (by decide) rfl d9_65 ?_
              refine callS_ C (as := [(.int t2), (.int p2)]) (st := []) (hw _ (List.mem_of_getElem? (i := 67) rfl)) (hw _ (List.mem_of_getElem? (i := 68) rfl)) (hw _ (List.mem_of_getElem? (i := 3) rfl)) (hw _ (List.mem_of_getElem? (i := 69) rfl)) ⟨by decide, by decide⟩ pd__28CC_29Z rfl (fun O => k_eq hw hs O) (fun _ q => nomatch q) rfl (dle rfl) (dle rfl) (dle rfl) (dle rfl) d9_66 rfl (fun v21 hp21 gs21 K21 Q21 => ?_)
              obtain ⟨rfl, rfl⟩ := Q21
              show Go _ K Z _ n0 _ _ 69 #[.val (.ref ta), .val (.int tl), .val (.ref pa), .val (.int pl), .val (.int (0 : Int32))] [(.int (eqv t2 p2))] hp21 _ _ _
              have A1 := A1.keep K21 nin0
              have B1 := B1.keep K21 nin0
              refine if_ne C d9_69 (fun q22 => ?_) (fun q22 => ?_)
              · refine Own.iconst (v := 1) C d9_74 rfl ?_
                exact retZ C (gs := []) d9_75 (dle rfl) (dle rfl) (fun _ q => nomatch q) ⟨by rw [show atv t0 p0 t1 p1 t2 p2 tl pl 0 = 1 by unfold atv; rw [if_neg q1, if_neg (fun z => q13 z.2), if_neg (fun z => q19 z.2), if_neg (fun z => q22 z.2)]]; rfl, rfl⟩
              · refine Own.iconst (v := 0) C d9_72 rfl ?_
                exact retZ C (gs := []) d9_73 (dle rfl) (dle rfl) (fun _ q => nomatch q) ⟨by rw [show atv t0 p0 t1 p1 t2 p2 tl pl 0 = 0 by unfold atv; rw [if_neg q1, if_neg (fun z => q13 z.2), if_neg (fun z => q19 z.2), if_pos ⟨q20, q22⟩]]; rfl, rfl⟩
          · refine Own.iconst (v := 0) C d9_50 rfl ?_
            exact retZ C (gs := []) d9_51 (dle rfl) (dle rfl) (fun _ q => nomatch q) ⟨by rw [show atv t0 p0 t1 p1 t2 p2 tl pl 0 = 0 by unfold atv; rw [if_neg q1, if_neg (fun z => q13 z.2), if_pos ⟨q14, q19⟩]]; rfl, rfl⟩
      · refine Own.iconst (v := 0) C d9_28 rfl ?_
        exact retZ C (gs := []) d9_29 (dle rfl) (dle rfl) (fun _ q => nomatch q) ⟨by rw [show atv t0 p0 t1 p1 t2 p2 tl pl 0 = 0 by unfold atv; rw [if_neg q1, if_pos ⟨q2, q13⟩]]; rfl, rfl⟩
  · refine Own.iconst (v := 0) C d9_8 rfl ?_
    exact retZ C (gs := []) d9_9 (dle rfl) (dle rfl) (fun _ q => nomatch q) ⟨by rw [show atv t0 p0 t1 p1 t2 p2 tl pl 0 = 0 by unfold atv; rw [if_pos q1]]; rfl, rfl⟩
set_option maxRecDepth 65536 in
set_option maxHeartbeats 4000000 in
theorem k_at1 {Z : State} {a0 : Array Value} (hw : ∀ d ∈ tables_1, d.before a0 Z = true) (hs : Stt Z) {n0 : Nat} {h0 : Heap} {ta pa : Addr} {t0 t1 t2 t3 p0 p1 p2 tl pl : Int32} (htl : tl = 0 ∨ tl = 1 ∨ tl = 2 ∨ tl = 3 ∨ tl = 4) (hpl : pl = 0 ∨ pl = 1 ∨ pl = 2 ∨ pl = 3) (A : Ary Z h0 ta .char (chs [t0, t1, t2, t3])) (B : Ary Z h0 pa .char (chs [p0, p1, p2])) (O : Old Z n0 h0) :
    Con WD Z EL0 n0 (⟨"com/example/harnessd/harnessd/model/SearchContainsPinLaw", "at", "([CI[CII)Z"⟩ : MethodName) method_7_code 5 (some .boolean) (Rm 2 0 0 26) [(.ref ta), (.int tl), (.ref pa), (.int pl), (.int (1 : Int32))] h0 [] (fun v h gs => v = some (.int (atv t1 p0 t2 p1 t3 p2 tl pl 1)) ∧ gs = []) := by
  refine Con.of (a0 := a0) (by first | (simp [plainName, overriddenIn]; done) | decide +kernel) (hEL hw) hWE O (L0 := #[.val (.ref ta), .val (.int tl), .val (.ref pa), .val (.int pl), .val (.int (1 : Int32))]) (fun m => by first | rfl | (simp [entryFrame, mkF, argsToLocals, Value.category]; done)) ?_
  intro K C hh
  have A0 := A
  have B0 := B
  refine Own.iload C d9_0 rfl ?_
  refine Own.iloadN C d9_2 rfl ?_
  refine Own.iadd C d9_3 ?_
  refine Own.iloadN C d9_4 rfl ?_
  refine icmp_le C d9_5 (fun q1 => ?_) (fun q1 => ?_)
  · refine Own.iloadN C d9_10 rfl ?_
    refine Own.iconst (v := 1) C d9_11 rfl ?_
    refine icmp_lt C d9_12 (fun q2 => ?_) (fun q2 => ?_)
    · refine Own.iloadN C d9_30 rfl ?_
      refine Own.iconst (v := 2) C d9_31 rfl ?_
      refine icmp_lt C d9_32 (fun q3 => ?_) (fun q3 => ?_)
      · refine Own.iloadN C d9_52 rfl ?_
        refine Own.iconst (v := 3) C d9_53 rfl ?_
        refine icmp_lt C d9_54 (fun q4 => ?_) (fun q4 => ?_)
        · refine Own.iconst (v := 1) C d9_74 rfl ?_
          exact retZ C (gs := []) d9_75 (dle rfl) (dle rfl) (fun _ q => nomatch q) ⟨by rw [show atv t1 p0 t2 p1 t3 p2 tl pl 1 = 1 by unfold atv; rw [if_neg q1, if_neg (fun z => z.1 q2), if_neg (fun z => z.1 q3), if_neg (fun z => z.1 q4)]]; rfl, rfl⟩
        · refine Own.aloadN C d9_57 rfl rfl ?_
          refine Own.iload C d9_58 rfl ?_
          refine Own.iconst (v := 2) C d9_60 rfl ?_
          refine Own.iadd C d9_61 ?_
          refine caload_ C (v := .int t3) (A0) 3 (by decide) rfl d9_62 ?_
          refine Own.aloadN C d9_63 rfl rfl ?_
          refine Own.iconst (v := 2) C d9_64 rfl ?_
          refine caload_ C (v := .int p2) (B0) 2 (by decide) rfl d9_65 ?_
          refine callS_ C (as := [(.int t3), (.int p2)]) (st := []) (hw _ (List.mem_of_getElem? (i := 67) rfl)) (hw _ (List.mem_of_getElem? (i := 68) rfl)) (hw _ (List.mem_of_getElem? (i := 3) rfl)) (hw _ (List.mem_of_getElem? (i := 69) rfl)) ⟨by decide, by decide⟩ pd__28CC_29Z rfl (fun O => k_eq hw hs O) (fun _ q => nomatch q) rfl (dle rfl) (dle rfl) (dle rfl) (dle rfl) d9_66 rfl (fun v5 hp5 gs5 K5 Q5 => ?_)
          obtain ⟨rfl, rfl⟩ := Q5
          show Go _ K Z _ n0 _ _ 69 #[.val (.ref ta), .val (.int tl), .val (.ref pa), .val (.int pl), .val (.int (1 : Int32))] [(.int (eqv t3 p2))] hp5 _ _ _
          have A1 := A0.keep K5 nin0
          have B1 := B0.keep K5 nin0
          refine if_ne C d9_69 (fun q6 => ?_) (fun q6 => ?_)
          · refine Own.iconst (v := 1) C d9_74 rfl ?_
            exact retZ C (gs := []) d9_75 (dle rfl) (dle rfl) (fun _ q => nomatch q) ⟨by rw [show atv t1 p0 t2 p1 t3 p2 tl pl 1 = 1 by unfold atv; rw [if_neg q1, if_neg (fun z => z.1 q2), if_neg (fun z => z.1 q3), if_neg (fun z => q6 z.2)]]; rfl, rfl⟩
          · refine Own.iconst (v := 0) C d9_72 rfl ?_
            exact retZ C (gs := []) d9_73 (dle rfl) (dle rfl) (fun _ q => nomatch q) ⟨by rw [show atv t1 p0 t2 p1 t3 p2 tl pl 1 = 0 by unfold atv; rw [if_neg q1, if_neg (fun z => z.1 q2), if_neg (fun z => z.1 q3), if_pos ⟨q4, q6⟩]]; rfl, rfl⟩
      · refine Own.aloadN C d9_35 rfl rfl ?_
        refine Own.iload C d9_36 rfl ?_
        refine Own.iconst (v := 1) C d9_38 rfl ?_
        refine Own.iadd C d9_39 ?_
        refine caload_ C (v := .int t2) (A0) 2 (by decide) rfl d9_40 ?_
        refine Own.aloadN C d9_41 rfl rfl ?_
        refine Own.iconst (v := 1) C d9_42 rfl ?_
        refine caload_ C (v := .int p1) (B0) 1 (by decide) rfl d9_43 ?_
        refine callS_ C (as := [(.int t2), (.int p1)]) (st := []) (hw _ (List.mem_of_getElem? (i := 67) rfl)) (hw _ (List.mem_of_getElem? (i := 68) rfl)) (hw _ (List.mem_of_getElem? (i := 3) rfl)) (hw _ (List.mem_of_getElem? (i := 69) rfl)) ⟨by decide, by decide⟩ pd__28CC_29Z rfl (fun O => k_eq hw hs O) (fun _ q => nomatch q) rfl (dle rfl) (dle rfl) (dle rfl) (dle rfl) d9_44 rfl (fun v7 hp7 gs7 K7 Q7 => ?_)
        obtain ⟨rfl, rfl⟩ := Q7
        show Go _ K Z _ n0 _ _ 47 #[.val (.ref ta), .val (.int tl), .val (.ref pa), .val (.int pl), .val (.int (1 : Int32))] [(.int (eqv t2 p1))] hp7 _ _ _
        have A1 := A0.keep K7 nin0
        have B1 := B0.keep K7 nin0
        refine if_ne C d9_47 (fun q8 => ?_) (fun q8 => ?_)
        · refine Own.iloadN C d9_52 rfl ?_
          refine Own.iconst (v := 3) C d9_53 rfl ?_
          refine icmp_lt C d9_54 (fun q9 => ?_) (fun q9 => ?_)
          · refine Own.iconst (v := 1) C d9_74 rfl ?_
            exact retZ C (gs := []) d9_75 (dle rfl) (dle rfl) (fun _ q => nomatch q) ⟨by rw [show atv t1 p0 t2 p1 t3 p2 tl pl 1 = 1 by unfold atv; rw [if_neg q1, if_neg (fun z => z.1 q2), if_neg (fun z => q8 z.2), if_neg (fun z => z.1 q9)]]; rfl, rfl⟩
          · refine Own.aloadN C d9_57 rfl rfl ?_
            refine Own.iload C d9_58 rfl ?_
            refine Own.iconst (v := 2) C d9_60 rfl ?_
            refine Own.iadd C d9_61 ?_
            refine caload_ C (v := .int t3) (A1) 3 (by decide) rfl d9_62 ?_
            refine Own.aloadN C d9_63 rfl rfl ?_
            refine Own.iconst (v := 2) C d9_64 rfl ?_
            refine caload_ C (v := .int p2) (B1) 2 (by decide) rfl d9_65 ?_
            refine callS_ C (as := [(.int t3), (.int p2)]) (st := []) (hw _ (List.mem_of_getElem? (i := 67) rfl)) (hw _ (List.mem_of_getElem? (i := 68) rfl)) (hw _ (List.mem_of_getElem? (i := 3) rfl)) (hw _ (List.mem_of_getElem? (i := 69) rfl)) ⟨by decide, by decide⟩ pd__28CC_29Z rfl (fun O => k_eq hw hs O) (fun _ q => nomatch q) rfl (dle rfl) (dle rfl) (dle rfl) (dle rfl) d9_66 rfl (fun v10 hp10 gs10 K10 Q10 => ?_)
            obtain ⟨rfl, rfl⟩ := Q10
            show Go _ K Z _ n0 _ _ 69 #[.val (.ref ta), .val (.int tl), .val (.ref pa), .val (.int pl), .val (.int (1 : Int32))] [(.int (eqv t3 p2))] hp10 _ _ _
            have A1 := A1.keep K10 nin0
            have B1 := B1.keep K10 nin0
            refine if_ne C d9_69 (fun q11 => ?_) (fun q11 => ?_)
            · refine Own.iconst (v := 1) C d9_74 rfl ?_
              exact retZ C (gs := []) d9_75 (dle rfl) (dle rfl) (fun _ q => nomatch q) ⟨by rw [show atv t1 p0 t2 p1 t3 p2 tl pl 1 = 1 by unfold atv; rw [if_neg q1, if_neg (fun z => z.1 q2), if_neg (fun z => q8 z.2), if_neg (fun z => q11 z.2)]]; rfl, rfl⟩
            · refine Own.iconst (v := 0) C d9_72 rfl ?_
              exact retZ C (gs := []) d9_73 (dle rfl) (dle rfl) (fun _ q => nomatch q) ⟨by rw [show atv t1 p0 t2 p1 t3 p2 tl pl 1 = 0 by unfold atv; rw [if_neg q1, if_neg (fun z => z.1 q2), if_neg (fun z => q8 z.2), if_pos ⟨q9, q11⟩]]; rfl, rfl⟩
        · refine Own.iconst (v := 0) C d9_50 rfl ?_
          exact retZ C (gs := []) d9_51 (dle rfl) (dle rfl) (fun _ q => nomatch q) ⟨by rw [show atv t1 p0 t2 p1 t3 p2 tl pl 1 = 0 by unfold atv; rw [if_neg q1, if_neg (fun z => z.1 q2), if_pos ⟨q3, q8⟩]]; rfl, rfl⟩
    · refine Own.aloadN C d9_15 rfl rfl ?_
      refine Own.iload C d9_16 rfl ?_
      refine caload_ C (v := .int t1) (A0) 1 (by decide) rfl d9_18 ?_
      refine Own.aloadN C d9_19 rfl rfl ?_
      refine Own.iconst (v := 0) C d9_20 rfl ?_
      refine caload_ C (v := .int p0) (B0) 0 (by decide) rfl d9_21 ?_
      refine callS_ C (as := [(.int t1), (.int p0)]) (st := []) (hw _ (List.mem_of_getElem? (i := 67) rfl)) (hw _ (List.mem_of_getElem? (i := 68) rfl)) (hw _ (List.mem_of_getElem? (i := 3) rfl)) (hw _ (List.mem_of_getElem? (i := 69) rfl)) ⟨by decide, by decide⟩ pd__28CC_29Z rfl (fun O => k_eq hw hs O) (fun _ q => nomatch q) rfl (dle rfl) (dle rfl) (dle rfl) (dle rfl) d9_22 rfl (fun v12 hp12 gs12 K12 Q12 => ?_)
      obtain ⟨rfl, rfl⟩ := Q12
      show Go _ K Z _ n0 _ _ 25 #[.val (.ref ta), .val (.int tl), .val (.ref pa), .val (.int pl), .val (.int (1 : Int32))] [(.int (eqv t1 p0))] hp12 _ _ _
      have A1 := A0.keep K12 nin0
      have B1 := B0.keep K12 nin0
      refine if_ne C d9_25 (fun q13 => ?_) (fun q13 => ?_)
      · refine Own.iloadN C d9_30 rfl ?_
        refine Own.iconst (v := 2) C d9_31 rfl ?_
        refine icmp_lt C d9_32 (fun q14 => ?_) (fun q14 => ?_)
        · refine Own.iloadN C d9_52 rfl ?_
          refine Own.iconst (v := 3) C d9_53 rfl ?_
          refine icmp_lt C d9_54 (fun q15 => ?_) (fun q15 => ?_)
          · refine Own.iconst (v := 1) C d9_74 rfl ?_
            exact retZ C (gs := []) d9_75 (dle rfl) (dle rfl) (fun _ q => nomatch q) ⟨by rw [show atv t1 p0 t2 p1 t3 p2 tl pl 1 = 1 by unfold atv; rw [if_neg q1, if_neg (fun z => q13 z.2), if_neg (fun z => z.1 q14), if_neg (fun z => z.1 q15)]]; rfl, rfl⟩
          · refine Own.aloadN C d9_57 rfl rfl ?_
            refine Own.iload C d9_58 rfl ?_
            refine Own.iconst (v := 2) C d9_60 rfl ?_
            refine Own.iadd C d9_61 ?_
            refine caload_ C (v := .int t3) (A1) 3 (by decide) rfl d9_62 ?_
            refine Own.aloadN C d9_63 rfl rfl ?_
            refine Own.iconst (v := 2) C d9_64 rfl ?_
            refine caload_ C (v := .int p2) (B1) 2 (by decide) rfl d9_65 ?_
            refine callS_ C (as := [(.int t3), (.int p2)]) (st := []) (hw _ (List.mem_of_getElem? (i := 67) rfl)) (hw _ (List.mem_of_getElem? (i := 68) rfl)) (hw _ (List.mem_of_getElem? (i := 3) rfl)) (hw _ (List.mem_of_getElem? (i := 69) rfl)) ⟨by decide, by decide⟩ pd__28CC_29Z rfl (fun O => k_eq hw hs O) (fun _ q => nomatch q) rfl (dle rfl) (dle rfl) (dle rfl) (dle rfl) d9_66 rfl (fun v16 hp16 gs16 K16 Q16 => ?_)
            obtain ⟨rfl, rfl⟩ := Q16
            show Go _ K Z _ n0 _ _ 69 #[.val (.ref ta), .val (.int tl), .val (.ref pa), .val (.int pl), .val (.int (1 : Int32))] [(.int (eqv t3 p2))] hp16 _ _ _
            have A1 := A1.keep K16 nin0
            have B1 := B1.keep K16 nin0
            refine if_ne C d9_69 (fun q17 => ?_) (fun q17 => ?_)
            · refine Own.iconst (v := 1) C d9_74 rfl ?_
              exact retZ C (gs := []) d9_75 (dle rfl) (dle rfl) (fun _ q => nomatch q) ⟨by rw [show atv t1 p0 t2 p1 t3 p2 tl pl 1 = 1 by unfold atv; rw [if_neg q1, if_neg (fun z => q13 z.2), if_neg (fun z => z.1 q14), if_neg (fun z => q17 z.2)]]; rfl, rfl⟩
            · refine Own.iconst (v := 0) C d9_72 rfl ?_
              exact retZ C (gs := []) d9_73 (dle rfl) (dle rfl) (fun _ q => nomatch q) ⟨by rw [show atv t1 p0 t2 p1 t3 p2 tl pl 1 = 0 by unfold atv; rw [if_neg q1, if_neg (fun z => q13 z.2), if_neg (fun z => z.1 q14), if_pos ⟨q15, q17⟩]]; rfl, rfl⟩
        · refine Own.aloadN C d9_35 rfl rfl ?_
          refine Own.iload C d9_36 rfl ?_
          refine Own.iconst (v := 1) C d9_38 rfl ?_
          refine Own.iadd C d9_39 ?_
          refine caload_ C (v := .int t2) (A1) 2 (by decide) rfl d9_40 ?_
          refine Own.aloadN C d9_41 rfl rfl ?_
          refine Own.iconst (v := 1) C d9_42 rfl ?_
          refine caload_ C (v := .int p1) (B1) 1 (by decide) rfl d9_43 ?_
          refine callS_ C (as := [(.int t2), (.int p1)]) (st := []) (hw _ (List.mem_of_getElem? (i := 67) rfl)) (hw _ (List.mem_of_getElem? (i := 68) rfl)) (hw _ (List.mem_of_getElem? (i := 3) rfl)) (hw _ (List.mem_of_getElem? (i := 69) rfl)) ⟨by decide, by decide⟩ pd__28CC_29Z rfl (fun O => k_eq hw hs O) (fun _ q => nomatch q) rfl (dle rfl) (dle rfl) (dle rfl) (dle rfl) d9_44 rfl (fun v18 hp18 gs18 K18 Q18 => ?_)
          obtain ⟨rfl, rfl⟩ := Q18
          show Go _ K Z _ n0 _ _ 47 #[.val (.ref ta), .val (.int tl), .val (.ref pa), .val (.int pl), .val (.int (1 : Int32))] [(.int (eqv t2 p1))] hp18 _ _ _
          have A1 := A1.keep K18 nin0
          have B1 := B1.keep K18 nin0
          refine if_ne C d9_47 (fun q19 => ?_) (fun q19 => ?_)
          · refine Own.iloadN C d9_52 rfl ?_
            refine Own.iconst (v := 3) C d9_53 rfl ?_
            refine icmp_lt C d9_54 (fun q20 => ?_) (fun q20 => ?_)
            · refine Own.iconst (v := 1) C d9_74 rfl ?_
              exact retZ C (gs := []) d9_75 (dle rfl) (dle rfl) (fun _ q => nomatch q) ⟨by rw [show atv t1 p0 t2 p1 t3 p2 tl pl 1 = 1 by unfold atv; rw [if_neg q1, if_neg (fun z => q13 z.2), if_neg (fun z => q19 z.2), if_neg (fun z => z.1 q20)]]; rfl, rfl⟩
            · refine Own.aloadN C d9_57 rfl rfl ?_
              refine Own.iload C d9_58 rfl ?_
              refine Own.iconst (v := 2) C d9_60 rfl ?_
              refine Own.iadd C d9_61 ?_
              refine caload_ C (v := .int t3) (A1) 3 (by decide) rfl d9_62 ?_
              refine Own.aloadN C d9_63 rfl rfl ?_
              refine Own.iconst (v := 2) C d9_64 rfl ?_
              refine caload_ C (v := .int p2) (B1) 2 (by decide) rfl d9_65 ?_
              refine callS_ C (as := [(.int t3), (.int p2)]) (st := []) (hw _ (List.mem_of_getElem? (i := 67) rfl)) (hw _ (List.mem_of_getElem? (i := 68) rfl)) (hw _ (List.mem_of_getElem? (i := 3) rfl)) (hw _ (List.mem_of_getElem? (i := 69) rfl)) ⟨by decide, by decide⟩ pd__28CC_29Z rfl (fun O => k_eq hw hs O) (fun _ q => nomatch q) rfl (dle rfl) (dle rfl) (dle rfl) (dle rfl) d9_66 rfl (fun v21 hp21 gs21 K21 Q21 => ?_)
              obtain ⟨rfl, rfl⟩ := Q21
              show Go _ K Z _ n0 _ _ 69 #[.val (.ref ta), .val (.int tl), .val (.ref pa), .val (.int pl), .val (.int (1 : Int32))] [(.int (eqv t3 p2))] hp21 _ _ _
              have A1 := A1.keep K21 nin0
              have B1 := B1.keep K21 nin0
              refine if_ne C d9_69 (fun q22 => ?_) (fun q22 => ?_)
              · refine Own.iconst (v := 1) C d9_74 rfl ?_
                exact retZ C (gs := []) d9_75 (dle rfl) (dle rfl) (fun _ q => nomatch q) ⟨by rw [show atv t1 p0 t2 p1 t3 p2 tl pl 1 = 1 by unfold atv; rw [if_neg q1, if_neg (fun z => q13 z.2), if_neg (fun z => q19 z.2), if_neg (fun z => q22 z.2)]]; rfl, rfl⟩
              · refine Own.iconst (v := 0) C d9_72 rfl ?_
                exact retZ C (gs := []) d9_73 (dle rfl) (dle rfl) (fun _ q => nomatch q) ⟨by rw [show atv t1 p0 t2 p1 t3 p2 tl pl 1 = 0 by unfold atv; rw [if_neg q1, if_neg (fun z => q13 z.2), if_neg (fun z => q19 z.2), if_pos ⟨q20, q22⟩]]; rfl, rfl⟩
          · refine Own.iconst (v := 0) C d9_50 rfl ?_
            exact retZ C (gs := []) d9_51 (dle rfl) (dle rfl) (fun _ q => nomatch q) ⟨by rw [show atv t1 p0 t2 p1 t3 p2 tl pl 1 = 0 by unfold atv; rw [if_neg q1, if_neg (fun z => q13 z.2), if_pos ⟨q14, q19⟩]]; rfl, rfl⟩
      · refine Own.iconst (v := 0) C d9_28 rfl ?_
        exact retZ C (gs := []) d9_29 (dle rfl) (dle rfl) (fun _ q => nomatch q) ⟨by rw [show atv t1 p0 t2 p1 t3 p2 tl pl 1 = 0 by unfold atv; rw [if_neg q1, if_pos ⟨q2, q13⟩]]; rfl, rfl⟩
  · refine Own.iconst (v := 0) C d9_8 rfl ?_
    exact retZ C (gs := []) d9_9 (dle rfl) (dle rfl) (fun _ q => nomatch q) ⟨by rw [show atv t1 p0 t2 p1 t3 p2 tl pl 1 = 0 by unfold atv; rw [if_pos q1]]; rfl, rfl⟩
set_option maxRecDepth 65536 in
set_option maxHeartbeats 4000000 in
theorem k_at2 {Z : State} {a0 : Array Value} (hw : ∀ d ∈ tables_1, d.before a0 Z = true) (hs : Stt Z) {n0 : Nat} {h0 : Heap} {ta pa : Addr} {t0 t1 t2 t3 p0 p1 p2 tl pl : Int32} (htl : tl = 0 ∨ tl = 1 ∨ tl = 2 ∨ tl = 3 ∨ tl = 4) (hpl : pl = 0 ∨ pl = 1 ∨ pl = 2 ∨ pl = 3) (A : Ary Z h0 ta .char (chs [t0, t1, t2, t3])) (B : Ary Z h0 pa .char (chs [p0, p1, p2])) (O : Old Z n0 h0) :
    Con WD Z EL0 n0 (⟨"com/example/harnessd/harnessd/model/SearchContainsPinLaw", "at", "([CI[CII)Z"⟩ : MethodName) method_7_code 5 (some .boolean) (Rm 2 0 0 26) [(.ref ta), (.int tl), (.ref pa), (.int pl), (.int (2 : Int32))] h0 [] (fun v h gs => v = some (.int (atv t2 p0 t3 p1 0 p2 tl pl 2)) ∧ gs = []) := by
  refine Con.of (a0 := a0) (by first | (simp [plainName, overriddenIn]; done) | decide +kernel) (hEL hw) hWE O (L0 := #[.val (.ref ta), .val (.int tl), .val (.ref pa), .val (.int pl), .val (.int (2 : Int32))]) (fun m => by first | rfl | (simp [entryFrame, mkF, argsToLocals, Value.category]; done)) ?_
  intro K C hh
  have A0 := A
  have B0 := B
  refine Own.iload C d9_0 rfl ?_
  refine Own.iloadN C d9_2 rfl ?_
  refine Own.iadd C d9_3 ?_
  refine Own.iloadN C d9_4 rfl ?_
  refine icmp_le C d9_5 (fun q1 => ?_) (fun q1 => ?_)
  · refine Own.iloadN C d9_10 rfl ?_
    refine Own.iconst (v := 1) C d9_11 rfl ?_
    refine icmp_lt C d9_12 (fun q2 => ?_) (fun q2 => ?_)
    · refine Own.iloadN C d9_30 rfl ?_
      refine Own.iconst (v := 2) C d9_31 rfl ?_
      refine icmp_lt C d9_32 (fun q3 => ?_) (fun q3 => ?_)
      · refine Own.iloadN C d9_52 rfl ?_
        refine Own.iconst (v := 3) C d9_53 rfl ?_
        refine icmp_lt C d9_54 (fun q4 => ?_) (fun q4 => ?_)
        · refine Own.iconst (v := 1) C d9_74 rfl ?_
          exact retZ C (gs := []) d9_75 (dle rfl) (dle rfl) (fun _ q => nomatch q) ⟨by rw [show atv t2 p0 t3 p1 0 p2 tl pl 2 = 1 by unfold atv; rw [if_neg q1, if_neg (fun z => z.1 q2), if_neg (fun z => z.1 q3), if_neg (fun z => z.1 q4)]]; rfl, rfl⟩
        · exfalso
          revert q1 q4
          rcases htl with rfl | rfl | rfl | rfl | rfl <;> rcases hpl with rfl | rfl | rfl | rfl <;> decide
      · refine Own.aloadN C d9_35 rfl rfl ?_
        refine Own.iload C d9_36 rfl ?_
        refine Own.iconst (v := 1) C d9_38 rfl ?_
        refine Own.iadd C d9_39 ?_
        refine caload_ C (v := .int t3) (A0) 3 (by decide) rfl d9_40 ?_
        refine Own.aloadN C d9_41 rfl rfl ?_
        refine Own.iconst (v := 1) C d9_42 rfl ?_
        refine caload_ C (v := .int p1) (B0) 1 (by decide) rfl d9_43 ?_
        refine callS_ C (as := [(.int t3), (.int p1)]) (st := []) (hw _ (List.mem_of_getElem? (i := 67) rfl)) (hw _ (List.mem_of_getElem? (i := 68) rfl)) (hw _ (List.mem_of_getElem? (i := 3) rfl)) (hw _ (List.mem_of_getElem? (i := 69) rfl)) ⟨by decide, by decide⟩ pd__28CC_29Z rfl (fun O => k_eq hw hs O) (fun _ q => nomatch q) rfl (dle rfl) (dle rfl) (dle rfl) (dle rfl) d9_44 rfl (fun v5 hp5 gs5 K5 Q5 => ?_)
        obtain ⟨rfl, rfl⟩ := Q5
        show Go _ K Z _ n0 _ _ 47 #[.val (.ref ta), .val (.int tl), .val (.ref pa), .val (.int pl), .val (.int (2 : Int32))] [(.int (eqv t3 p1))] hp5 _ _ _
        have A1 := A0.keep K5 nin0
        have B1 := B0.keep K5 nin0
        refine if_ne C d9_47 (fun q6 => ?_) (fun q6 => ?_)
        · refine Own.iloadN C d9_52 rfl ?_
          refine Own.iconst (v := 3) C d9_53 rfl ?_
          refine icmp_lt C d9_54 (fun q7 => ?_) (fun q7 => ?_)
          · refine Own.iconst (v := 1) C d9_74 rfl ?_
            exact retZ C (gs := []) d9_75 (dle rfl) (dle rfl) (fun _ q => nomatch q) ⟨by rw [show atv t2 p0 t3 p1 0 p2 tl pl 2 = 1 by unfold atv; rw [if_neg q1, if_neg (fun z => z.1 q2), if_neg (fun z => q6 z.2), if_neg (fun z => z.1 q7)]]; rfl, rfl⟩
          · exfalso
            revert q1 q7
            rcases htl with rfl | rfl | rfl | rfl | rfl <;> rcases hpl with rfl | rfl | rfl | rfl <;> decide
        · refine Own.iconst (v := 0) C d9_50 rfl ?_
          exact retZ C (gs := []) d9_51 (dle rfl) (dle rfl) (fun _ q => nomatch q) ⟨by rw [show atv t2 p0 t3 p1 0 p2 tl pl 2 = 0 by unfold atv; rw [if_neg q1, if_neg (fun z => z.1 q2), if_pos ⟨q3, q6⟩]]; rfl, rfl⟩
    · refine Own.aloadN C d9_15 rfl rfl ?_
      refine Own.iload C d9_16 rfl ?_
      refine caload_ C (v := .int t2) (A0) 2 (by decide) rfl d9_18 ?_
      refine Own.aloadN C d9_19 rfl rfl ?_
      refine Own.iconst (v := 0) C d9_20 rfl ?_
      refine caload_ C (v := .int p0) (B0) 0 (by decide) rfl d9_21 ?_
      refine callS_ C (as := [(.int t2), (.int p0)]) (st := []) (hw _ (List.mem_of_getElem? (i := 67) rfl)) (hw _ (List.mem_of_getElem? (i := 68) rfl)) (hw _ (List.mem_of_getElem? (i := 3) rfl)) (hw _ (List.mem_of_getElem? (i := 69) rfl)) ⟨by decide, by decide⟩ pd__28CC_29Z rfl (fun O => k_eq hw hs O) (fun _ q => nomatch q) rfl (dle rfl) (dle rfl) (dle rfl) (dle rfl) d9_22 rfl (fun v8 hp8 gs8 K8 Q8 => ?_)
      obtain ⟨rfl, rfl⟩ := Q8
      show Go _ K Z _ n0 _ _ 25 #[.val (.ref ta), .val (.int tl), .val (.ref pa), .val (.int pl), .val (.int (2 : Int32))] [(.int (eqv t2 p0))] hp8 _ _ _
      have A1 := A0.keep K8 nin0
      have B1 := B0.keep K8 nin0
      refine if_ne C d9_25 (fun q9 => ?_) (fun q9 => ?_)
      · refine Own.iloadN C d9_30 rfl ?_
        refine Own.iconst (v := 2) C d9_31 rfl ?_
        refine icmp_lt C d9_32 (fun q10 => ?_) (fun q10 => ?_)
        · refine Own.iloadN C d9_52 rfl ?_
          refine Own.iconst (v := 3) C d9_53 rfl ?_
          refine icmp_lt C d9_54 (fun q11 => ?_) (fun q11 => ?_)
          · refine Own.iconst (v := 1) C d9_74 rfl ?_
            exact retZ C (gs := []) d9_75 (dle rfl) (dle rfl) (fun _ q => nomatch q) ⟨by rw [show atv t2 p0 t3 p1 0 p2 tl pl 2 = 1 by unfold atv; rw [if_neg q1, if_neg (fun z => q9 z.2), if_neg (fun z => z.1 q10), if_neg (fun z => z.1 q11)]]; rfl, rfl⟩
          · exfalso
            revert q1 q11
            rcases htl with rfl | rfl | rfl | rfl | rfl <;> rcases hpl with rfl | rfl | rfl | rfl <;> decide
        · refine Own.aloadN C d9_35 rfl rfl ?_
          refine Own.iload C d9_36 rfl ?_
          refine Own.iconst (v := 1) C d9_38 rfl ?_
          refine Own.iadd C d9_39 ?_
          refine caload_ C (v := .int t3) (A1) 3 (by decide) rfl d9_40 ?_
          refine Own.aloadN C d9_41 rfl rfl ?_
          refine Own.iconst (v := 1) C d9_42 rfl ?_
          refine caload_ C (v := .int p1) (B1) 1 (by decide) rfl d9_43 ?_
          refine callS_ C (as := [(.int t3), (.int p1)]) (st := []) (hw _ (List.mem_of_getElem? (i := 67) rfl)) (hw _ (List.mem_of_getElem? (i := 68) rfl)) (hw _ (List.mem_of_getElem? (i := 3) rfl)) (hw _ (List.mem_of_getElem? (i := 69) rfl)) ⟨by decide, by decide⟩ pd__28CC_29Z rfl (fun O => k_eq hw hs O) (fun _ q => nomatch q) rfl (dle rfl) (dle rfl) (dle rfl) (dle rfl) d9_44 rfl (fun v12 hp12 gs12 K12 Q12 => ?_)
          obtain ⟨rfl, rfl⟩ := Q12
          show Go _ K Z _ n0 _ _ 47 #[.val (.ref ta), .val (.int tl), .val (.ref pa), .val (.int pl), .val (.int (2 : Int32))] [(.int (eqv t3 p1))] hp12 _ _ _
          have A1 := A1.keep K12 nin0
          have B1 := B1.keep K12 nin0
          refine if_ne C d9_47 (fun q13 => ?_) (fun q13 => ?_)
          · refine Own.iloadN C d9_52 rfl ?_
            refine Own.iconst (v := 3) C d9_53 rfl ?_
            refine icmp_lt C d9_54 (fun q14 => ?_) (fun q14 => ?_)
            · refine Own.iconst (v := 1) C d9_74 rfl ?_
              exact retZ C (gs := []) d9_75 (dle rfl) (dle rfl) (fun _ q => nomatch q) ⟨by rw [show atv t2 p0 t3 p1 0 p2 tl pl 2 = 1 by unfold atv; rw [if_neg q1, if_neg (fun z => q9 z.2), if_neg (fun z => q13 z.2), if_neg (fun z => z.1 q14)]]; rfl, rfl⟩
            · exfalso
              revert q1 q14
              rcases htl with rfl | rfl | rfl | rfl | rfl <;> rcases hpl with rfl | rfl | rfl | rfl <;> decide
          · refine Own.iconst (v := 0) C d9_50 rfl ?_
            exact retZ C (gs := []) d9_51 (dle rfl) (dle rfl) (fun _ q => nomatch q) ⟨by rw [show atv t2 p0 t3 p1 0 p2 tl pl 2 = 0 by unfold atv; rw [if_neg q1, if_neg (fun z => q9 z.2), if_pos ⟨q10, q13⟩]]; rfl, rfl⟩
      · refine Own.iconst (v := 0) C d9_28 rfl ?_
        exact retZ C (gs := []) d9_29 (dle rfl) (dle rfl) (fun _ q => nomatch q) ⟨by rw [show atv t2 p0 t3 p1 0 p2 tl pl 2 = 0 by unfold atv; rw [if_neg q1, if_pos ⟨q2, q9⟩]]; rfl, rfl⟩
  · refine Own.iconst (v := 0) C d9_8 rfl ?_
    exact retZ C (gs := []) d9_9 (dle rfl) (dle rfl) (fun _ q => nomatch q) ⟨by rw [show atv t2 p0 t3 p1 0 p2 tl pl 2 = 0 by unfold atv; rw [if_pos q1]]; rfl, rfl⟩
set_option maxRecDepth 65536 in
set_option maxHeartbeats 4000000 in
theorem k_at3 {Z : State} {a0 : Array Value} (hw : ∀ d ∈ tables_1, d.before a0 Z = true) (hs : Stt Z) {n0 : Nat} {h0 : Heap} {ta pa : Addr} {t0 t1 t2 t3 p0 p1 p2 tl pl : Int32} (htl : tl = 0 ∨ tl = 1 ∨ tl = 2 ∨ tl = 3 ∨ tl = 4) (hpl : pl = 0 ∨ pl = 1 ∨ pl = 2 ∨ pl = 3) (A : Ary Z h0 ta .char (chs [t0, t1, t2, t3])) (B : Ary Z h0 pa .char (chs [p0, p1, p2])) (O : Old Z n0 h0) :
    Con WD Z EL0 n0 (⟨"com/example/harnessd/harnessd/model/SearchContainsPinLaw", "at", "([CI[CII)Z"⟩ : MethodName) method_7_code 5 (some .boolean) (Rm 2 0 0 26) [(.ref ta), (.int tl), (.ref pa), (.int pl), (.int (3 : Int32))] h0 [] (fun v h gs => v = some (.int (atv t3 p0 0 p1 0 p2 tl pl 3)) ∧ gs = []) := by
  refine Con.of (a0 := a0) (by first | (simp [plainName, overriddenIn]; done) | decide +kernel) (hEL hw) hWE O (L0 := #[.val (.ref ta), .val (.int tl), .val (.ref pa), .val (.int pl), .val (.int (3 : Int32))]) (fun m => by first | rfl | (simp [entryFrame, mkF, argsToLocals, Value.category]; done)) ?_
  intro K C hh
  have A0 := A
  have B0 := B
  refine Own.iload C d9_0 rfl ?_
  refine Own.iloadN C d9_2 rfl ?_
  refine Own.iadd C d9_3 ?_
  refine Own.iloadN C d9_4 rfl ?_
  refine icmp_le C d9_5 (fun q1 => ?_) (fun q1 => ?_)
  · refine Own.iloadN C d9_10 rfl ?_
    refine Own.iconst (v := 1) C d9_11 rfl ?_
    refine icmp_lt C d9_12 (fun q2 => ?_) (fun q2 => ?_)
    · refine Own.iloadN C d9_30 rfl ?_
      refine Own.iconst (v := 2) C d9_31 rfl ?_
      refine icmp_lt C d9_32 (fun q3 => ?_) (fun q3 => ?_)
      · refine Own.iloadN C d9_52 rfl ?_
        refine Own.iconst (v := 3) C d9_53 rfl ?_
        refine icmp_lt C d9_54 (fun q4 => ?_) (fun q4 => ?_)
        · refine Own.iconst (v := 1) C d9_74 rfl ?_
          exact retZ C (gs := []) d9_75 (dle rfl) (dle rfl) (fun _ q => nomatch q) ⟨by rw [show atv t3 p0 0 p1 0 p2 tl pl 3 = 1 by unfold atv; rw [if_neg q1, if_neg (fun z => z.1 q2), if_neg (fun z => z.1 q3), if_neg (fun z => z.1 q4)]]; rfl, rfl⟩
        · exfalso
          revert q1 q4
          rcases htl with rfl | rfl | rfl | rfl | rfl <;> rcases hpl with rfl | rfl | rfl | rfl <;> decide
      · exfalso
        revert q1 q3
        rcases htl with rfl | rfl | rfl | rfl | rfl <;> rcases hpl with rfl | rfl | rfl | rfl <;> decide
    · refine Own.aloadN C d9_15 rfl rfl ?_
      refine Own.iload C d9_16 rfl ?_
      refine caload_ C (v := .int t3) (A0) 3 (by decide) rfl d9_18 ?_
      refine Own.aloadN C d9_19 rfl rfl ?_
      refine Own.iconst (v := 0) C d9_20 rfl ?_
      refine caload_ C (v := .int p0) (B0) 0 (by decide) rfl d9_21 ?_
      refine callS_ C (as := [(.int t3), (.int p0)]) (st := []) (hw _ (List.mem_of_getElem? (i := 67) rfl)) (hw _ (List.mem_of_getElem? (i := 68) rfl)) (hw _ (List.mem_of_getElem? (i := 3) rfl)) (hw _ (List.mem_of_getElem? (i := 69) rfl)) ⟨by decide, by decide⟩ pd__28CC_29Z rfl (fun O => k_eq hw hs O) (fun _ q => nomatch q) rfl (dle rfl) (dle rfl) (dle rfl) (dle rfl) d9_22 rfl (fun v5 hp5 gs5 K5 Q5 => ?_)
      obtain ⟨rfl, rfl⟩ := Q5
      show Go _ K Z _ n0 _ _ 25 #[.val (.ref ta), .val (.int tl), .val (.ref pa), .val (.int pl), .val (.int (3 : Int32))] [(.int (eqv t3 p0))] hp5 _ _ _
      have A1 := A0.keep K5 nin0
      have B1 := B0.keep K5 nin0
      refine if_ne C d9_25 (fun q6 => ?_) (fun q6 => ?_)
      · refine Own.iloadN C d9_30 rfl ?_
        refine Own.iconst (v := 2) C d9_31 rfl ?_
        refine icmp_lt C d9_32 (fun q7 => ?_) (fun q7 => ?_)
        · refine Own.iloadN C d9_52 rfl ?_
          refine Own.iconst (v := 3) C d9_53 rfl ?_
          refine icmp_lt C d9_54 (fun q8 => ?_) (fun q8 => ?_)
          · refine Own.iconst (v := 1) C d9_74 rfl ?_
            exact retZ C (gs := []) d9_75 (dle rfl) (dle rfl) (fun _ q => nomatch q) ⟨by rw [show atv t3 p0 0 p1 0 p2 tl pl 3 = 1 by unfold atv; rw [if_neg q1, if_neg (fun z => q6 z.2), if_neg (fun z => z.1 q7), if_neg (fun z => z.1 q8)]]; rfl, rfl⟩
          · exfalso
            revert q1 q8
            rcases htl with rfl | rfl | rfl | rfl | rfl <;> rcases hpl with rfl | rfl | rfl | rfl <;> decide
        · exfalso
          revert q1 q7
          rcases htl with rfl | rfl | rfl | rfl | rfl <;> rcases hpl with rfl | rfl | rfl | rfl <;> decide
      · refine Own.iconst (v := 0) C d9_28 rfl ?_
        exact retZ C (gs := []) d9_29 (dle rfl) (dle rfl) (fun _ q => nomatch q) ⟨by rw [show atv t3 p0 0 p1 0 p2 tl pl 3 = 0 by unfold atv; rw [if_neg q1, if_pos ⟨q2, q6⟩]]; rfl, rfl⟩
  · refine Own.iconst (v := 0) C d9_8 rfl ?_
    exact retZ C (gs := []) d9_9 (dle rfl) (dle rfl) (fun _ q => nomatch q) ⟨by rw [show atv t3 p0 0 p1 0 p2 tl pl 3 = 0 by unfold atv; rw [if_pos q1]]; rfl, rfl⟩
set_option maxRecDepth 65536 in
set_option maxHeartbeats 4000000 in
theorem k_at4 {Z : State} {a0 : Array Value} (hw : ∀ d ∈ tables_1, d.before a0 Z = true) (hs : Stt Z) {n0 : Nat} {h0 : Heap} {ta pa : Addr} {t0 t1 t2 t3 p0 p1 p2 tl pl : Int32} (htl : tl = 0 ∨ tl = 1 ∨ tl = 2 ∨ tl = 3 ∨ tl = 4) (hpl : pl = 0 ∨ pl = 1 ∨ pl = 2 ∨ pl = 3) (A : Ary Z h0 ta .char (chs [t0, t1, t2, t3])) (B : Ary Z h0 pa .char (chs [p0, p1, p2])) (O : Old Z n0 h0) :
    Con WD Z EL0 n0 (⟨"com/example/harnessd/harnessd/model/SearchContainsPinLaw", "at", "([CI[CII)Z"⟩ : MethodName) method_7_code 5 (some .boolean) (Rm 0 0 0 0) [(.ref ta), (.int tl), (.ref pa), (.int pl), (.int (4 : Int32))] h0 [] (fun v h gs => v = some (.int (atv 0 p0 0 p1 0 p2 tl pl 4)) ∧ gs = []) := by
  refine Con.of (a0 := a0) (by first | (simp [plainName, overriddenIn]; done) | decide +kernel) (hEL hw) hWE O (L0 := #[.val (.ref ta), .val (.int tl), .val (.ref pa), .val (.int pl), .val (.int (4 : Int32))]) (fun m => by first | rfl | (simp [entryFrame, mkF, argsToLocals, Value.category]; done)) ?_
  intro K C hh
  have A0 := A
  have B0 := B
  refine Own.iload C d9_0 rfl ?_
  refine Own.iloadN C d9_2 rfl ?_
  refine Own.iadd C d9_3 ?_
  refine Own.iloadN C d9_4 rfl ?_
  refine icmp_le C d9_5 (fun q1 => ?_) (fun q1 => ?_)
  · refine Own.iloadN C d9_10 rfl ?_
    refine Own.iconst (v := 1) C d9_11 rfl ?_
    refine icmp_lt C d9_12 (fun q2 => ?_) (fun q2 => ?_)
    · refine Own.iloadN C d9_30 rfl ?_
      refine Own.iconst (v := 2) C d9_31 rfl ?_
      refine icmp_lt C d9_32 (fun q3 => ?_) (fun q3 => ?_)
      · refine Own.iloadN C d9_52 rfl ?_
        refine Own.iconst (v := 3) C d9_53 rfl ?_
        refine icmp_lt C d9_54 (fun q4 => ?_) (fun q4 => ?_)
        · refine Own.iconst (v := 1) C d9_74 rfl ?_
          exact retZ C (gs := []) d9_75 (dle rfl) (dle rfl) (fun _ q => nomatch q) ⟨by rw [show atv 0 p0 0 p1 0 p2 tl pl 4 = 1 by unfold atv; rw [if_neg q1, if_neg (fun z => z.1 q2), if_neg (fun z => z.1 q3), if_neg (fun z => z.1 q4)]]; rfl, rfl⟩
        · exfalso
          revert q1 q4
          rcases htl with rfl | rfl | rfl | rfl | rfl <;> rcases hpl with rfl | rfl | rfl | rfl <;> decide
      · exfalso
        revert q1 q3
        rcases htl with rfl | rfl | rfl | rfl | rfl <;> rcases hpl with rfl | rfl | rfl | rfl <;> decide
    · exfalso
      revert q1 q2
      rcases htl with rfl | rfl | rfl | rfl | rfl <;> rcases hpl with rfl | rfl | rfl | rfl <;> decide
  · refine Own.iconst (v := 0) C d9_8 rfl ?_
    exact retZ C (gs := []) d9_9 (dle rfl) (dle rfl) (fun _ q => nomatch q) ⟨by rw [show atv 0 p0 0 p1 0 p2 tl pl 4 = 0 by unfold atv; rw [if_pos q1]]; rfl, rfl⟩
theorem up8 {c : Int32} (h : 0 ≤ c.toInt ∧ c.toInt < 256) : ((nar .byte c) &&& 223).toInt = if c.toInt / 32 % 2 = 1 then c.toInt - 32 else c.toInt := by
  have key : ∀ i : Fin 256, ((nar .byte (Int32.ofInt (i.val : Int))) &&& 223).toInt = if (i.val : Int) / 32 % 2 = 1 then (i.val : Int) - 32 else (i.val : Int) := by decide +kernel
  have := key ⟨c.toInt.toNat, by omega⟩
  rw [show Int32.ofInt ((⟨c.toInt.toNat, by omega⟩ : Fin 256).val : Int) = c from by
    show Int32.ofInt ((c.toInt.toNat : Nat) : Int) = c
    rw [Int.toNat_of_nonneg h.1]; exact Int32.ofInt_toInt c] at this
  rw [this]
  simp only [Int.toNat_of_nonneg h.1]
theorem fold8 {c : Int32} (h : 0 ≤ c.toInt ∧ c.toInt < 256) : (fold c).toInt = if (65 ≤ c.toInt ∧ c.toInt ≤ 90) ∨ (192 ≤ c.toInt ∧ c.toInt ≤ 222 ∧ c.toInt ≠ 215) then c.toInt + 32 else c.toInt := by
  have key : ∀ i : Fin 256, (fold (Int32.ofInt (i.val : Int))).toInt = if (65 ≤ (i.val : Int) ∧ (i.val : Int) ≤ 90) ∨ (192 ≤ (i.val : Int) ∧ (i.val : Int) ≤ 222 ∧ (i.val : Int) ≠ 215) then (i.val : Int) + 32 else (i.val : Int) := by decide +kernel
  have := key ⟨c.toInt.toNat, by omega⟩
  rw [show Int32.ofInt ((⟨c.toInt.toNat, by omega⟩ : Fin 256).val : Int) = c from by
    show Int32.ofInt ((c.toInt.toNat : Nat) : Int) = c
    rw [Int.toNat_of_nonneg h.1]; exact Int32.ofInt_toInt c] at this
  rw [this]
  simp only [Int.toNat_of_nonneg h.1]
theorem eic_iff (X Y : Int32) : eic X Y = 1 ↔ X = Y ∨ (¬ (X &&& 223) < 65 ∧ (¬ 90 < (X &&& 223) ∨ (¬ (X &&& 223) < 192 ∧ ¬ 222 < (X &&& 223) ∧ ¬ (X &&& 223) = 215)) ∧ (X &&& 223) = (Y &&& 223)) := by
  unfold eic
  by_cases a : X = Y
  · simp [a]
  · by_cases b : (X &&& 223) < 65
    · rw [if_neg a, if_pos b]; simp [a, b]
    · by_cases c : ¬ 90 < (X &&& 223) ∨ (¬ (X &&& 223) < 192 ∧ ¬ 222 < (X &&& 223) ∧ ¬ (X &&& 223) = 215)
      · by_cases d : (X &&& 223) = (Y &&& 223)
        · rw [if_neg a, if_neg b, if_pos c, if_pos d]; exact ⟨fun _ => Or.inr ⟨b, c, d⟩, fun _ => rfl⟩
        · rw [if_neg a, if_neg b, if_pos c, if_neg d]; exact ⟨fun z => absurd z (by decide), fun z => z.elim (fun z => absurd z a) (fun z => absurd z.2.2 d)⟩
      · rw [if_neg a, if_neg b, if_neg c]; exact ⟨fun z => absurd z (by decide), fun z => z.elim (fun z => absurd z a) (fun z => absurd z.2.1 c)⟩
theorem eqv_iff (x y : Int32) : eqv x y = 1 ↔ x = y ∨ fold x = fold y := by
  unfold eqv
  by_cases a : x = y ∨ fold x = fold y
  · rw [if_pos a]; exact ⟨fun _ => a, fun _ => rfl⟩
  · rw [if_neg a]; exact ⟨fun z => absurd z (by decide), fun z => absurd z a⟩
theorem eic_eqv {x y : Int32} (hx : 0 ≤ x.toInt ∧ x.toInt < 256) (hy : 0 ≤ y.toInt ∧ y.toInt < 256) : eic (nar .byte x) (nar .byte y) = eqv x y := by
  have u1 := up8 hx
  have u2 := up8 hy
  have f1 := fold8 hx
  have f2 := fold8 hy
  have i1 : nar .byte x = nar .byte y ↔ x = y := ⟨narb_inj hx hy, fun e => by rw [e]⟩
  have i2 : x = y ↔ x.toInt = y.toInt := ⟨fun e => by rw [e], i32e⟩
  have i3 : (nar .byte x &&& 223) = (nar .byte y &&& 223) ↔ (nar .byte x &&& 223).toInt = (nar .byte y &&& 223).toInt := ⟨fun e => by rw [e], i32e⟩
  have i4 : fold x = fold y ↔ (fold x).toInt = (fold y).toInt := ⟨fun e => by rw [e], i32e⟩
  have i5 : (nar .byte x &&& 223) = 215 ↔ (nar .byte x &&& 223).toInt = 215 := ⟨fun e => by rw [e]; rfl, fun e => i32e e⟩
  have c65 : (65 : Int32).toInt = 65 := rfl
  have c90 : (90 : Int32).toInt = 90 := rfl
  have c192 : (192 : Int32).toInt = 192 := rfl
  have c222 : (222 : Int32).toInt = 222 := rfl
  have key : eic (nar .byte x) (nar .byte y) = 1 ↔ eqv x y = 1 := by
    rw [eic_iff, eqv_iff]
    simp only [i1, i2, i3, i4, i5, lt32, c65, c90, c192, c222]
    generalize (nar .byte x &&& 223).toInt = U at *
    generalize (nar .byte y &&& 223).toInt = V at *
    generalize (fold x).toInt = P at *
    generalize (fold y).toInt = Q at *
    generalize x.toInt = X at *
    generalize y.toInt = Y at *
    clear i1 i2 i3 i4 i5
    split at u1 <;> split at u2 <;> split at f1 <;> split at f2 <;> omega
  rcases eic01 (nar .byte x) (nar .byte y) with z | z <;> rcases eqv01 x y with w | w
  · rw [z, w]
  · exact absurd (key.mpr w) (by rw [z]; decide)
  · exact absurd (key.mp z) (by rw [w]; decide)
  · rw [z, w]
theorem law_eq {t0 t1 t2 t3 p0 p1 p2 tl pl : Int32} (htl : tl = 0 ∨ tl = 1 ∨ tl = 2 ∨ tl = 3 ∨ tl = 4) (hpl : pl = 0 ∨ pl = 1 ∨ pl = 2 ∨ pl = 3)
    (h0 : 0 ≤ t0.toInt ∧ t0.toInt < 256) (h1 : 0 ≤ t1.toInt ∧ t1.toInt < 256) (h2 : 0 ≤ t2.toInt ∧ t2.toInt < 256) (h3 : 0 ≤ t3.toInt ∧ t3.toInt < 256) (g0 : 0 ≤ p0.toInt ∧ p0.toInt < 256) (g1 : 0 ≤ p1.toInt ∧ p1.toInt < 256) (g2 : 0 ≤ p2.toInt ∧ p2.toInt < 256) :
    hasB (mk4 tl t0 t1 t2 t3) (mk3 pl p0 p1 p2) = true ↔ (¬ atv t0 p0 t1 p1 t2 p2 tl pl 0 = 0 ∨ ¬ atv t1 p0 t2 p1 t3 p2 tl pl 1 = 0 ∨ ¬ atv t2 p0 t3 p1 0 p2 tl pl 2 = 0 ∨ ¬ atv t3 p0 0 p1 0 p2 tl pl 3 = 0 ∨ ¬ atv 0 p0 0 p1 0 p2 tl pl 4 = 0) := by
  have hz : ∀ x y : Int32, eqv x y = 1 ↔ ¬ eqv x y = 0 := fun x y => by rcases eqv01 x y with z | z <;> rw [z] <;> decide
  have na : ∀ (a b c d e f g h i : Int32), ¬ atv a b c d e f g h i = 0 ↔ ¬ g < i + h ∧ (h < 1 ∨ ¬ eqv a b = 0) ∧ (h < 2 ∨ ¬ eqv c d = 0) ∧ (h < 3 ∨ ¬ eqv e f = 0) := fun a b c d e f g h i => by
    unfold atv
    by_cases q1 : g < i + h
    · simp [q1]
    · by_cases q2 : ¬ h < 1 ∧ eqv a b = 0
      · simp only [if_neg q1, if_pos q2]; simp [q2]
      · by_cases q3 : ¬ h < 2 ∧ eqv c d = 0
        · simp only [if_neg q1, if_neg q2, if_pos q3]; simp [q3]
        · by_cases q4 : ¬ h < 3 ∧ eqv e f = 0
          · simp only [if_neg q1, if_neg q2, if_neg q3, if_pos q4]; simp [q4]
          · simp only [if_neg q1, if_neg q2, if_neg q3, if_neg q4]
            have d1 : h < 1 ∨ ¬ eqv a b = 0 := by by_cases z : h < 1; exact Or.inl z; exact Or.inr fun w => q2 ⟨z, w⟩
            have d2 : h < 2 ∨ ¬ eqv c d = 0 := by by_cases z : h < 2; exact Or.inl z; exact Or.inr fun w => q3 ⟨z, w⟩
            have d3 : h < 3 ∨ ¬ eqv e f = 0 := by by_cases z : h < 3; exact Or.inl z; exact Or.inr fun w => q4 ⟨z, w⟩
            exact ⟨fun _ => ⟨q1, d1, d2, d3⟩, fun _ => by decide⟩
  simp only [na]
  rcases htl with rfl | rfl | rfl | rfl | rfl <;> rcases hpl with rfl | rfl | rfl | rfl <;>
    simp [mk4, mk3, hasB, rmt, List.range_succ, eic_eqv, h0, h1, h2, h3, g0, g1, g2, hz] <;> try decide
theorem r8 (x : Int32) : 0 ≤ (nar .char (x &&& 255)).toInt ∧ (nar .char (x &&& 255)).toInt < 256 := by
  have m := mask8 x
  rw [narc_id (by unfold isCh; omega)]; omega
theorem range4 (x : Int32) : (x &&& 3) = 0 ∨ (x &&& 3) = 1 ∨ (x &&& 3) = 2 ∨ (x &&& 3) = 3 := by
  have a := c_mask x 3 2 (by decide) (by decide)
  have e : ((2 ^ 2 : Nat) : Int) = 4 := by decide
  rw [e] at a
  have h : (x &&& 3).toInt = 0 ∨ (x &&& 3).toInt = 1 ∨ (x &&& 3).toInt = 2 ∨ (x &&& 3).toInt = 3 := by omega
  rcases h with h | h | h | h
  · exact Or.inl (i32e h)
  · exact Or.inr (Or.inl (i32e h))
  · exact Or.inr (Or.inr (Or.inl (i32e h)))
  · exact Or.inr (Or.inr (Or.inr (i32e h)))
theorem range5 (x : Int32) : (x &&& 7) % 5 = 0 ∨ (x &&& 7) % 5 = 1 ∨ (x &&& 7) % 5 = 2 ∨ (x &&& 7) % 5 = 3 ∨ (x &&& 7) % 5 = 4 := by
  have a := c_mask x 7 3 (by decide) (by decide)
  have e : ((2 ^ 3 : Nat) : Int) = 8 := by decide
  rw [e] at a
  have b := (c_irem (x &&& 7) 5 5 (by decide)).1 (by omega)
  have h : ((x &&& 7) % 5).toInt = 0 ∨ ((x &&& 7) % 5).toInt = 1 ∨ ((x &&& 7) % 5).toInt = 2 ∨ ((x &&& 7) % 5).toInt = 3 ∨ ((x &&& 7) % 5).toInt = 4 := by omega
  rcases h with h | h | h | h | h
  · exact Or.inl (i32e h)
  · exact Or.inr (Or.inl (i32e h))
  · exact Or.inr (Or.inr (Or.inl (i32e h)))
  · exact Or.inr (Or.inr (Or.inr (Or.inl (i32e h))))
  · exact Or.inr (Or.inr (Or.inr (Or.inr (i32e h))))
theorem mk4_lt {n c0 c1 c2 c3 : Int32} (h0 : c0.toInt < 256) (h1 : c1.toInt < 256) (h2 : c2.toInt < 256) (h3 : c3.toInt < 256) : ∀ c ∈ mk4 n c0 c1 c2 c3, c.toInt < 256 := by
  unfold mk4; split; simp; split; simp [h0]; split; simp [h0, h1]; split; simp [h0, h1, h2]; simp [h0, h1, h2, h3]
theorem mk3_lt {n c0 c1 c2 : Int32} (h0 : c0.toInt < 256) (h1 : c1.toInt < 256) (h2 : c2.toInt < 256) : ∀ c ∈ mk3 n c0 c1 c2, c.toInt < 256 := by
  unfold mk3; split; simp; split; simp [h0]; split; simp [h0, h1]; simp [h0, h1, h2]
set_option maxRecDepth 65536 in
set_option maxHeartbeats 4000000 in
theorem k_law {Z : State} {a0 : Array Value} (hw : ∀ d ∈ tables_1, d.before a0 Z = true) (hs : Stt Z) {n0 : Nat} {h0 : Heap} {t p m : Int32} (O : Old Z n0 h0) :
    Con WD Z EL0 n0 (⟨"com/example/harnessd/harnessd/model/SearchContainsPinLaw", "law", "(III)Z"⟩ : MethodName) code 18 (some .boolean) (Rm 8 32 1152 192) [(.int t), (.int p), (.int m)] h0 [] (fun v h gs => v = some (.int 1)) := by
  refine Con.of (a0 := a0) (by first | (simp [plainName, overriddenIn]; done) | decide +kernel) (hEL hw) hWE O (L0 := #[.val (.int t), .val (.int p), .val (.int m), .unset, .unset, .unset, .unset, .unset, .unset, .unset, .unset, .unset, .unset, .unset, .unset, .unset, .unset, .unset]) (fun m => by first | rfl | (simp [entryFrame, mkF, argsToLocals, Value.category]; done)) ?_
  intro K C hh
  have ht0 := r8 (t)
  have ct0 := narc_ch ((t) &&& 255)
  have ht1 := r8 (ushr t 8)
  have ct1 := narc_ch ((ushr t 8) &&& 255)
  have ht2 := r8 (ushr t 16)
  have ct2 := narc_ch ((ushr t 16) &&& 255)
  have ht3 := r8 (ushr t 24)
  have ct3 := narc_ch ((ushr t 24) &&& 255)
  have hp0 := r8 (p)
  have cp0 := narc_ch ((p) &&& 255)
  have hp1 := r8 (ushr p 8)
  have cp1 := narc_ch ((ushr p 8) &&& 255)
  have hp2 := r8 (ushr p 16)
  have cp2 := narc_ch ((ushr p 16) &&& 255)
  have htl := range5 m
  have hpl := range4 (ushr p 24)
  refine Own.iloadN C d17_0 rfl ?_
  refine Own.sipush (v := 255) C d17_1 rfl ?_
  refine Own.iand C d17_4 ?_
  refine Own.i2c C d17_5 ?_
  refine Own.istoreN (L' := #[.val (.int t), .val (.int p), .val (.int m), .val (.int (nar .char (t &&& (255 : Int32)))), .unset, .unset, .unset, .unset, .unset, .unset, .unset, .unset, .unset, .unset, .unset, .unset, .unset, .unset]) C d17_6 rfl ?_
  refine Own.iloadN C d17_7 rfl ?_
  refine Own.bipush (v := 8) C d17_8 rfl ?_
  refine Own.iushr C d17_10 ?_
  refine Own.sipush (v := 255) C d17_11 rfl ?_
  refine Own.iand C d17_14 ?_
  refine Own.i2c C d17_15 ?_
  refine Own.istore (L' := #[.val (.int t), .val (.int p), .val (.int m), .val (.int (nar .char (t &&& (255 : Int32)))), .val (.int (nar .char ((ushr t (8 : Int32)) &&& (255 : Int32)))), .unset, .unset, .unset, .unset, .unset, .unset, .unset, .unset, .unset, .unset, .unset, .unset, .unset]) C d17_16 rfl ?_
  refine Own.iloadN C d17_18 rfl ?_
  refine Own.bipush (v := 16) C d17_19 rfl ?_
  refine Own.iushr C d17_21 ?_
  refine Own.sipush (v := 255) C d17_22 rfl ?_
  refine Own.iand C d17_25 ?_
  refine Own.i2c C d17_26 ?_
  refine Own.istore (L' := #[.val (.int t), .val (.int p), .val (.int m), .val (.int (nar .char (t &&& (255 : Int32)))), .val (.int (nar .char ((ushr t (8 : Int32)) &&& (255 : Int32)))), .val (.int (nar .char ((ushr t (16 : Int32)) &&& (255 : Int32)))), .unset, .unset, .unset, .unset, .unset, .unset, .unset, .unset, .unset, .unset, .unset, .unset]) C d17_27 rfl ?_
  refine Own.iloadN C d17_29 rfl ?_
  refine Own.bipush (v := 24) C d17_30 rfl ?_
  refine Own.iushr C d17_32 ?_
  refine Own.sipush (v := 255) C d17_33 rfl ?_
  refine Own.iand C d17_36 ?_
  refine Own.i2c C d17_37 ?_
  refine Own.istore (L' := #[.val (.int t), .val (.int p), .val (.int m), .val (.int (nar .char (t &&& (255 : Int32)))), .val (.int (nar .char ((ushr t (8 : Int32)) &&& (255 : Int32)))), .val (.int (nar .char ((ushr t (16 : Int32)) &&& (255 : Int32)))), .val (.int (nar .char ((ushr t (24 : Int32)) &&& (255 : Int32)))), .unset, .unset, .unset, .unset, .unset, .unset, .unset, .unset, .unset, .unset, .unset]) C d17_38 rfl ?_
  refine Own.iloadN C d17_40 rfl ?_
  refine Own.sipush (v := 255) C d17_41 rfl ?_
  refine Own.iand C d17_44 ?_
  refine Own.i2c C d17_45 ?_
  refine Own.istore (L' := #[.val (.int t), .val (.int p), .val (.int m), .val (.int (nar .char (t &&& (255 : Int32)))), .val (.int (nar .char ((ushr t (8 : Int32)) &&& (255 : Int32)))), .val (.int (nar .char ((ushr t (16 : Int32)) &&& (255 : Int32)))), .val (.int (nar .char ((ushr t (24 : Int32)) &&& (255 : Int32)))), .val (.int (nar .char (p &&& (255 : Int32)))), .unset, .unset, .unset, .unset, .unset, .unset, .unset, .unset, .unset, .unset]) C d17_46 rfl ?_
  refine Own.iloadN C d17_48 rfl ?_
  refine Own.bipush (v := 8) C d17_49 rfl ?_
  refine Own.iushr C d17_51 ?_
  refine Own.sipush (v := 255) C d17_52 rfl ?_
  refine Own.iand C d17_55 ?_
  refine Own.i2c C d17_56 ?_
  refine Own.istore (L' := #[.val (.int t), .val (.int p), .val (.int m), .val (.int (nar .char (t &&& (255 : Int32)))), .val (.int (nar .char ((ushr t (8 : Int32)) &&& (255 : Int32)))), .val (.int (nar .char ((ushr t (16 : Int32)) &&& (255 : Int32)))), .val (.int (nar .char ((ushr t (24 : Int32)) &&& (255 : Int32)))), .val (.int (nar .char (p &&& (255 : Int32)))), .val (.int (nar .char ((ushr p (8 : Int32)) &&& (255 : Int32)))), .unset, .unset, .unset, .unset, .unset, .unset, .unset, .unset, .unset]) C d17_57 rfl ?_
  refine Own.iloadN C d17_59 rfl ?_
  refine Own.bipush (v := 16) C d17_60 rfl ?_
  refine Own.iushr C d17_62 ?_
  refine Own.sipush (v := 255) C d17_63 rfl ?_
  refine Own.iand C d17_66 ?_
  refine Own.i2c C d17_67 ?_
  refine Own.istore (L' := #[.val (.int t), .val (.int p), .val (.int m), .val (.int (nar .char (t &&& (255 : Int32)))), .val (.int (nar .char ((ushr t (8 : Int32)) &&& (255 : Int32)))), .val (.int (nar .char ((ushr t (16 : Int32)) &&& (255 : Int32)))), .val (.int (nar .char ((ushr t (24 : Int32)) &&& (255 : Int32)))), .val (.int (nar .char (p &&& (255 : Int32)))), .val (.int (nar .char ((ushr p (8 : Int32)) &&& (255 : Int32)))), .val (.int (nar .char ((ushr p (16 : Int32)) &&& (255 : Int32)))), .unset, .unset, .unset, .unset, .unset, .unset, .unset, .unset]) C d17_68 rfl ?_
  refine Own.iloadN C d17_70 rfl ?_
  refine Own.bipush (v := 24) C d17_71 rfl ?_
  refine Own.iushr C d17_73 ?_
  refine Own.iconst (v := 3) C d17_74 rfl ?_
  refine Own.iand C d17_75 ?_
  refine Own.istore (L' := #[.val (.int t), .val (.int p), .val (.int m), .val (.int (nar .char (t &&& (255 : Int32)))), .val (.int (nar .char ((ushr t (8 : Int32)) &&& (255 : Int32)))), .val (.int (nar .char ((ushr t (16 : Int32)) &&& (255 : Int32)))), .val (.int (nar .char ((ushr t (24 : Int32)) &&& (255 : Int32)))), .val (.int (nar .char (p &&& (255 : Int32)))), .val (.int (nar .char ((ushr p (8 : Int32)) &&& (255 : Int32)))), .val (.int (nar .char ((ushr p (16 : Int32)) &&& (255 : Int32)))), .val (.int ((ushr p (24 : Int32)) &&& (3 : Int32))), .unset, .unset, .unset, .unset, .unset, .unset, .unset]) C d17_76 rfl ?_
  refine Own.iloadN C d17_78 rfl ?_
  refine Own.bipush (v := 7) C d17_79 rfl ?_
  refine Own.iand C d17_81 ?_
  refine Own.iconst (v := 5) C d17_82 rfl ?_
  refine Own.irem C d17_83 (by decide) ?_
  refine Own.istore (L' := #[.val (.int t), .val (.int p), .val (.int m), .val (.int (nar .char (t &&& (255 : Int32)))), .val (.int (nar .char ((ushr t (8 : Int32)) &&& (255 : Int32)))), .val (.int (nar .char ((ushr t (16 : Int32)) &&& (255 : Int32)))), .val (.int (nar .char ((ushr t (24 : Int32)) &&& (255 : Int32)))), .val (.int (nar .char (p &&& (255 : Int32)))), .val (.int (nar .char ((ushr p (8 : Int32)) &&& (255 : Int32)))), .val (.int (nar .char ((ushr p (16 : Int32)) &&& (255 : Int32)))), .val (.int ((ushr p (24 : Int32)) &&& (3 : Int32))), .val (.int ((m &&& (7 : Int32)) % (5 : Int32))), .unset, .unset, .unset, .unset, .unset, .unset]) C d17_84 rfl ?_
  generalize nar .char ((t) &&& 255) = t0 at ht0 ct0 ⊢
  generalize nar .char ((ushr t 8) &&& 255) = t1 at ht1 ct1 ⊢
  generalize nar .char ((ushr t 16) &&& 255) = t2 at ht2 ct2 ⊢
  generalize nar .char ((ushr t 24) &&& 255) = t3 at ht3 ct3 ⊢
  generalize nar .char ((p) &&& 255) = p0 at hp0 cp0 ⊢
  generalize nar .char ((ushr p 8) &&& 255) = p1 at hp1 cp1 ⊢
  generalize nar .char ((ushr p 16) &&& 255) = p2 at hp2 cp2 ⊢
  generalize (ushr p 24 &&& 3) = pl at hpl ⊢
  generalize ((m &&& 7) % 5) = tl at htl ⊢
  show Go _ K Z _ n0 _ _ 86 #[.val (.int t), .val (.int p), .val (.int m), .val (.int t0), .val (.int t1), .val (.int t2), .val (.int t3), .val (.int p0), .val (.int p1), .val (.int p2), .val (.int pl), .val (.int tl), .unset, .unset, .unset, .unset, .unset, .unset] [] h0 _ _ _
  refine Own.iloadN C d17_86 rfl ?_
  refine Own.iconst (v := 3) C d17_87 rfl ?_
  refine Own.iushr C d17_88 ?_
  refine Own.bipush (v := 7) C d17_89 rfl ?_
  refine Own.iand C d17_91 ?_
  refine Go.join (c := (ushr m 3 &&& 7) = 0) (x := 1) (y := 0) (pcJ := 100) (LJ := #[.val (.int t), .val (.int p), .val (.int m), .val (.int t0), .val (.int t1), .val (.int t2), .val (.int t3), .val (.int p0), .val (.int p1), .val (.int p2), .val (.int pl), .val (.int tl), .unset, .unset, .unset, .unset, .unset, .unset]) (stJ := []) (fun JT JF => ?_) ?_
  · refine if_ne C d17_92 (fun q1 => ?_) (fun q1 => ?_)
    · refine Own.iconst (v := 0) C d17_99 rfl ?_
      exact JF q1
    · refine Own.iconst (v := 1) C d17_95 rfl ?_
      refine Own.goto_ C d17_96 ?_
      exact JT q1
  generalize enu : (if (ushr m 3 &&& 7) = 0 then 1 else 0 : Int32) = nu
  refine Own.istore (L' := #[.val (.int t), .val (.int p), .val (.int m), .val (.int t0), .val (.int t1), .val (.int t2), .val (.int t3), .val (.int p0), .val (.int p1), .val (.int p2), .val (.int pl), .val (.int tl), .val (.int nu), .unset, .unset, .unset, .unset, .unset]) C d17_100 rfl ?_
  refine Own.iconst (v := 4) C d17_102 rfl ?_
  refine newarr C (hw _ (List.mem_of_getElem? (i := 0) rfl)) (by decide) 4 (by decide) (by decide) (dle rfl) (dle rfl) d17_103 (fun hp3 K3 lt3 le3 A3 => ?_)
  obtain ⟨ta, g3⟩ : ∃ z, z = h0.size := ⟨_, rfl⟩
  rw [← g3] at A3 lt3 le3 ⊢
  refine Own.dup C d17_105 rfl ?_
  refine Own.iconst (v := 0) C d17_106 rfl ?_
  refine Own.iloadN C d17_107 rfl ?_
  refine castore_ C A3 0 (by decide) (dlt rfl) (by simp) d17_108 (fun hp4 W4 A4 => ?_)
  refine Own.dup C d17_109 rfl ?_
  refine Own.iconst (v := 1) C d17_110 rfl ?_
  refine Own.iload C d17_111 rfl ?_
  refine castore_ C A4 1 (by decide) (dlt rfl) (by simp) d17_113 (fun hp5 W5 A5 => ?_)
  refine Own.dup C d17_114 rfl ?_
  refine Own.iconst (v := 2) C d17_115 rfl ?_
  refine Own.iload C d17_116 rfl ?_
  refine castore_ C A5 2 (by decide) (dlt rfl) (by simp) d17_118 (fun hp6 W6 A6 => ?_)
  refine Own.dup C d17_119 rfl ?_
  refine Own.iconst (v := 3) C d17_120 rfl ?_
  refine Own.iload C d17_121 rfl ?_
  refine castore_ C A6 3 (by decide) (dlt rfl) (by simp) d17_123 (fun hp7 W7 A7 => ?_)
  have Ata : Ary Z hp7 ta .char (chs [t0, t1, t2, t3]) := by have q := A7; simp only [narc_id ct0, narc_id ct1, narc_id ct2, narc_id ct3] at q; exact q
  refine Own.astore (L' := #[.val (.int t), .val (.int p), .val (.int m), .val (.int t0), .val (.int t1), .val (.int t2), .val (.int t3), .val (.int p0), .val (.int p1), .val (.int p2), .val (.int pl), .val (.int tl), .val (.int nu), .val (.ref ta), .unset, .unset, .unset, .unset]) C d17_124 rfl rfl ?_
  refine Own.iconst (v := 3) C d17_126 rfl ?_
  refine newarr C (hw _ (List.mem_of_getElem? (i := 0) rfl)) (by decide) 3 (by decide) (by decide) (dle rfl) (dle rfl) d17_127 (fun hp8 K8 lt8 le8 A8 => ?_)
  obtain ⟨pa, g8⟩ : ∃ z, z = hp7.size := ⟨_, rfl⟩
  rw [← g8] at A8 lt8 le8 ⊢
  refine Own.dup C d17_129 rfl ?_
  refine Own.iconst (v := 0) C d17_130 rfl ?_
  refine Own.iload C d17_131 rfl ?_
  refine castore_ C A8 0 (by decide) (dlt rfl) (by simp) d17_133 (fun hp9 W9 A9 => ?_)
  refine Own.dup C d17_134 rfl ?_
  refine Own.iconst (v := 1) C d17_135 rfl ?_
  refine Own.iload C d17_136 rfl ?_
  refine castore_ C A9 1 (by decide) (dlt rfl) (by simp) d17_138 (fun hp10 W10 A10 => ?_)
  refine Own.dup C d17_139 rfl ?_
  refine Own.iconst (v := 2) C d17_140 rfl ?_
  refine Own.iload C d17_141 rfl ?_
  refine castore_ C A10 2 (by decide) (dlt rfl) (by simp) d17_143 (fun hp11 W11 A11 => ?_)
  have Apa : Ary Z hp11 pa .char (chs [p0, p1, p2]) := by have q := A11; simp only [narc_id cp0, narc_id cp1, narc_id cp2] at q; exact q
  have KP : Keep hp7 hp11 [pa] := (((((Keep.refl _ [pa]).trans K8 (fun _ q => nomatch q)).trans (Keep.of_wr W9) (fun x hx => Or.inl hx)).trans (Keep.of_wr W10) (fun x hx => Or.inl hx)).trans (Keep.of_wr W11) (fun x hx => Or.inl hx))
  have Ata := Ata.keep KP (ninS (by rw [g8]; exact Nat.ne_of_lt Ata.lt) nin0)
  refine Own.astore (L' := #[.val (.int t), .val (.int p), .val (.int m), .val (.int t0), .val (.int t1), .val (.int t2), .val (.int t3), .val (.int p0), .val (.int p1), .val (.int p2), .val (.int pl), .val (.int tl), .val (.int nu), .val (.ref ta), .val (.ref pa), .unset, .unset, .unset]) C d17_144 rfl rfl ?_
  refine Own.iload C d17_146 rfl ?_
  refine if_eq C d17_148 (fun q12 => ?_) (fun q12 => ?_)
  · have hnu := q12
    refine Own.iload C d17_155 rfl ?_
    refine Own.iloadN C d17_157 rfl ?_
    refine Own.iload C d17_158 rfl ?_
    refine Own.iload C d17_160 rfl ?_
    refine Own.iload C d17_162 rfl ?_
    refine callS_ C (as := [(.int tl), (.int t0), (.int t1), (.int t2), (.int t3)]) (st := []) (hw _ (List.mem_of_getElem? (i := 30) rfl)) (hw _ (List.mem_of_getElem? (i := 31) rfl)) (hw _ (List.mem_of_getElem? (i := 3) rfl)) (hw _ (List.mem_of_getElem? (i := 32) rfl)) ⟨by decide, by decide⟩ pd__28ICCCC_29Ljava_2flang_2fString_3b rfl (fun O => k_str4 hw hs ct0 ct1 ct2 ct3 ht0.2 ht1.2 ht2.2 ht3.2 O) (fun _ q => nomatch q) rfl (dle rfl) (dle rfl) (dle rfl) (dle rfl) d17_164 rfl (fun v13 hp13 gs13 K13 Q13 => ?_)
    obtain ⟨rfl, st, rfl, F⟩ := Q13
    show Go _ K Z _ n0 _ _ 167 #[.val (.int t), .val (.int p), .val (.int m), .val (.int t0), .val (.int t1), .val (.int t2), .val (.int t3), .val (.int p0), .val (.int p1), .val (.int p2), .val (.int pl), .val (.int tl), .val (.int nu), .val (.ref ta), .val (.ref pa), .unset, .unset, .unset] [(.ref st)] hp13 _ _ _
    have Ata := Ata.keep K13 nin0
    have Apa := Apa.keep K13 nin0
    refine Own.astore (L' := #[.val (.int t), .val (.int p), .val (.int m), .val (.int t0), .val (.int t1), .val (.int t2), .val (.int t3), .val (.int p0), .val (.int p1), .val (.int p2), .val (.int pl), .val (.int tl), .val (.int nu), .val (.ref ta), .val (.ref pa), .val (.ref st), .unset, .unset]) C d17_167 rfl rfl ?_
    refine Own.iload C d17_169 rfl ?_
    refine Own.iload C d17_171 rfl ?_
    refine Own.iload C d17_173 rfl ?_
    refine Own.iload C d17_175 rfl ?_
    refine callS_ C (as := [(.int pl), (.int p0), (.int p1), (.int p2)]) (st := []) (hw _ (List.mem_of_getElem? (i := 1) rfl)) (hw _ (List.mem_of_getElem? (i := 2) rfl)) (hw _ (List.mem_of_getElem? (i := 3) rfl)) (hw _ (List.mem_of_getElem? (i := 4) rfl)) ⟨by decide, by decide⟩ pd__28ICCC_29Ljava_2flang_2fString_3b rfl (fun O => k_str3 hw hs cp0 cp1 cp2 hp0.2 hp1.2 hp2.2 O) (fun _ q => nomatch q) rfl (dle rfl) (dle rfl) (dle rfl) (dle rfl) d17_177 rfl (fun v14 hp14 gs14 K14 Q14 => ?_)
    obtain ⟨rfl, sp, rfl, G⟩ := Q14
    show Go _ K Z _ n0 _ _ 180 #[.val (.int t), .val (.int p), .val (.int m), .val (.int t0), .val (.int t1), .val (.int t2), .val (.int t3), .val (.int p0), .val (.int p1), .val (.int p2), .val (.int pl), .val (.int tl), .val (.int nu), .val (.ref ta), .val (.ref pa), .val (.ref st), .unset, .unset] [(.ref sp)] hp14 _ _ _
    have F := F.keep K14
    have Ata := Ata.keep K14 nin0
    have Apa := Apa.keep K14 nin0
    refine Own.astore (L' := #[.val (.int t), .val (.int p), .val (.int m), .val (.int t0), .val (.int t1), .val (.int t2), .val (.int t3), .val (.int p0), .val (.int p1), .val (.int p2), .val (.int pl), .val (.int tl), .val (.int nu), .val (.ref ta), .val (.ref pa), .val (.ref st), .val (.ref sp), .unset]) C d17_180 rfl rfl ?_
    refine Own.iload C d17_182 rfl ?_
    refine if_ne C d17_184 (fun q15 => ?_) (fun q15 => ?_)
    · exact absurd hnu q15
    · have heq := law_eq htl hpl ht0 ht1 ht2 ht3 hp0 hp1 hp2
      refine Own.aload C d17_187 rfl rfl ?_
      refine Own.iload C d17_189 rfl ?_
      refine Own.aload C d17_191 rfl rfl ?_
      refine Own.iload C d17_193 rfl ?_
      refine Own.iconst (v := 0) C d17_195 rfl ?_
      refine callS_ C (as := [(.ref ta), (.int tl), (.ref pa), (.int pl), (.int (0 : Int32))]) (st := []) (hw _ (List.mem_of_getElem? (i := 44) rfl)) (hw _ (List.mem_of_getElem? (i := 45) rfl)) (hw _ (List.mem_of_getElem? (i := 3) rfl)) (hw _ (List.mem_of_getElem? (i := 46) rfl)) ⟨by decide, by decide⟩ pd__28_5bCI_5bCII_29Z rfl (fun O => k_at0 hw hs htl hpl Ata Apa O) (fun _ q => nomatch q) rfl (dle rfl) (dle rfl) (dle rfl) (dle rfl) d17_196 rfl (fun v16 hp16 gs16 K16 Q16 => ?_)
      obtain ⟨rfl, rfl⟩ := Q16
      show Go _ K Z _ n0 _ _ 199 #[.val (.int t), .val (.int p), .val (.int m), .val (.int t0), .val (.int t1), .val (.int t2), .val (.int t3), .val (.int p0), .val (.int p1), .val (.int p2), .val (.int pl), .val (.int tl), .val (.int nu), .val (.ref ta), .val (.ref pa), .val (.ref st), .val (.ref sp), .unset] [(.int (atv t0 p0 t1 p1 t2 p2 tl pl 0))] hp16 _ _ _
      have F := F.keep K16
      have G := G.keep K16
      have Ata := Ata.keep K16 nin0
      have Apa := Apa.keep K16 nin0
      refine if_ne C d17_199 (fun q17 => ?_) (fun q17 => ?_)
      · refine Own.iconst (v := 1) C d17_262 rfl ?_
        refine Own.goto_ C d17_263 ?_
        refine Own.istore (L' := #[.val (.int t), .val (.int p), .val (.int m), .val (.int t0), .val (.int t1), .val (.int t2), .val (.int t3), .val (.int p0), .val (.int p1), .val (.int p2), .val (.int pl), .val (.int tl), .val (.int nu), .val (.ref ta), .val (.ref pa), .val (.ref st), .val (.ref sp), .val (.int (1 : Int32))]) C d17_267 rfl ?_
        have hb : hasB (mk4 tl t0 t1 t2 t3) (mk3 pl p0 p1 p2) = true := heq.mpr (Or.inl q17)
        refine Own.aload C d17_269 rfl rfl ?_
        refine Own.aload C d17_271 rfl rfl ?_
        refine callS_ C (as := [(.ref st), (.ref sp)]) (st := []) (hw _ (List.mem_of_getElem? (i := 26) rfl)) (hw _ (List.mem_of_getElem? (i := 27) rfl)) (hw _ (List.mem_of_getElem? (i := 28) rfl)) (hw _ (List.mem_of_getElem? (i := 29) rfl)) ⟨by decide, by decide⟩ pd__28Ljava_2flang_2fString_3bLjava_2flang_2fString_3b_29Z rfl (fun O => k_cont hw hs F G (mk4_lt ht0.2 ht1.2 ht2.2 ht3.2) (mk3_lt hp0.2 hp1.2 hp2.2) O) (fun _ q => nomatch q) rfl (dle rfl) (dle rfl) (dle rfl) (dle rfl) d17_273 rfl (fun v18 hp18 gs18 K18 Q18 => ?_)
        obtain ⟨rfl, rfl⟩ := Q18
        rw [hb]
        show Go _ K Z _ n0 _ _ 276 #[.val (.int t), .val (.int p), .val (.int m), .val (.int t0), .val (.int t1), .val (.int t2), .val (.int t3), .val (.int p0), .val (.int p1), .val (.int p2), .val (.int pl), .val (.int tl), .val (.int nu), .val (.ref ta), .val (.ref pa), .val (.ref st), .val (.ref sp), .val (.int (1 : Int32))] [(.int (1 : Int32))] hp18 _ _ _
        refine Own.iload C d17_276 rfl ?_
        refine icmp_ne C d17_278 (fun q19 => ?_) (fun q19 => ?_)
        · exact absurd rfl q19
        · refine Own.iconst (v := 1) C d17_281 rfl ?_
          refine Own.goto_ C d17_282 ?_
          exact retZ C (gs := []) d17_286 (dle rfl) (dle rfl) (fun _ q => nomatch q) rfl
      · refine Own.aload C d17_202 rfl rfl ?_
        refine Own.iload C d17_204 rfl ?_
        refine Own.aload C d17_206 rfl rfl ?_
        refine Own.iload C d17_208 rfl ?_
        refine Own.iconst (v := 1) C d17_210 rfl ?_
        refine callS_ C (as := [(.ref ta), (.int tl), (.ref pa), (.int pl), (.int (1 : Int32))]) (st := []) (hw _ (List.mem_of_getElem? (i := 44) rfl)) (hw _ (List.mem_of_getElem? (i := 45) rfl)) (hw _ (List.mem_of_getElem? (i := 3) rfl)) (hw _ (List.mem_of_getElem? (i := 46) rfl)) ⟨by decide, by decide⟩ pd__28_5bCI_5bCII_29Z rfl (fun O => k_at1 hw hs htl hpl Ata Apa O) (fun _ q => nomatch q) rfl (dle rfl) (dle rfl) (dle rfl) (dle rfl) d17_211 rfl (fun v20 hp20 gs20 K20 Q20 => ?_)
        obtain ⟨rfl, rfl⟩ := Q20
        show Go _ K Z _ n0 _ _ 214 #[.val (.int t), .val (.int p), .val (.int m), .val (.int t0), .val (.int t1), .val (.int t2), .val (.int t3), .val (.int p0), .val (.int p1), .val (.int p2), .val (.int pl), .val (.int tl), .val (.int nu), .val (.ref ta), .val (.ref pa), .val (.ref st), .val (.ref sp), .unset] [(.int (atv t1 p0 t2 p1 t3 p2 tl pl 1))] hp20 _ _ _
        have F := F.keep K20
        have G := G.keep K20
        have Ata := Ata.keep K20 nin0
        have Apa := Apa.keep K20 nin0
        refine if_ne C d17_214 (fun q21 => ?_) (fun q21 => ?_)
        · refine Own.iconst (v := 1) C d17_262 rfl ?_
          refine Own.goto_ C d17_263 ?_
          refine Own.istore (L' := #[.val (.int t), .val (.int p), .val (.int m), .val (.int t0), .val (.int t1), .val (.int t2), .val (.int t3), .val (.int p0), .val (.int p1), .val (.int p2), .val (.int pl), .val (.int tl), .val (.int nu), .val (.ref ta), .val (.ref pa), .val (.ref st), .val (.ref sp), .val (.int (1 : Int32))]) C d17_267 rfl ?_
          have hb : hasB (mk4 tl t0 t1 t2 t3) (mk3 pl p0 p1 p2) = true := heq.mpr (Or.inr (Or.inl q21))
          refine Own.aload C d17_269 rfl rfl ?_
          refine Own.aload C d17_271 rfl rfl ?_
          refine callS_ C (as := [(.ref st), (.ref sp)]) (st := []) (hw _ (List.mem_of_getElem? (i := 26) rfl)) (hw _ (List.mem_of_getElem? (i := 27) rfl)) (hw _ (List.mem_of_getElem? (i := 28) rfl)) (hw _ (List.mem_of_getElem? (i := 29) rfl)) ⟨by decide, by decide⟩ pd__28Ljava_2flang_2fString_3bLjava_2flang_2fString_3b_29Z rfl (fun O => k_cont hw hs F G (mk4_lt ht0.2 ht1.2 ht2.2 ht3.2) (mk3_lt hp0.2 hp1.2 hp2.2) O) (fun _ q => nomatch q) rfl (dle rfl) (dle rfl) (dle rfl) (dle rfl) d17_273 rfl (fun v22 hp22 gs22 K22 Q22 => ?_)
          obtain ⟨rfl, rfl⟩ := Q22
          rw [hb]
          show Go _ K Z _ n0 _ _ 276 #[.val (.int t), .val (.int p), .val (.int m), .val (.int t0), .val (.int t1), .val (.int t2), .val (.int t3), .val (.int p0), .val (.int p1), .val (.int p2), .val (.int pl), .val (.int tl), .val (.int nu), .val (.ref ta), .val (.ref pa), .val (.ref st), .val (.ref sp), .val (.int (1 : Int32))] [(.int (1 : Int32))] hp22 _ _ _
          refine Own.iload C d17_276 rfl ?_
          refine icmp_ne C d17_278 (fun q23 => ?_) (fun q23 => ?_)
          · exact absurd rfl q23
          · refine Own.iconst (v := 1) C d17_281 rfl ?_
            refine Own.goto_ C d17_282 ?_
            exact retZ C (gs := []) d17_286 (dle rfl) (dle rfl) (fun _ q => nomatch q) rfl
        · refine Own.aload C d17_217 rfl rfl ?_
          refine Own.iload C d17_219 rfl ?_
          refine Own.aload C d17_221 rfl rfl ?_
          refine Own.iload C d17_223 rfl ?_
          refine Own.iconst (v := 2) C d17_225 rfl ?_
          refine callS_ C (as := [(.ref ta), (.int tl), (.ref pa), (.int pl), (.int (2 : Int32))]) (st := []) (hw _ (List.mem_of_getElem? (i := 44) rfl)) (hw _ (List.mem_of_getElem? (i := 45) rfl)) (hw _ (List.mem_of_getElem? (i := 3) rfl)) (hw _ (List.mem_of_getElem? (i := 46) rfl)) ⟨by decide, by decide⟩ pd__28_5bCI_5bCII_29Z rfl (fun O => k_at2 hw hs htl hpl Ata Apa O) (fun _ q => nomatch q) rfl (dle rfl) (dle rfl) (dle rfl) (dle rfl) d17_226 rfl (fun v24 hp24 gs24 K24 Q24 => ?_)
          obtain ⟨rfl, rfl⟩ := Q24
          show Go _ K Z _ n0 _ _ 229 #[.val (.int t), .val (.int p), .val (.int m), .val (.int t0), .val (.int t1), .val (.int t2), .val (.int t3), .val (.int p0), .val (.int p1), .val (.int p2), .val (.int pl), .val (.int tl), .val (.int nu), .val (.ref ta), .val (.ref pa), .val (.ref st), .val (.ref sp), .unset] [(.int (atv t2 p0 t3 p1 0 p2 tl pl 2))] hp24 _ _ _
          have F := F.keep K24
          have G := G.keep K24
          have Ata := Ata.keep K24 nin0
          have Apa := Apa.keep K24 nin0
          refine if_ne C d17_229 (fun q25 => ?_) (fun q25 => ?_)
          · refine Own.iconst (v := 1) C d17_262 rfl ?_
            refine Own.goto_ C d17_263 ?_
            refine Own.istore (L' := #[.val (.int t), .val (.int p), .val (.int m), .val (.int t0), .val (.int t1), .val (.int t2), .val (.int t3), .val (.int p0), .val (.int p1), .val (.int p2), .val (.int pl), .val (.int tl), .val (.int nu), .val (.ref ta), .val (.ref pa), .val (.ref st), .val (.ref sp), .val (.int (1 : Int32))]) C d17_267 rfl ?_
            have hb : hasB (mk4 tl t0 t1 t2 t3) (mk3 pl p0 p1 p2) = true := heq.mpr (Or.inr (Or.inr (Or.inl q25)))
            refine Own.aload C d17_269 rfl rfl ?_
            refine Own.aload C d17_271 rfl rfl ?_
            refine callS_ C (as := [(.ref st), (.ref sp)]) (st := []) (hw _ (List.mem_of_getElem? (i := 26) rfl)) (hw _ (List.mem_of_getElem? (i := 27) rfl)) (hw _ (List.mem_of_getElem? (i := 28) rfl)) (hw _ (List.mem_of_getElem? (i := 29) rfl)) ⟨by decide, by decide⟩ pd__28Ljava_2flang_2fString_3bLjava_2flang_2fString_3b_29Z rfl (fun O => k_cont hw hs F G (mk4_lt ht0.2 ht1.2 ht2.2 ht3.2) (mk3_lt hp0.2 hp1.2 hp2.2) O) (fun _ q => nomatch q) rfl (dle rfl) (dle rfl) (dle rfl) (dle rfl) d17_273 rfl (fun v26 hp26 gs26 K26 Q26 => ?_)
            obtain ⟨rfl, rfl⟩ := Q26
            rw [hb]
            show Go _ K Z _ n0 _ _ 276 #[.val (.int t), .val (.int p), .val (.int m), .val (.int t0), .val (.int t1), .val (.int t2), .val (.int t3), .val (.int p0), .val (.int p1), .val (.int p2), .val (.int pl), .val (.int tl), .val (.int nu), .val (.ref ta), .val (.ref pa), .val (.ref st), .val (.ref sp), .val (.int (1 : Int32))] [(.int (1 : Int32))] hp26 _ _ _
            refine Own.iload C d17_276 rfl ?_
            refine icmp_ne C d17_278 (fun q27 => ?_) (fun q27 => ?_)
            · exact absurd rfl q27
            · refine Own.iconst (v := 1) C d17_281 rfl ?_
              refine Own.goto_ C d17_282 ?_
              exact retZ C (gs := []) d17_286 (dle rfl) (dle rfl) (fun _ q => nomatch q) rfl
          · refine Own.aload C d17_232 rfl rfl ?_
            refine Own.iload C d17_234 rfl ?_
            refine Own.aload C d17_236 rfl rfl ?_
            refine Own.iload C d17_238 rfl ?_
            refine Own.iconst (v := 3) C d17_240 rfl ?_
            refine callS_ C (as := [(.ref ta), (.int tl), (.ref pa), (.int pl), (.int (3 : Int32))]) (st := []) (hw _ (List.mem_of_getElem? (i := 44) rfl)) (hw _ (List.mem_of_getElem? (i := 45) rfl)) (hw _ (List.mem_of_getElem? (i := 3) rfl)) (hw _ (List.mem_of_getElem? (i := 46) rfl)) ⟨by decide, by decide⟩ pd__28_5bCI_5bCII_29Z rfl (fun O => k_at3 hw hs htl hpl Ata Apa O) (fun _ q => nomatch q) rfl (dle rfl) (dle rfl) (dle rfl) (dle rfl) d17_241 rfl (fun v28 hp28 gs28 K28 Q28 => ?_)
            obtain ⟨rfl, rfl⟩ := Q28
            show Go _ K Z _ n0 _ _ 244 #[.val (.int t), .val (.int p), .val (.int m), .val (.int t0), .val (.int t1), .val (.int t2), .val (.int t3), .val (.int p0), .val (.int p1), .val (.int p2), .val (.int pl), .val (.int tl), .val (.int nu), .val (.ref ta), .val (.ref pa), .val (.ref st), .val (.ref sp), .unset] [(.int (atv t3 p0 0 p1 0 p2 tl pl 3))] hp28 _ _ _
            have F := F.keep K28
            have G := G.keep K28
            have Ata := Ata.keep K28 nin0
            have Apa := Apa.keep K28 nin0
            refine if_ne C d17_244 (fun q29 => ?_) (fun q29 => ?_)
            · refine Own.iconst (v := 1) C d17_262 rfl ?_
              refine Own.goto_ C d17_263 ?_
              refine Own.istore (L' := #[.val (.int t), .val (.int p), .val (.int m), .val (.int t0), .val (.int t1), .val (.int t2), .val (.int t3), .val (.int p0), .val (.int p1), .val (.int p2), .val (.int pl), .val (.int tl), .val (.int nu), .val (.ref ta), .val (.ref pa), .val (.ref st), .val (.ref sp), .val (.int (1 : Int32))]) C d17_267 rfl ?_
              have hb : hasB (mk4 tl t0 t1 t2 t3) (mk3 pl p0 p1 p2) = true := heq.mpr (Or.inr (Or.inr (Or.inr (Or.inl q29))))
              refine Own.aload C d17_269 rfl rfl ?_
              refine Own.aload C d17_271 rfl rfl ?_
              refine callS_ C (as := [(.ref st), (.ref sp)]) (st := []) (hw _ (List.mem_of_getElem? (i := 26) rfl)) (hw _ (List.mem_of_getElem? (i := 27) rfl)) (hw _ (List.mem_of_getElem? (i := 28) rfl)) (hw _ (List.mem_of_getElem? (i := 29) rfl)) ⟨by decide, by decide⟩ pd__28Ljava_2flang_2fString_3bLjava_2flang_2fString_3b_29Z rfl (fun O => k_cont hw hs F G (mk4_lt ht0.2 ht1.2 ht2.2 ht3.2) (mk3_lt hp0.2 hp1.2 hp2.2) O) (fun _ q => nomatch q) rfl (dle rfl) (dle rfl) (dle rfl) (dle rfl) d17_273 rfl (fun v30 hp30 gs30 K30 Q30 => ?_)
              obtain ⟨rfl, rfl⟩ := Q30
              rw [hb]
              show Go _ K Z _ n0 _ _ 276 #[.val (.int t), .val (.int p), .val (.int m), .val (.int t0), .val (.int t1), .val (.int t2), .val (.int t3), .val (.int p0), .val (.int p1), .val (.int p2), .val (.int pl), .val (.int tl), .val (.int nu), .val (.ref ta), .val (.ref pa), .val (.ref st), .val (.ref sp), .val (.int (1 : Int32))] [(.int (1 : Int32))] hp30 _ _ _
              refine Own.iload C d17_276 rfl ?_
              refine icmp_ne C d17_278 (fun q31 => ?_) (fun q31 => ?_)
              · exact absurd rfl q31
              · refine Own.iconst (v := 1) C d17_281 rfl ?_
                refine Own.goto_ C d17_282 ?_
                exact retZ C (gs := []) d17_286 (dle rfl) (dle rfl) (fun _ q => nomatch q) rfl
            · refine Own.aload C d17_247 rfl rfl ?_
              refine Own.iload C d17_249 rfl ?_
              refine Own.aload C d17_251 rfl rfl ?_
              refine Own.iload C d17_253 rfl ?_
              refine Own.iconst (v := 4) C d17_255 rfl ?_
              refine callS_ C (as := [(.ref ta), (.int tl), (.ref pa), (.int pl), (.int (4 : Int32))]) (st := []) (hw _ (List.mem_of_getElem? (i := 44) rfl)) (hw _ (List.mem_of_getElem? (i := 45) rfl)) (hw _ (List.mem_of_getElem? (i := 3) rfl)) (hw _ (List.mem_of_getElem? (i := 46) rfl)) ⟨by decide, by decide⟩ pd__28_5bCI_5bCII_29Z rfl (fun O => k_at4 hw hs htl hpl Ata Apa O) (fun _ q => nomatch q) rfl (dle rfl) (dle rfl) (dle rfl) (dle rfl) d17_256 rfl (fun v32 hp32 gs32 K32 Q32 => ?_)
              obtain ⟨rfl, rfl⟩ := Q32
              show Go _ K Z _ n0 _ _ 259 #[.val (.int t), .val (.int p), .val (.int m), .val (.int t0), .val (.int t1), .val (.int t2), .val (.int t3), .val (.int p0), .val (.int p1), .val (.int p2), .val (.int pl), .val (.int tl), .val (.int nu), .val (.ref ta), .val (.ref pa), .val (.ref st), .val (.ref sp), .unset] [(.int (atv 0 p0 0 p1 0 p2 tl pl 4))] hp32 _ _ _
              have F := F.keep K32
              have G := G.keep K32
              have Ata := Ata.keep K32 nin0
              have Apa := Apa.keep K32 nin0
              refine if_eq C d17_259 (fun q33 => ?_) (fun q33 => ?_)
              · refine Own.iconst (v := 0) C d17_266 rfl ?_
                refine Own.istore (L' := #[.val (.int t), .val (.int p), .val (.int m), .val (.int t0), .val (.int t1), .val (.int t2), .val (.int t3), .val (.int p0), .val (.int p1), .val (.int p2), .val (.int pl), .val (.int tl), .val (.int nu), .val (.ref ta), .val (.ref pa), .val (.ref st), .val (.ref sp), .val (.int (0 : Int32))]) C d17_267 rfl ?_
                have hb : hasB (mk4 tl t0 t1 t2 t3) (mk3 pl p0 p1 p2) = false := by cases hz : hasB (mk4 tl t0 t1 t2 t3) (mk3 pl p0 p1 p2) with | false => rfl | true => exact absurd (heq.mp hz) (by rintro (z | z | z | z | z); exact z q17; exact z q21; exact z q25; exact z q29; exact z q33)
                refine Own.aload C d17_269 rfl rfl ?_
                refine Own.aload C d17_271 rfl rfl ?_
                refine callS_ C (as := [(.ref st), (.ref sp)]) (st := []) (hw _ (List.mem_of_getElem? (i := 26) rfl)) (hw _ (List.mem_of_getElem? (i := 27) rfl)) (hw _ (List.mem_of_getElem? (i := 28) rfl)) (hw _ (List.mem_of_getElem? (i := 29) rfl)) ⟨by decide, by decide⟩ pd__28Ljava_2flang_2fString_3bLjava_2flang_2fString_3b_29Z rfl (fun O => k_cont hw hs F G (mk4_lt ht0.2 ht1.2 ht2.2 ht3.2) (mk3_lt hp0.2 hp1.2 hp2.2) O) (fun _ q => nomatch q) rfl (dle rfl) (dle rfl) (dle rfl) (dle rfl) d17_273 rfl (fun v34 hp34 gs34 K34 Q34 => ?_)
                obtain ⟨rfl, rfl⟩ := Q34
                rw [hb]
                show Go _ K Z _ n0 _ _ 276 #[.val (.int t), .val (.int p), .val (.int m), .val (.int t0), .val (.int t1), .val (.int t2), .val (.int t3), .val (.int p0), .val (.int p1), .val (.int p2), .val (.int pl), .val (.int tl), .val (.int nu), .val (.ref ta), .val (.ref pa), .val (.ref st), .val (.ref sp), .val (.int (0 : Int32))] [(.int (0 : Int32))] hp34 _ _ _
                refine Own.iload C d17_276 rfl ?_
                refine icmp_ne C d17_278 (fun q35 => ?_) (fun q35 => ?_)
                · exact absurd rfl q35
                · refine Own.iconst (v := 1) C d17_281 rfl ?_
                  refine Own.goto_ C d17_282 ?_
                  exact retZ C (gs := []) d17_286 (dle rfl) (dle rfl) (fun _ q => nomatch q) rfl
              · refine Own.iconst (v := 1) C d17_262 rfl ?_
                refine Own.goto_ C d17_263 ?_
                refine Own.istore (L' := #[.val (.int t), .val (.int p), .val (.int m), .val (.int t0), .val (.int t1), .val (.int t2), .val (.int t3), .val (.int p0), .val (.int p1), .val (.int p2), .val (.int pl), .val (.int tl), .val (.int nu), .val (.ref ta), .val (.ref pa), .val (.ref st), .val (.ref sp), .val (.int (1 : Int32))]) C d17_267 rfl ?_
                have hb : hasB (mk4 tl t0 t1 t2 t3) (mk3 pl p0 p1 p2) = true := heq.mpr (Or.inr (Or.inr (Or.inr (Or.inr (q33)))))
                refine Own.aload C d17_269 rfl rfl ?_
                refine Own.aload C d17_271 rfl rfl ?_
                refine callS_ C (as := [(.ref st), (.ref sp)]) (st := []) (hw _ (List.mem_of_getElem? (i := 26) rfl)) (hw _ (List.mem_of_getElem? (i := 27) rfl)) (hw _ (List.mem_of_getElem? (i := 28) rfl)) (hw _ (List.mem_of_getElem? (i := 29) rfl)) ⟨by decide, by decide⟩ pd__28Ljava_2flang_2fString_3bLjava_2flang_2fString_3b_29Z rfl (fun O => k_cont hw hs F G (mk4_lt ht0.2 ht1.2 ht2.2 ht3.2) (mk3_lt hp0.2 hp1.2 hp2.2) O) (fun _ q => nomatch q) rfl (dle rfl) (dle rfl) (dle rfl) (dle rfl) d17_273 rfl (fun v36 hp36 gs36 K36 Q36 => ?_)
                obtain ⟨rfl, rfl⟩ := Q36
                rw [hb]
                show Go _ K Z _ n0 _ _ 276 #[.val (.int t), .val (.int p), .val (.int m), .val (.int t0), .val (.int t1), .val (.int t2), .val (.int t3), .val (.int p0), .val (.int p1), .val (.int p2), .val (.int pl), .val (.int tl), .val (.int nu), .val (.ref ta), .val (.ref pa), .val (.ref st), .val (.ref sp), .val (.int (1 : Int32))] [(.int (1 : Int32))] hp36 _ _ _
                refine Own.iload C d17_276 rfl ?_
                refine icmp_ne C d17_278 (fun q37 => ?_) (fun q37 => ?_)
                · exact absurd rfl q37
                · refine Own.iconst (v := 1) C d17_281 rfl ?_
                  refine Own.goto_ C d17_282 ?_
                  exact retZ C (gs := []) d17_286 (dle rfl) (dle rfl) (fun _ q => nomatch q) rfl
  · have hnu := q12
    refine Own.aconstNull C d17_151 ?_
    refine Own.goto_ C d17_152 ?_
    refine Own.astore (L' := #[.val (.int t), .val (.int p), .val (.int m), .val (.int t0), .val (.int t1), .val (.int t2), .val (.int t3), .val (.int p0), .val (.int p1), .val (.int p2), .val (.int pl), .val (.int tl), .val (.int nu), .val (.ref ta), .val (.ref pa), .val .null, .unset, .unset]) C d17_167 rfl rfl ?_
    refine Own.iload C d17_169 rfl ?_
    refine Own.iload C d17_171 rfl ?_
    refine Own.iload C d17_173 rfl ?_
    refine Own.iload C d17_175 rfl ?_
    refine callS_ C (as := [(.int pl), (.int p0), (.int p1), (.int p2)]) (st := []) (hw _ (List.mem_of_getElem? (i := 1) rfl)) (hw _ (List.mem_of_getElem? (i := 2) rfl)) (hw _ (List.mem_of_getElem? (i := 3) rfl)) (hw _ (List.mem_of_getElem? (i := 4) rfl)) ⟨by decide, by decide⟩ pd__28ICCC_29Ljava_2flang_2fString_3b rfl (fun O => k_str3 hw hs cp0 cp1 cp2 hp0.2 hp1.2 hp2.2 O) (fun _ q => nomatch q) rfl (dle rfl) (dle rfl) (dle rfl) (dle rfl) d17_177 rfl (fun v38 hp38 gs38 K38 Q38 => ?_)
    obtain ⟨rfl, sp, rfl, G⟩ := Q38
    show Go _ K Z _ n0 _ _ 180 #[.val (.int t), .val (.int p), .val (.int m), .val (.int t0), .val (.int t1), .val (.int t2), .val (.int t3), .val (.int p0), .val (.int p1), .val (.int p2), .val (.int pl), .val (.int tl), .val (.int nu), .val (.ref ta), .val (.ref pa), .val .null, .unset, .unset] [(.ref sp)] hp38 _ _ _
    refine Own.astore (L' := #[.val (.int t), .val (.int p), .val (.int m), .val (.int t0), .val (.int t1), .val (.int t2), .val (.int t3), .val (.int p0), .val (.int p1), .val (.int p2), .val (.int pl), .val (.int tl), .val (.int nu), .val (.ref ta), .val (.ref pa), .val .null, .val (.ref sp), .unset]) C d17_180 rfl rfl ?_
    refine Own.iload C d17_182 rfl ?_
    refine if_ne C d17_184 (fun q39 => ?_) (fun q39 => ?_)
    · refine Own.iconst (v := 0) C d17_266 rfl ?_
      refine Own.istore (L' := #[.val (.int t), .val (.int p), .val (.int m), .val (.int t0), .val (.int t1), .val (.int t2), .val (.int t3), .val (.int p0), .val (.int p1), .val (.int p2), .val (.int pl), .val (.int tl), .val (.int nu), .val (.ref ta), .val (.ref pa), .val .null, .val (.ref sp), .val (.int (0 : Int32))]) C d17_267 rfl ?_
      refine Own.aload C d17_269 rfl rfl ?_
      refine Own.aload C d17_271 rfl rfl ?_
      refine callS_ C (as := [.null, (.ref sp)]) (st := []) (hw _ (List.mem_of_getElem? (i := 26) rfl)) (hw _ (List.mem_of_getElem? (i := 27) rfl)) (hw _ (List.mem_of_getElem? (i := 28) rfl)) (hw _ (List.mem_of_getElem? (i := 29) rfl)) ⟨by decide, by decide⟩ pd__28Ljava_2flang_2fString_3bLjava_2flang_2fString_3b_29Z rfl (fun O => k_cont0 hw hs O) (fun _ q => nomatch q) rfl (dle rfl) (dle rfl) (dle rfl) (dle rfl) d17_273 rfl (fun v40 hp40 gs40 K40 Q40 => ?_)
      obtain ⟨rfl, rfl⟩ := Q40
      show Go _ K Z _ n0 _ _ 276 #[.val (.int t), .val (.int p), .val (.int m), .val (.int t0), .val (.int t1), .val (.int t2), .val (.int t3), .val (.int p0), .val (.int p1), .val (.int p2), .val (.int pl), .val (.int tl), .val (.int nu), .val (.ref ta), .val (.ref pa), .val .null, .val (.ref sp), .val (.int (0 : Int32))] [(.int (0 : Int32))] hp40 _ _ _
      refine Own.iload C d17_276 rfl ?_
      refine icmp_ne C d17_278 (fun q41 => ?_) (fun q41 => ?_)
      · exact absurd rfl q41
      · refine Own.iconst (v := 1) C d17_281 rfl ?_
        refine Own.goto_ C d17_282 ?_
        exact retZ C (gs := []) d17_286 (dle rfl) (dle rfl) (fun _ q => nomatch q) rfl
    · exact absurd q39 hnu
set_option maxRecDepth 65536 in
set_option maxHeartbeats 4000000 in
theorem comes_1 {Post : Tables → Env → Array Value → State → Outcome → State → Prop} (hpost : ∀ tb e args s v u, (limb_1_1.after args s (.returned v) u = true ∧ limb_1_2.after args s (.returned v) u = true ∧ True) → ReturnedEndW s (.returned v) u (Jvm.fieldLocs frame_1_writes args s ++ Jvm.arrayLocs frame_1_arrays args s ++ Jvm.staticLocs frame_1_statics s) 32 1152 → Post tb e args s (.returned v) u) :
    ArmFor flags0 classFile x code maxLocals ret World_1 tables_1 room_1 Calls_1 rest_1 Pre_1 Post := by
  intro l hfl _ _ p e ha hc hk s m args below hf hA hF happ hP
  obtain ⟨hcalls, hrest, hpre⟩ := hP
  obtain ⟨-, -, -, hnamed, -, -, -, hat⟩ := (Spec.applies_iff hf).mp happ
  obtain ⟨hg, hn⟩ := and_e (Cond.before_iff.mp (show (Jvm.Cond.and given_1 narrow_1).before args s = true from hpre))
  obtain ⟨h1, h2⟩ := and_e hg
  obtain ⟨j0, h2⟩ := and_e h2
  obtain ⟨j1, h2⟩ := and_e h2
  have j2 := h2
  obtain ⟨w0, w1, w2, rfl⟩ : ∃ w0 w1 w2 : Value, args = #[w0, w1, w2] := by
    have hs : args.size = 3 := by simpa [Cond.value, given_1] using h1
    obtain ⟨L⟩ := args
    match L, hs with
    | [w0, w1, w2], _ => exact ⟨w0, w1, w2, rfl⟩
  have hw := fun d (hd : d ∈ tables_1) => atoms_spec (ws := Jvm.Cond.code x code maxLocals ret :: tables_1) hat d (List.mem_cons_of_mem _ hd)
  obtain ⟨hsets, hown0⟩ := atoms_of _ (rest_1_c_eq ▸ (show rest_1_c.before _ s = true from hrest))
  obtain ⟨x0, f0⟩ := is_v j0
  obtain rfl : w0 = (.int x0) := Option.some.inj f0
  obtain ⟨x1, f1⟩ := is_v j1
  obtain rfl : w1 = (.int x1) := Option.some.inj f1
  obtain ⟨x2, f2⟩ := is_v j2
  obtain rfl : w2 = (.int x2) := Option.some.inj f2
  have n0 := not_v (Cond.before_iff.mp (hsets _ (List.mem_of_getElem? (i := 2) rfl)))
  obtain ⟨i0, e0⟩ := is_v (Cond.before_iff.mp (hsets _ (List.mem_of_getElem? (i := 1) rfl)))
  have S0 : Sta s s.heap "java/lang/String" "COMPACT_STRINGS" "Z" (.int i0) := Sta.start e0 (Or.inl (hsets _ (List.mem_of_getElem? (i := 0) rfl)))
  have c0 : ¬ (i0 = (0 : Int32)) := gotF (Cond.eq_ints e0 (Term.int_eval (0))) n0
  have hCH : CHv s EL0 s.vm s.heap := CHv.start (hEL hw) (fun p hp => (show Jvm.Lit.constHeld s p.1 p.2 from hcalls.1 p hp)) (show Jvm.Lit.compactW.before _ s = true from (hsets _ (List.mem_of_getElem? (i := 2) rfl))) (hw _ (List.mem_of_getElem? (i := 19) rfl)) (hw _ (List.mem_of_getElem? (i := 6) rfl))
  obtain ⟨n, o, h1, h2, h3, v, L, gs, rfl, rfl, N, -, -, -, -, hq⟩ := k_law hw ⟨⟨i0, c0, S0⟩, trivial⟩ (t := x0) (p := x1) (m := x2) (Old.start s) l tables_1 p e ha hc hk s m _ below hf ((Spec.applies_iff_loose hf).mp happ).1 ⟨rfl, State.Warmed39.refl s, rfl, hCH, fun _ hx => absurd hx List.not_mem_nil⟩ trivial
  refine ⟨n, _, h1, h2, h3, hpost _ _ _ _ _ _ ⟨Cond.after_iff.mpr rfl, Cond.after_iff.mpr (eq_i res_at (Term.int_eval (1)) rfl), trivial⟩ ⟨hq.1, hq.2.1, hq.2.2.1, (hq.2.2.2.sift fun y hy => Or.inr (N y hy)).mono (by decide) (by decide)⟩⟩
theorem main_1_1 : Claimed_1_1 := comes_1 fun _ _ _ _ _ _ h hF => ⟨h.1, hF⟩
theorem main_1_2 : Claimed_1_2 := comes_1 fun _ _ _ _ _ _ h hF => ⟨h.2.1, hF⟩
end Jvm.Pilot.@@N@@
namespace Jvm.Pilot.@@N@@
open Jvm Jvm.ClassFile Sem Op Lib Jvm.Free Jvm.Stand Jvm.Pilot.@@N@@.Jvm.D
/-! MADE BY PROGRAM (witnessworld.py) out of the Statement's table words and the real class files: 22 classes; the members and pool entries that the words name. The judged class is class 1, her method 1. -/
namespace start1
open Jvm.ClassFile
def u (s : String) : CpInfo := .utf8 (stringToUtf16 s)
/-- a pool by its gaps: so many unusable entries, then the entry; so many at the end -/
def gap : Nat → List CpInfo → List CpInfo
  | 0, r => r
  | n + 1, r => .unusable :: gap n r
def poolList (es : List (Nat × CpInfo)) (last : Nat) : List CpInfo := es.foldr (fun e r => gap e.1 (e.2 :: r)) (gap last [])
def pool (es : List (Nat × CpInfo)) (last : Nat) : Array CpInfo := ⟨poolList es last⟩
def fileOf (pool : Array CpInfo) (this : Nat) (attrs : Array Attribute := #[]) (ms : Array MethodInfo := #[]) (fl : Nat := 33) (sup : Nat := 0) (ifs : Array Nat := #[]) (fds : Array FieldInfo := #[]) : ClassFile where
  minorVersion := 0
  majorVersion := 65
  constantPool := pool
  accessFlags := fl
  thisClass := this
  superClass := sup
  interfaces := ifs
  fields := fds
  methods := ms
  attributes := attrs
def plain (name : String) (sup : Option ClassId) : Class where
  name := name
  kind := .ordinary
  loader := none
  accessFlags := 33
  super := sup
  interfaces := #[]
  cf := none
  fields := #[]
  methods := #[]
  instanceTypes := #[]
  staticTypes := #[]
  resolved := #[]
  callSites := []
  init := .initialized
  statics := none
  mirror := none

def pool0 : Array CpInfo := pool [(5, u "<init>"), (0, u "()V"), (1, .class_ 10), (1, u "java/lang/Object")] 113

def k0c0 : Code := { maxStack := 0, maxLocals := 1, code := object_method_1_code, exceptionTable := #[], attributes := #[] }
def k0m0 : Method := { name := "<init>", desc := "()V", sig := { parameters := [], returnType := none }, accessFlags := 1, code := some k0c0 }
/-- java/lang/Object -/
def k0 : Class := { plain "java/lang/Object" none with
  accessFlags := 33
  interfaces := #[]
  cf := some (fileOf pool0 8 #[] #[{ accessFlags := 1, nameIndex := 5, descriptorIndex := 6, attributes := #[] }] 33 0 #[] #[])
  fields := #[]
  methods := #[k0m0]
  instanceTypes := #[]
  staticTypes := #[]
  resolved := Array.replicate 124 none
  statics := none }

def pool1 : Array CpInfo := pool [(2, .class_ 4), (1, u "java/lang/Object"), (0, u "<init>"), (0, u "()V"), (0, .methodref 8 9), (0, .class_ 10), (0, .nameAndType 11 12), (0, u "com/example/harnessd/harnessd/model/SearchContainsPinLaw"), (0, u "str4"), (0, u "(ICCCC)Ljava/lang/String;"), (0, .methodref 8 14), (0, .nameAndType 15 16), (0, u "str3"), (0, u "(ICCC)Ljava/lang/String;"), (0, .methodref 8 18), (0, .nameAndType 19 20), (0, u "at"), (0, u "([CI[CII)Z"), (0, .methodref 22 23), (0, .class_ 24), (0, .nameAndType 25 26), (0, u "com/example/harnessd/harnessd/model/Search"), (0, u "contains"), (0, u "(Ljava/lang/String;Ljava/lang/String;)Z"), (0, .class_ 28), (0, u "java/lang/String"), (0, .methodref 27 30), (0, .nameAndType 5 31), (0, u "([C)V"), (0, .methodref 8 33), (0, .nameAndType 34 35), (0, u "fold"), (0, u "(C)I"), (0, .methodref 8 37), (0, .nameAndType 38 39), (0, u "eq"), (0, u "(CC)Z"), (2, u "law"), (0, u "(III)Z")] 5

def k1m0 : Method := { name := "<init>", desc := "()V", sig := { parameters := [], returnType := none }, accessFlags := 2, code := none }
def k1c1 : Code := { maxStack := 5, maxLocals := 18, code := code, exceptionTable := #[], attributes := #[] }
def k1m1 : Method := { name := "law", desc := "(III)Z", sig := { parameters := [.int, .int, .int], returnType := some .boolean }, accessFlags := 9, code := some k1c1 }
def k1c2 : Code := { maxStack := 6, maxLocals := 5, code := method_3_code, exceptionTable := #[], attributes := #[] }
def k1m2 : Method := { name := "str4", desc := "(ICCCC)Ljava/lang/String;", sig := { parameters := [.int, .char, .char, .char, .char], returnType := some (.object "java/lang/String") }, accessFlags := 10, code := some k1c2 }
def k1c3 : Code := { maxStack := 6, maxLocals := 4, code := method_4_code, exceptionTable := #[], attributes := #[] }
def k1m3 : Method := { name := "str3", desc := "(ICCC)Ljava/lang/String;", sig := { parameters := [.int, .char, .char, .char], returnType := some (.object "java/lang/String") }, accessFlags := 10, code := some k1c3 }
def k1c4 : Code := { maxStack := 2, maxLocals := 1, code := method_5_code, exceptionTable := #[], attributes := #[] }
def k1m4 : Method := { name := "fold", desc := "(C)I", sig := { parameters := [.char], returnType := some .int }, accessFlags := 10, code := some k1c4 }
def k1c5 : Code := { maxStack := 2, maxLocals := 2, code := method_6_code, exceptionTable := #[], attributes := #[] }
def k1m5 : Method := { name := "eq", desc := "(CC)Z", sig := { parameters := [.char, .char], returnType := some .boolean }, accessFlags := 10, code := some k1c5 }
def k1c6 : Code := { maxStack := 3, maxLocals := 5, code := method_7_code, exceptionTable := #[], attributes := #[] }
def k1m6 : Method := { name := "at", desc := "([CI[CII)Z", sig := { parameters := [(.array .char), .int, (.array .char), .int, .int], returnType := some .boolean }, accessFlags := 10, code := some k1c6 }
/-- com/example/harnessd/harnessd/model/SearchContainsPinLaw -/
def k1 : Class := { plain "com/example/harnessd/harnessd/model/SearchContainsPinLaw" (some 0) with
  accessFlags := 49
  interfaces := #[]
  cf := some (fileOf pool1 8 #[] #[{ accessFlags := 2, nameIndex := 5, descriptorIndex := 6, attributes := #[] }, { accessFlags := 9, nameIndex := 42, descriptorIndex := 43, attributes := #[] }, { accessFlags := 10, nameIndex := 11, descriptorIndex := 12, attributes := #[] }, { accessFlags := 10, nameIndex := 15, descriptorIndex := 16, attributes := #[] }, { accessFlags := 10, nameIndex := 34, descriptorIndex := 35, attributes := #[] }, { accessFlags := 10, nameIndex := 38, descriptorIndex := 39, attributes := #[] }, { accessFlags := 10, nameIndex := 19, descriptorIndex := 20, attributes := #[] }] 49 2 #[] #[])
  fields := #[]
  methods := #[k1m0, k1m1, k1m2, k1m3, k1m4, k1m5, k1m6]
  instanceTypes := #[]
  staticTypes := #[]
  resolved := Array.replicate 49 none
  statics := none }

def pool2 : Array CpInfo := pool [(1, .class_ 2), (0, u "java/io/Serializable"), (0, .class_ 4), (0, u "java/lang/Object")] 2

/-- java/io/Serializable -/
def k2 : Class := { plain "java/io/Serializable" (some 0) with
  accessFlags := 1537
  interfaces := #[]
  cf := some (fileOf pool2 1 #[] #[] 1537 3 #[] #[])
  fields := #[]
  methods := #[]
  instanceTypes := #[]
  staticTypes := #[]
  resolved := Array.replicate 7 none
  statics := none }

def pool3 : Array CpInfo := pool [(1, .class_ 2), (0, u "java/lang/Comparable"), (0, .class_ 4), (0, u "java/lang/Object")] 7

/-- java/lang/Comparable -/
def k3 : Class := { plain "java/lang/Comparable" (some 0) with
  accessFlags := 1537
  interfaces := #[]
  cf := some (fileOf pool3 1 #[] #[] 1537 3 #[] #[])
  fields := #[]
  methods := #[]
  instanceTypes := #[]
  staticTypes := #[]
  resolved := Array.replicate 12 none
  statics := none }

def pool4 : Array CpInfo := pool [(2, .class_ 4), (1, u "java/lang/CharSequence"), (42, .class_ 48), (0, u "java/lang/CharSequence$1CodePointIterator"), (10, .class_ 60), (0, u "java/lang/CharSequence$1CharIterator"), (5, .class_ 67), (0, u "java/lang/Object")] 63

/-- java/lang/CharSequence -/
def k4 : Class := { plain "java/lang/CharSequence" (some 0) with
  accessFlags := 1537
  interfaces := #[]
  cf := some (fileOf pool4 2 #[.nestMembers #[47, 59]] #[] 1537 66 #[] #[])
  fields := #[]
  methods := #[]
  instanceTypes := #[]
  staticTypes := #[]
  resolved := Array.replicate 131 none
  statics := none }

def pool5 : Array CpInfo := pool [(1, .class_ 2), (0, u "java/lang/constant/Constable"), (0, .class_ 4), (0, u "java/lang/Object")] 6

/-- java/lang/constant/Constable -/
def k5 : Class := { plain "java/lang/constant/Constable" (some 0) with
  accessFlags := 1537
  interfaces := #[]
  cf := some (fileOf pool5 1 #[] #[] 1537 3 #[] #[])
  fields := #[]
  methods := #[]
  instanceTypes := #[]
  staticTypes := #[]
  resolved := Array.replicate 11 none
  statics := none }

def pool6 : Array CpInfo := pool [(1, .class_ 2), (0, u "java/lang/constant/ConstantDesc"), (0, .class_ 4), (0, u "java/lang/Object")] 32

/-- java/lang/constant/ConstantDesc -/
def k6 : Class := { plain "java/lang/constant/ConstantDesc" (some 0) with
  accessFlags := 1537
  interfaces := #[]
  cf := some (fileOf pool6 1 #[] #[] 1537 3 #[] #[])
  fields := #[]
  methods := #[]
  instanceTypes := #[]
  staticTypes := #[]
  resolved := Array.replicate 37 none
  statics := none }

def pool7 : Array CpInfo := pool [(1, .methodref 2 3), (0, .class_ 4), (0, .nameAndType 5 6), (0, u "java/lang/Object"), (0, u "<init>"), (0, u "()V"), (0, .string 8), (0, u ""), (0, .fieldref 10 11), (0, .class_ 12), (0, .nameAndType 13 14), (0, u "java/lang/String"), (0, u "value"), (0, u "[B"), (0, .fieldref 10 16), (0, .nameAndType 17 18), (0, u "coder"), (0, u "B"), (2, u "hash"), (0, u "I"), (2, u "hashIsZero"), (0, u "Z"), (0, .methodref 10 28), (0, .nameAndType 5 29), (0, u "([CIILjava/lang/Void;)V"), (8, .fieldref 10 39), (0, .nameAndType 40 26), (0, u "COMPACT_STRINGS"), (1, .class_ 44), (1, u "java/lang/StringUTF16"), (0, u "compress"), (1, .methodref 42 48), (0, .nameAndType 49 50), (0, u "coderFromArrayLen"), (0, u "([BI)B"), (56, .class_ 109), (1, u "java/lang/StringLatin1"), (67, .methodref 42 178), (0, .nameAndType 45 179), (0, u "([CII)[B"), (154, u "()I"), (0, .methodref 10 336), (0, .nameAndType 17 337), (0, u "()B"), (167, .methodref 10 506), (0, .nameAndType 507 334), (0, u "length"), (67, .class_ 576), (0, u "java/lang/CharSequence"), (7, u "regionMatches"), (0, u "(ZILjava/lang/String;II)Z"), (13, u "CASE_INSENSITIVE_ORDER"), (0, u "Ljava/util/Comparator;"), (12, .methodref 107 614), (0, .nameAndType 615 616), (0, u "regionMatchesCI"), (0, u "([BI[BII)Z"), (393, u "([C)V"), (90, u "serialPersistentFields"), (0, u "[Ljava/io/ObjectStreamField;"), (0, .class_ 1104), (0, u "java/lang/String$CaseInsensitiveComparator"), (1, .class_ 1107), (0, u "java/io/Serializable"), (0, .class_ 1109), (0, u "java/lang/Comparable"), (0, .class_ 1111), (0, u "java/lang/constant/Constable"), (0, .class_ 1113), (0, u "java/lang/constant/ConstantDesc"), (2, u "serialVersionUID"), (0, u "J"), (3, u "REPL"), (0, u "C"), (2, u "LATIN1"), (1, u "UTF16")] 323

def k7m0 : Method := { name := "<init>", desc := "()V", sig := { parameters := [], returnType := none }, accessFlags := 1, code := none }
def k7c1 : Code := { maxStack := 5, maxLocals := 2, code := jdk_42_method_3_code, exceptionTable := #[], attributes := #[] }
def k7m1 : Method := { name := "<init>", desc := "([C)V", sig := { parameters := [(.array .char)], returnType := none }, accessFlags := 1, code := some k7c1 }
def k7c2 : Code := { maxStack := 2, maxLocals := 1, code := jdk_42_method_54_code, exceptionTable := #[], attributes := #[] }
def k7m2 : Method := { name := "length", desc := "()I", sig := { parameters := [], returnType := some .int }, accessFlags := 1, code := some k7c2 }
def k7c3 : Code := { maxStack := 6, maxLocals := 9, code := jdk_42_method_74_code, exceptionTable := #[], attributes := #[] }
def k7m3 : Method := { name := "regionMatches", desc := "(ZILjava/lang/String;II)Z", sig := { parameters := [.boolean, .int, (.object "java/lang/String"), .int, .int], returnType := some .boolean }, accessFlags := 1, code := some k7c3 }
def k7c4 : Code := { maxStack := 4, maxLocals := 6, code := jdk_42_method_149_code, exceptionTable := #[], attributes := #[] }
def k7m4 : Method := { name := "<init>", desc := "([CIILjava/lang/Void;)V", sig := { parameters := [(.array .char), .int, .int, (.object "java/lang/Void")], returnType := none }, accessFlags := 2, code := some k7c4 }
def k7c5 : Code := { maxStack := 1, maxLocals := 1, code := jdk_42_method_152_code, exceptionTable := #[], attributes := #[] }
def k7m5 : Method := { name := "coder", desc := "()B", sig := { parameters := [], returnType := some .byte }, accessFlags := 0, code := some k7c5 }
/-- java/lang/String -/
def k7 : Class := { plain "java/lang/String" (some 0) with
  accessFlags := 49
  interfaces := #[2, 3, 4, 5, 6]
  cf := some (fileOf pool7 10 #[.nestMembers #[1103]] #[{ accessFlags := 1, nameIndex := 5, descriptorIndex := 6, attributes := #[] }, { accessFlags := 1, nameIndex := 5, descriptorIndex := 1010, attributes := #[] }, { accessFlags := 1, nameIndex := 507, descriptorIndex := 334, attributes := #[] }, { accessFlags := 1, nameIndex := 584, descriptorIndex := 585, attributes := #[] }, { accessFlags := 2, nameIndex := 5, descriptorIndex := 29, attributes := #[] }, { accessFlags := 0, nameIndex := 17, descriptorIndex := 337, attributes := #[] }] 49 2 #[1106, 1108, 575, 1110, 1112] #[{ accessFlags := 18, nameIndex := 13, descriptorIndex := 14, attributes := #[] }, { accessFlags := 18, nameIndex := 17, descriptorIndex := 18, attributes := #[] }, { accessFlags := 2, nameIndex := 21, descriptorIndex := 22, attributes := #[] }, { accessFlags := 2, nameIndex := 25, descriptorIndex := 26, attributes := #[] }, { accessFlags := 26, nameIndex := 1116, descriptorIndex := 1117, attributes := #[] }, { accessFlags := 24, nameIndex := 40, descriptorIndex := 26, attributes := #[] }, { accessFlags := 26, nameIndex := 1101, descriptorIndex := 1102, attributes := #[] }, { accessFlags := 26, nameIndex := 1121, descriptorIndex := 1122, attributes := #[] }, { accessFlags := 25, nameIndex := 599, descriptorIndex := 600, attributes := #[] }, { accessFlags := 24, nameIndex := 1125, descriptorIndex := 18, attributes := #[] }, { accessFlags := 24, nameIndex := 1127, descriptorIndex := 18, attributes := #[] }])
  fields := #[{ name := "value", type := (.array .byte), accessFlags := 18, slot := 0, constantValue := 0 }, { name := "coder", type := .byte, accessFlags := 18, slot := 1, constantValue := 0 }, { name := "hash", type := .int, accessFlags := 2, slot := 2, constantValue := 0 }, { name := "hashIsZero", type := .boolean, accessFlags := 2, slot := 3, constantValue := 0 }, { name := "serialVersionUID", type := .long, accessFlags := 26, slot := 0, constantValue := 0 }, { name := "COMPACT_STRINGS", type := .boolean, accessFlags := 24, slot := 1, constantValue := 0 }, { name := "serialPersistentFields", type := (.array (.object "java/io/ObjectStreamField")), accessFlags := 26, slot := 2, constantValue := 0 }, { name := "REPL", type := .char, accessFlags := 26, slot := 3, constantValue := 0 }, { name := "CASE_INSENSITIVE_ORDER", type := (.object "java/util/Comparator"), accessFlags := 25, slot := 4, constantValue := 0 }, { name := "LATIN1", type := .byte, accessFlags := 24, slot := 5, constantValue := 0 }, { name := "UTF16", type := .byte, accessFlags := 24, slot := 6, constantValue := 0 }]
  methods := #[k7m0, k7m1, k7m2, k7m3, k7m4, k7m5]
  instanceTypes := #[(.array .byte), .byte, .int, .boolean]
  staticTypes := #[.long, .boolean, (.array (.object "java/io/ObjectStreamField")), .char, (.object "java/util/Comparator"), .byte, .byte]
  resolved := Array.replicate 1451 none
  statics := some 0 }

def pool8 : Array CpInfo := pool [(2, .class_ 4), (1, u "java/lang/Object"), (0, u "<init>"), (0, u "()V"), (0, .methodref 8 9), (0, .class_ 10), (0, .nameAndType 11 12), (0, u "java/lang/String"), (0, u "length"), (0, u "()I"), (0, .methodref 8 14), (0, .nameAndType 15 16), (0, u "regionMatches"), (0, u "(ZILjava/lang/String;II)Z"), (0, .class_ 18), (0, u "com/example/harnessd/harnessd/model/Search"), (2, u "contains"), (0, u "(Ljava/lang/String;Ljava/lang/String;)Z")] 3

def k8m0 : Method := { name := "<init>", desc := "()V", sig := { parameters := [], returnType := none }, accessFlags := 2, code := none }
def k8c1 : Code := { maxStack := 6, maxLocals := 3, code := prog_12_method_2_code, exceptionTable := #[], attributes := #[] }
def k8m1 : Method := { name := "contains", desc := "(Ljava/lang/String;Ljava/lang/String;)Z", sig := { parameters := [(.object "java/lang/String"), (.object "java/lang/String")], returnType := some .boolean }, accessFlags := 9, code := some k8c1 }
/-- com/example/harnessd/harnessd/model/Search -/
def k8 : Class := { plain "com/example/harnessd/harnessd/model/Search" (some 0) with
  accessFlags := 49
  interfaces := #[]
  cf := some (fileOf pool8 17 #[] #[{ accessFlags := 2, nameIndex := 5, descriptorIndex := 6, attributes := #[] }, { accessFlags := 9, nameIndex := 21, descriptorIndex := 22, attributes := #[] }] 49 2 #[] #[])
  fields := #[]
  methods := #[k8m0, k8m1]
  instanceTypes := #[]
  staticTypes := #[]
  resolved := Array.replicate 26 none
  statics := none }

def pool9 : Array CpInfo := pool [(6, .class_ 8), (1, u "java/lang/Object"), (0, u "<init>"), (0, u "()V"), (1, .class_ 14), (1, u "java/lang/StringUTF16"), (31, u "$assertionsDisabled"), (0, u "Z"), (13, u "HI_BYTE_SHIFT"), (0, u "I"), (2, u "LO_BYTE_SHIFT"), (49, .methodref 12 116), (0, .nameAndType 117 118), (0, u "compress"), (0, u "([CI[BII)I"), (3, u "([CII)[B"), (138, u "coderFromArrayLen"), (0, u "([BI)B"), (106, .class_ 371), (1, u "java/lang/StringUTF16$LinesSpliterator"), (58, u "MAX_LENGTH"), (196, .class_ 628), (0, u "java/lang/StringUTF16$CodePointsSpliterator"), (0, .class_ 630), (0, u "java/lang/StringUTF16$CharsSpliterator")] 4

def k9m0 : Method := { name := "<init>", desc := "()V", sig := { parameters := [], returnType := none }, accessFlags := 0, code := none }
def k9c1 : Code := { maxStack := 2, maxLocals := 2, code := jdk_52_method_15_code, exceptionTable := #[], attributes := #[] }
def k9m1 : Method := { name := "coderFromArrayLen", desc := "([BI)B", sig := { parameters := [(.array .byte), .int], returnType := some .byte }, accessFlags := 8, code := some k9c1 }
def k9c2 : Code := { maxStack := 5, maxLocals := 6, code := jdk_52_method_16_code, exceptionTable := #[], attributes := #[] }
def k9m2 : Method := { name := "compress", desc := "([CII)[B", sig := { parameters := [(.array .char), .int, .int], returnType := some (.array .byte) }, accessFlags := 9, code := some k9c2 }
def k9c3 : Code := { maxStack := 3, maxLocals := 7, code := jdk_52_method_21_code, exceptionTable := #[], attributes := #[] }
def k9m3 : Method := { name := "compress", desc := "([CI[BII)I", sig := { parameters := [(.array .char), .int, (.array .byte), .int, .int], returnType := some .int }, accessFlags := 9, code := some k9c3 }
/-- java/lang/StringUTF16 -/
def k9 : Class := { plain "java/lang/StringUTF16" (some 0) with
  accessFlags := 48
  interfaces := #[]
  cf := some (fileOf pool9 12 #[.nestMembers #[627, 629, 369]] #[{ accessFlags := 0, nameIndex := 9, descriptorIndex := 10, attributes := #[] }, { accessFlags := 8, nameIndex := 261, descriptorIndex := 262, attributes := #[] }, { accessFlags := 9, nameIndex := 117, descriptorIndex := 122, attributes := #[] }, { accessFlags := 9, nameIndex := 117, descriptorIndex := 118, attributes := #[] }] 48 6 #[] #[{ accessFlags := 26, nameIndex := 61, descriptorIndex := 62, attributes := #[] }, { accessFlags := 26, nameIndex := 65, descriptorIndex := 62, attributes := #[] }, { accessFlags := 24, nameIndex := 430, descriptorIndex := 62, attributes := #[] }, { accessFlags := 4120, nameIndex := 46, descriptorIndex := 47, attributes := #[] }])
  fields := #[{ name := "HI_BYTE_SHIFT", type := .int, accessFlags := 26, slot := 0, constantValue := 0 }, { name := "LO_BYTE_SHIFT", type := .int, accessFlags := 26, slot := 1, constantValue := 0 }, { name := "MAX_LENGTH", type := .int, accessFlags := 24, slot := 2, constantValue := 0 }, { name := "$assertionsDisabled", type := .boolean, accessFlags := 4120, slot := 3, constantValue := 0 }]
  methods := #[k9m0, k9m1, k9m2, k9m3]
  instanceTypes := #[]
  staticTypes := #[.int, .int, .int, .boolean]
  resolved := Array.replicate 635 none
  statics := none }

def pool10 : Array CpInfo := pool [(4, .class_ 6), (1, u "java/lang/Object"), (0, u "<init>"), (0, u "()V"), (5, .class_ 16), (1, u "java/lang/StringLatin1"), (50, .class_ 69), (1, u "java/lang/CharacterDataLatin1"), (51, u "$assertionsDisabled"), (0, u "Z"), (30, .methodref 67 154), (0, .nameAndType 155 156), (0, u "equalsIgnoreCase"), (0, u "(BB)Z"), (64, .class_ 223), (1, u "java/lang/StringLatin1$LinesSpliterator"), (116, u "regionMatchesCI"), (0, u "([BI[BII)Z"), (48, .class_ 391), (0, u "java/lang/StringLatin1$CharsSpliterator")] 3

def k10m0 : Method := { name := "<init>", desc := "()V", sig := { parameters := [], returnType := none }, accessFlags := 0, code := none }
def k10c1 : Code := { maxStack := 2, maxLocals := 8, code := jdk_43_method_30_code, exceptionTable := #[], attributes := #[] }
def k10m1 : Method := { name := "regionMatchesCI", desc := "([BI[BII)Z", sig := { parameters := [(.array .byte), .int, (.array .byte), .int, .int], returnType := some .boolean }, accessFlags := 9, code := some k10c1 }
/-- java/lang/StringLatin1 -/
def k10 : Class := { plain "java/lang/StringLatin1" (some 0) with
  accessFlags := 48
  interfaces := #[]
  cf := some (fileOf pool10 14 #[.nestMembers #[390, 221]] #[{ accessFlags := 0, nameIndex := 7, descriptorIndex := 8, attributes := #[] }, { accessFlags := 9, nameIndex := 340, descriptorIndex := 341, attributes := #[] }] 48 4 #[] #[{ accessFlags := 4120, nameIndex := 121, descriptorIndex := 122, attributes := #[] }])
  fields := #[{ name := "$assertionsDisabled", type := .boolean, accessFlags := 4120, slot := 0, constantValue := 0 }]
  methods := #[k10m0, k10m1]
  instanceTypes := #[]
  staticTypes := #[.boolean]
  resolved := Array.replicate 395 none
  statics := none }

def pool11 : Array CpInfo := pool [(2, .class_ 4), (1, u "java/lang/Object"), (0, u "<init>"), (0, u "()V"), (1, .class_ 10), (1, u "java/lang/CharacterData")] 75

def k11m0 : Method := { name := "<init>", desc := "()V", sig := { parameters := [], returnType := none }, accessFlags := 0, code := none }
/-- java/lang/CharacterData -/
def k11 : Class := { plain "java/lang/CharacterData" (some 0) with
  accessFlags := 1056
  interfaces := #[]
  cf := some (fileOf pool11 8 #[] #[{ accessFlags := 0, nameIndex := 5, descriptorIndex := 6, attributes := #[] }] 1056 2 #[] #[])
  fields := #[]
  methods := #[k11m0]
  instanceTypes := #[]
  staticTypes := #[]
  resolved := Array.replicate 86 none
  statics := none }

def pool12 : Array CpInfo := pool [(2, .class_ 4), (1, u "java/lang/CharacterDataLatin1"), (0, u "A"), (0, u "[I"), (2, u "B"), (0, u "[C"), (16, u "DIGITS"), (0, u "[B"), (8, u "sharpsMap"), (1, .class_ 41), (1, u "java/lang/CharacterData"), (0, u "<init>"), (0, u "()V"), (3, u "instance"), (0, u "Ljava/lang/CharacterDataLatin1;"), (66, u "equalsIgnoreCase"), (0, u "(BB)Z")] 24

def k12c0 : Code := { maxStack := 3, maxLocals := 3, code := jdk_116_method_22_code, exceptionTable := #[], attributes := #[] }
def k12m0 : Method := { name := "equalsIgnoreCase", desc := "(BB)Z", sig := { parameters := [.byte, .byte], returnType := some .boolean }, accessFlags := 8, code := some k12c0 }
def k12m1 : Method := { name := "<init>", desc := "()V", sig := { parameters := [], returnType := none }, accessFlags := 2, code := none }
/-- java/lang/CharacterDataLatin1 -/
def k12 : Class := { plain "java/lang/CharacterDataLatin1" (some 11) with
  accessFlags := 32
  interfaces := #[]
  cf := some (fileOf pool12 2 #[] #[{ accessFlags := 8, nameIndex := 115, descriptorIndex := 116, attributes := #[] }, { accessFlags := 2, nameIndex := 42, descriptorIndex := 43, attributes := #[] }] 32 39 #[] #[{ accessFlags := 26, nameIndex := 27, descriptorIndex := 28, attributes := #[] }, { accessFlags := 8, nameIndex := 37, descriptorIndex := 10, attributes := #[] }, { accessFlags := 24, nameIndex := 47, descriptorIndex := 48, attributes := #[] }, { accessFlags := 24, nameIndex := 5, descriptorIndex := 6, attributes := #[] }, { accessFlags := 24, nameIndex := 9, descriptorIndex := 10, attributes := #[] }])
  fields := #[{ name := "DIGITS", type := (.array .byte), accessFlags := 26, slot := 0, constantValue := 0 }, { name := "sharpsMap", type := (.array .char), accessFlags := 8, slot := 1, constantValue := 0 }, { name := "instance", type := (.object "java/lang/CharacterDataLatin1"), accessFlags := 24, slot := 2, constantValue := 0 }, { name := "A", type := (.array .int), accessFlags := 24, slot := 3, constantValue := 0 }, { name := "B", type := (.array .char), accessFlags := 24, slot := 4, constantValue := 0 }]
  methods := #[k12m0, k12m1]
  instanceTypes := #[]
  staticTypes := #[(.array .byte), (.array .char), (.object "java/lang/CharacterDataLatin1"), (.array .int), (.array .char)]
  resolved := Array.replicate 141 none
  statics := none }

def pool13 : Array CpInfo := pool [(2, .class_ 4), (1, u "java/lang/Object"), (0, u "<init>"), (0, u "()V"), (17, .class_ 26), (1, u "jdk/internal/util/Preconditions"), (28, .class_ 56), (0, u "jdk/internal/util/Preconditions$4"), (57, .class_ 115), (0, u "jdk/internal/util/Preconditions$1"), (7, u "SIOOBE_FORMATTER"), (0, u "Ljava/util/function/BiFunction;"), (0, .class_ 126), (0, u "jdk/internal/util/Preconditions$2"), (3, u "AIOOBE_FORMATTER"), (0, .class_ 132), (0, u "jdk/internal/util/Preconditions$3"), (3, u "IOOBE_FORMATTER")] 57

def k13m0 : Method := { name := "<init>", desc := "()V", sig := { parameters := [], returnType := none }, accessFlags := 1, code := none }
/-- jdk/internal/util/Preconditions -/
def k13 : Class := { plain "jdk/internal/util/Preconditions" (some 0) with
  accessFlags := 33
  interfaces := #[]
  cf := some (fileOf pool13 24 #[.nestMembers #[55, 131, 125, 114]] #[{ accessFlags := 1, nameIndex := 5, descriptorIndex := 6, attributes := #[] }] 33 2 #[] #[{ accessFlags := 25, nameIndex := 123, descriptorIndex := 124, attributes := #[] }, { accessFlags := 25, nameIndex := 130, descriptorIndex := 124, attributes := #[] }, { accessFlags := 25, nameIndex := 136, descriptorIndex := 124, attributes := #[] }])
  fields := #[{ name := "SIOOBE_FORMATTER", type := (.object "java/util/function/BiFunction"), accessFlags := 25, slot := 0, constantValue := 0 }, { name := "AIOOBE_FORMATTER", type := (.object "java/util/function/BiFunction"), accessFlags := 25, slot := 1, constantValue := 0 }, { name := "IOOBE_FORMATTER", type := (.object "java/util/function/BiFunction"), accessFlags := 25, slot := 2, constantValue := 0 }]
  methods := #[k13m0]
  instanceTypes := #[]
  staticTypes := #[(.object "java/util/function/BiFunction"), (.object "java/util/function/BiFunction"), (.object "java/util/function/BiFunction")]
  resolved := Array.replicate 194 none
  statics := some 1 }

def pool14 : Array CpInfo := pool [(9, u "<init>"), (6, .class_ 18), (1, u "java/lang/Object"), (0, u "()V"), (1, .class_ 23), (1, u "jdk/internal/util/ArraysSupport"), (0, u "LOG2_ARRAY_LONG_INDEX_SCALE"), (0, u "I"), (2, u "U"), (0, u "Ljdk/internal/misc/Unsafe;"), (8, u "BIG_ENDIAN"), (0, u "Z"), (8, u "LOG2_BYTE_BIT_SIZE"), (4, u "LOG2_ARRAY_INT_INDEX_SCALE"), (54, u "JLA"), (0, u "Ljdk/internal/access/JavaLangAccess;"), (11, u "LOG2_ARRAY_BOOLEAN_INDEX_SCALE"), (9, u "LOG2_ARRAY_BYTE_INDEX_SCALE"), (5, u "LOG2_ARRAY_CHAR_INDEX_SCALE"), (5, u "LOG2_ARRAY_SHORT_INDEX_SCALE"), (18, u "LOG2_ARRAY_FLOAT_INDEX_SCALE"), (24, u "LOG2_ARRAY_DOUBLE_INDEX_SCALE"), (89, u "T_BOOLEAN"), (2, u "T_CHAR"), (1, u "T_FLOAT"), (1, u "T_DOUBLE"), (1, u "T_BYTE"), (1, u "T_SHORT"), (1, u "T_INT"), (1, u "T_LONG"), (1, u "SOFT_MAX_ARRAY_LENGTH")] 83

def k14m0 : Method := { name := "<init>", desc := "()V", sig := { parameters := [], returnType := none }, accessFlags := 2, code := none }
/-- jdk/internal/util/ArraysSupport -/
def k14 : Class := { plain "jdk/internal/util/ArraysSupport" (some 0) with
  accessFlags := 33
  interfaces := #[]
  cf := some (fileOf pool14 21 #[] #[{ accessFlags := 2, nameIndex := 9, descriptorIndex := 19, attributes := #[] }] 33 16 #[] #[{ accessFlags := 24, nameIndex := 28, descriptorIndex := 29, attributes := #[] }, { accessFlags := 26, nameIndex := 38, descriptorIndex := 39, attributes := #[] }, { accessFlags := 25, nameIndex := 121, descriptorIndex := 25, attributes := #[] }, { accessFlags := 25, nameIndex := 131, descriptorIndex := 25, attributes := #[] }, { accessFlags := 25, nameIndex := 137, descriptorIndex := 25, attributes := #[] }, { accessFlags := 25, nameIndex := 143, descriptorIndex := 25, attributes := #[] }, { accessFlags := 25, nameIndex := 53, descriptorIndex := 25, attributes := #[] }, { accessFlags := 25, nameIndex := 24, descriptorIndex := 25, attributes := #[] }, { accessFlags := 25, nameIndex := 162, descriptorIndex := 25, attributes := #[] }, { accessFlags := 25, nameIndex := 187, descriptorIndex := 25, attributes := #[] }, { accessFlags := 26, nameIndex := 48, descriptorIndex := 25, attributes := #[] }, { accessFlags := 25, nameIndex := 277, descriptorIndex := 25, attributes := #[] }, { accessFlags := 25, nameIndex := 280, descriptorIndex := 25, attributes := #[] }, { accessFlags := 25, nameIndex := 282, descriptorIndex := 25, attributes := #[] }, { accessFlags := 25, nameIndex := 284, descriptorIndex := 25, attributes := #[] }, { accessFlags := 25, nameIndex := 286, descriptorIndex := 25, attributes := #[] }, { accessFlags := 25, nameIndex := 288, descriptorIndex := 25, attributes := #[] }, { accessFlags := 25, nameIndex := 290, descriptorIndex := 25, attributes := #[] }, { accessFlags := 25, nameIndex := 292, descriptorIndex := 25, attributes := #[] }, { accessFlags := 26, nameIndex := 108, descriptorIndex := 109, attributes := #[] }, { accessFlags := 25, nameIndex := 294, descriptorIndex := 25, attributes := #[] }])
  fields := #[{ name := "U", type := (.object "jdk/internal/misc/Unsafe"), accessFlags := 24, slot := 0, constantValue := 0 }, { name := "BIG_ENDIAN", type := .boolean, accessFlags := 26, slot := 1, constantValue := 0 }, { name := "LOG2_ARRAY_BOOLEAN_INDEX_SCALE", type := .int, accessFlags := 25, slot := 2, constantValue := 0 }, { name := "LOG2_ARRAY_BYTE_INDEX_SCALE", type := .int, accessFlags := 25, slot := 3, constantValue := 0 }, { name := "LOG2_ARRAY_CHAR_INDEX_SCALE", type := .int, accessFlags := 25, slot := 4, constantValue := 0 }, { name := "LOG2_ARRAY_SHORT_INDEX_SCALE", type := .int, accessFlags := 25, slot := 5, constantValue := 0 }, { name := "LOG2_ARRAY_INT_INDEX_SCALE", type := .int, accessFlags := 25, slot := 6, constantValue := 0 }, { name := "LOG2_ARRAY_LONG_INDEX_SCALE", type := .int, accessFlags := 25, slot := 7, constantValue := 0 }, { name := "LOG2_ARRAY_FLOAT_INDEX_SCALE", type := .int, accessFlags := 25, slot := 8, constantValue := 0 }, { name := "LOG2_ARRAY_DOUBLE_INDEX_SCALE", type := .int, accessFlags := 25, slot := 9, constantValue := 0 }, { name := "LOG2_BYTE_BIT_SIZE", type := .int, accessFlags := 26, slot := 10, constantValue := 0 }, { name := "T_BOOLEAN", type := .int, accessFlags := 25, slot := 11, constantValue := 0 }, { name := "T_CHAR", type := .int, accessFlags := 25, slot := 12, constantValue := 0 }, { name := "T_FLOAT", type := .int, accessFlags := 25, slot := 13, constantValue := 0 }, { name := "T_DOUBLE", type := .int, accessFlags := 25, slot := 14, constantValue := 0 }, { name := "T_BYTE", type := .int, accessFlags := 25, slot := 15, constantValue := 0 }, { name := "T_SHORT", type := .int, accessFlags := 25, slot := 16, constantValue := 0 }, { name := "T_INT", type := .int, accessFlags := 25, slot := 17, constantValue := 0 }, { name := "T_LONG", type := .int, accessFlags := 25, slot := 18, constantValue := 0 }, { name := "JLA", type := (.object "jdk/internal/access/JavaLangAccess"), accessFlags := 26, slot := 19, constantValue := 0 }, { name := "SOFT_MAX_ARRAY_LENGTH", type := .int, accessFlags := 25, slot := 20, constantValue := 0 }]
  methods := #[k14m0]
  instanceTypes := #[]
  staticTypes := #[(.object "jdk/internal/misc/Unsafe"), .boolean, .int, .int, .int, .int, .int, .int, .int, .int, .int, .int, .int, .int, .int, .int, .int, .int, .int, (.object "jdk/internal/access/JavaLangAccess"), .int]
  resolved := Array.replicate 378 none
  statics := none }

def pool15 : Array CpInfo := pool [(1, u "java/lang/Cloneable"), (0, .class_ 1), (0, u "java/lang/Object"), (0, .class_ 3)] 3

/-- java/lang/Cloneable -/
def k15 : Class := { plain "java/lang/Cloneable" (some 0) with
  accessFlags := 1537
  interfaces := #[]
  cf := some (fileOf pool15 2 #[] #[] 1537 4 #[] #[])
  fields := #[]
  methods := #[]
  instanceTypes := #[]
  staticTypes := #[]
  resolved := Array.replicate 8 none
  statics := none }

/-- the primitive byte -/
def k16 : Class := { plain "byte" none with kind := .primitive 'B', accessFlags := 0x411 }
/-- [B -/
def k17 : Class := { plain "[B" (some 0) with kind := .array 16 .byte, interfaces := #[15, 2], accessFlags := 1041 }

/-- the primitive char -/
def k18 : Class := { plain "char" none with kind := .primitive 'C', accessFlags := 0x411 }
/-- [C -/
def k19 : Class := { plain "[C" (some 0) with kind := .array 18 .char, interfaces := #[15, 2], accessFlags := 1041 }

/-- the primitive int -/
def k20 : Class := { plain "int" none with kind := .primitive 'I', accessFlags := 0x411 }
/-- [I -/
def k21 : Class := { plain "[I" (some 0) with kind := .array 20 .int, interfaces := #[15, 2], accessFlags := 1041 }

def heap : Heap := #[{ cls := 7, slots := #[.long 0, .int 1, .null, .int 0, .null, .int 0, .int 0], vm := .statics 7 },
  { cls := 13, slots := #[.null, .null, .null], vm := .statics 13 }]
def classes : Array Class := #[k0, k1, k2, k3, k4, k5, k6, k7, k8, k9, k10, k11, k12, k13, k14, k15, k16, k17, k18, k19, k20, k21]
def interned : List (Array UInt16 × Addr) := []
def slotsUsed : Nat := 10
def theMethod : MethodId := ⟨1, 1⟩
def args0 : Array Value := #[.int 1633837924, .int 50331745, .int 12]
def aboutOver (below : List Frame) : State where
  vm := { classes := classes, interned := interned.toArray }
  heap := heap
  slotsUsed := slotsUsed
  threads := #[{ frames := .invoking theMethod args0 :: below }]
def below0 : List Frame := [.native { method := ⟨0, 0⟩, args := #[] }]
def about1 : State := aboutOver below0
def p0 : Program := .bare "" "" ""
def e0 : Env := launch0.env 0 0 0
theorem w_frames : about1.frames = Frame.invoking theMethod args0 :: below0 := rfl
set_option maxRecDepth 65536 in
theorem w_args : argsFit about1.vm theMethod args0 = true := by decide +kernel
set_option maxRecDepth 65536 in
theorem w_heap : heapFits about1 = true := by decide +kernel
set_option maxRecDepth 65536 in
theorem w_runnable : about1.curStatus? = some .runnable := by decide +kernel
set_option maxRecDepth 65536 in
theorem w_alone : about1.alone = true := by decide +kernel
set_option maxRecDepth 65536 in
theorem w_named : about1.methodNamed? x = some theMethod := by decide +kernel
set_option maxRecDepth 65536 in
theorem w_hears : about1.hears theMethod below0 = true := by decide +kernel
set_option maxRecDepth 65536 in
theorem w_ripe : about1.ripe theMethod args0 below0 = true := by decide +kernel
theorem w_running : about1.status = .running := rfl
set_option maxRecDepth 65536 in
theorem w_room : about1.hasRoom e0.platform room_1 = true :=
  launch0.hasRoom_least _ room_1 (by decide +kernel) (by decide +kernel) (by decide +kernel) (by decide +kernel) (by decide +kernel) (by decide +kernel)
theorem allAtoms_all (ts : List Jvm.Cond) (a : Array Jvm.Value) (st : Jvm.State) : (allAtoms ts).before a st = ts.all (fun c => c.before a st) := by
  induction ts with
  | nil => rfl
  | cons c t ih =>
    show (Jvm.Cond.and c (allAtoms t)).before a st = _
    rw [Jvm.Cond.before_and, ih, List.all_cons]
def words1 : List Jvm.Cond := Jvm.Cond.code x code maxLocals ret :: tables_1
/-- a 'code' word, met by the world's own term for the bytes: nothing is compared byte by byte -/
theorem code_word {y : MethodName} {bytes : ByteArray} {mx : Nat} {rt : Option FieldType} {a : Array Value} {s : State} {m : MethodId} {meth : Method} {c : Code} (h1 : s.methodNamed? y = some m) (h2 : s.vm.method? m = some meth) (h3 : meth.code = some c) (h4 : c.code = bytes)
    (h5 : (c.maxLocals == mx && c.exceptionTable.isEmpty && decide (c.maxStack ≤ mostOperands) && decide (meth.sig.returnType = rt) && !meth.locks && decide (parseMethodDescriptor y.desc = some meth.sig)) = true) : (Jvm.Cond.code y bytes mx rt).before a s = true := by
  simp only [Bool.and_eq_true, beq_iff_eq, Bool.not_eq_true', decide_eq_true_eq] at h5
  obtain ⟨⟨⟨⟨⟨g1, g2⟩, g3⟩, g4⟩, g5⟩, g6⟩ := h5
  simp [Cond.before, Cond.holds, Cond.value, h1, h2, h3, h4, g1, g2, g3, g4, g5, g6]
def isCode : Jvm.Cond → Bool
  | .code _ _ _ _ => true
  | _ => false
theorem all_split {L : List Jvm.Cond} {P : Jvm.Cond → Bool} (h1 : L.all (fun c => isCode c || P c) = true) (h2 : ∀ c ∈ L.filter isCode, P c = true) : L.all P = true := by
  refine List.all_eq_true.mpr fun c hc => ?_
  have h := List.all_eq_true.mp h1 c hc
  rcases Bool.eq_false_or_eq_true (isCode c) with hi | hi
  · exact h2 c (List.mem_filter.mpr ⟨hc, hi⟩)
  · simpa [hi] using h
set_option maxRecDepth 65536 in
theorem w_c0 : (Jvm.Cond.code x code maxLocals ret).before args0 about1 = true := code_word (m := ⟨1, 1⟩) (meth := k1m1) (c := k1c1) (by decide +kernel) rfl rfl rfl (by decide +kernel)
set_option maxRecDepth 65536 in
theorem w_c1 : (Jvm.Cond.code ({ cls := "com/example/harnessd/harnessd/model/SearchContainsPinLaw", name := "str3", desc := "(ICCC)Ljava/lang/String;" } : Jvm.MethodName) method_4_code (4 : Nat) (Option.some (Jvm.ClassFile.FieldType.object "java/lang/String"))).before args0 about1 = true := code_word (m := ⟨1, 3⟩) (meth := k1m3) (c := k1c3) (by decide +kernel) rfl rfl rfl (by decide +kernel)
set_option maxRecDepth 65536 in
theorem w_c2 : (Jvm.Cond.code ({ cls := "java/lang/String", name := "<init>", desc := "([C)V" } : Jvm.MethodName) jdk_42_method_3_code (2 : Nat) (Option.none : Option Jvm.ClassFile.FieldType)).before args0 about1 = true := code_word (m := ⟨7, 1⟩) (meth := k7m1) (c := k7c1) (by decide +kernel) rfl rfl rfl (by decide +kernel)
set_option maxRecDepth 65536 in
theorem w_c3 : (Jvm.Cond.code ({ cls := "java/lang/String", name := "<init>", desc := "([CIILjava/lang/Void;)V" } : Jvm.MethodName) jdk_42_method_149_code (6 : Nat) (Option.none : Option Jvm.ClassFile.FieldType)).before args0 about1 = true := code_word (m := ⟨7, 4⟩) (meth := k7m4) (c := k7c4) (by decide +kernel) rfl rfl rfl (by decide +kernel)
set_option maxRecDepth 65536 in
theorem w_c4 : (Jvm.Cond.code ({ cls := "java/lang/Object", name := "<init>", desc := "()V" } : Jvm.MethodName) object_method_1_code (1 : Nat) (Option.none : Option Jvm.ClassFile.FieldType)).before args0 about1 = true := code_word (m := ⟨0, 0⟩) (meth := k0m0) (c := k0c0) (by decide +kernel) rfl rfl rfl (by decide +kernel)
set_option maxRecDepth 65536 in
theorem w_c5 : (Jvm.Cond.code ({ cls := "com/example/harnessd/harnessd/model/Search", name := "contains", desc := "(Ljava/lang/String;Ljava/lang/String;)Z" } : Jvm.MethodName) prog_12_method_2_code (3 : Nat) (Option.some Jvm.ClassFile.FieldType.boolean)).before args0 about1 = true := code_word (m := ⟨8, 1⟩) (meth := k8m1) (c := k8c1) (by decide +kernel) rfl rfl rfl (by decide +kernel)
set_option maxRecDepth 65536 in
theorem w_c6 : (Jvm.Cond.code ({ cls := "com/example/harnessd/harnessd/model/SearchContainsPinLaw", name := "str4", desc := "(ICCCC)Ljava/lang/String;" } : Jvm.MethodName) method_3_code (5 : Nat) (Option.some (Jvm.ClassFile.FieldType.object "java/lang/String"))).before args0 about1 = true := code_word (m := ⟨1, 2⟩) (meth := k1m2) (c := k1c2) (by decide +kernel) rfl rfl rfl (by decide +kernel)
set_option maxRecDepth 65536 in
theorem w_c7 : (Jvm.Cond.code ({ cls := "java/lang/StringUTF16", name := "compress", desc := "([CII)[B" } : Jvm.MethodName) jdk_52_method_16_code (6 : Nat) (Option.some (Jvm.ClassFile.FieldType.array Jvm.ClassFile.FieldType.byte))).before args0 about1 = true := code_word (m := ⟨9, 2⟩) (meth := k9m2) (c := k9c2) (by decide +kernel) rfl rfl rfl (by decide +kernel)
set_option maxRecDepth 65536 in
theorem w_c8 : (Jvm.Cond.code ({ cls := "java/lang/StringUTF16", name := "compress", desc := "([CI[BII)I" } : Jvm.MethodName) jdk_52_method_21_code (7 : Nat) (Option.some Jvm.ClassFile.FieldType.int)).before args0 about1 = true := code_word (m := ⟨9, 3⟩) (meth := k9m3) (c := k9c3) (by decide +kernel) rfl rfl rfl (by decide +kernel)
set_option maxRecDepth 65536 in
theorem w_c9 : (Jvm.Cond.code ({ cls := "java/lang/StringUTF16", name := "coderFromArrayLen", desc := "([BI)B" } : Jvm.MethodName) jdk_52_method_15_code (2 : Nat) (Option.some Jvm.ClassFile.FieldType.byte)).before args0 about1 = true := code_word (m := ⟨9, 1⟩) (meth := k9m1) (c := k9c1) (by decide +kernel) rfl rfl rfl (by decide +kernel)
set_option maxRecDepth 65536 in
theorem w_c10 : (Jvm.Cond.code ({ cls := "com/example/harnessd/harnessd/model/SearchContainsPinLaw", name := "at", desc := "([CI[CII)Z" } : Jvm.MethodName) method_7_code (5 : Nat) (Option.some Jvm.ClassFile.FieldType.boolean)).before args0 about1 = true := code_word (m := ⟨1, 6⟩) (meth := k1m6) (c := k1c6) (by decide +kernel) rfl rfl rfl (by decide +kernel)
set_option maxRecDepth 65536 in
theorem w_c11 : (Jvm.Cond.code ({ cls := "java/lang/String", name := "length", desc := "()I" } : Jvm.MethodName) jdk_42_method_54_code (1 : Nat) (Option.some Jvm.ClassFile.FieldType.int)).before args0 about1 = true := code_word (m := ⟨7, 2⟩) (meth := k7m2) (c := k7c2) (by decide +kernel) rfl rfl rfl (by decide +kernel)
set_option maxRecDepth 65536 in
theorem w_c12 : (Jvm.Cond.code ({ cls := "java/lang/String", name := "coder", desc := "()B" } : Jvm.MethodName) jdk_42_method_152_code (1 : Nat) (Option.some Jvm.ClassFile.FieldType.byte)).before args0 about1 = true := code_word (m := ⟨7, 5⟩) (meth := k7m5) (c := k7c5) (by decide +kernel) rfl rfl rfl (by decide +kernel)
set_option maxRecDepth 65536 in
theorem w_c13 : (Jvm.Cond.code ({ cls := "java/lang/String", name := "regionMatches", desc := "(ZILjava/lang/String;II)Z" } : Jvm.MethodName) jdk_42_method_74_code (9 : Nat) (Option.some Jvm.ClassFile.FieldType.boolean)).before args0 about1 = true := code_word (m := ⟨7, 3⟩) (meth := k7m3) (c := k7c3) (by decide +kernel) rfl rfl rfl (by decide +kernel)
set_option maxRecDepth 65536 in
theorem w_c14 : (Jvm.Cond.code ({ cls := "java/lang/StringLatin1", name := "regionMatchesCI", desc := "([BI[BII)Z" } : Jvm.MethodName) jdk_43_method_30_code (8 : Nat) (Option.some Jvm.ClassFile.FieldType.boolean)).before args0 about1 = true := code_word (m := ⟨10, 1⟩) (meth := k10m1) (c := k10c1) (by decide +kernel) rfl rfl rfl (by decide +kernel)
set_option maxRecDepth 65536 in
theorem w_c15 : (Jvm.Cond.code ({ cls := "com/example/harnessd/harnessd/model/SearchContainsPinLaw", name := "eq", desc := "(CC)Z" } : Jvm.MethodName) method_6_code (2 : Nat) (Option.some Jvm.ClassFile.FieldType.boolean)).before args0 about1 = true := code_word (m := ⟨1, 5⟩) (meth := k1m5) (c := k1c5) (by decide +kernel) rfl rfl rfl (by decide +kernel)
set_option maxRecDepth 65536 in
theorem w_c16 : (Jvm.Cond.code ({ cls := "com/example/harnessd/harnessd/model/SearchContainsPinLaw", name := "fold", desc := "(C)I" } : Jvm.MethodName) method_5_code (1 : Nat) (Option.some Jvm.ClassFile.FieldType.int)).before args0 about1 = true := code_word (m := ⟨1, 4⟩) (meth := k1m4) (c := k1c4) (by decide +kernel) rfl rfl rfl (by decide +kernel)
set_option maxRecDepth 65536 in
theorem w_c17 : (Jvm.Cond.code ({ cls := "java/lang/CharacterDataLatin1", name := "equalsIgnoreCase", desc := "(BB)Z" } : Jvm.MethodName) jdk_116_method_22_code (3 : Nat) (Option.some Jvm.ClassFile.FieldType.boolean)).before args0 about1 = true := code_word (m := ⟨12, 0⟩) (meth := k12m0) (c := k12c0) (by decide +kernel) rfl rfl rfl (by decide +kernel)
def codes1 : List Jvm.Cond := [Jvm.Cond.code x code maxLocals ret, Jvm.Cond.code ({ cls := "com/example/harnessd/harnessd/model/SearchContainsPinLaw", name := "str3", desc := "(ICCC)Ljava/lang/String;" } : Jvm.MethodName) method_4_code (4 : Nat) (Option.some (Jvm.ClassFile.FieldType.object "java/lang/String")), Jvm.Cond.code ({ cls := "java/lang/String", name := "<init>", desc := "([C)V" } : Jvm.MethodName) jdk_42_method_3_code (2 : Nat) (Option.none : Option Jvm.ClassFile.FieldType), Jvm.Cond.code ({ cls := "java/lang/String", name := "<init>", desc := "([CIILjava/lang/Void;)V" } : Jvm.MethodName) jdk_42_method_149_code (6 : Nat) (Option.none : Option Jvm.ClassFile.FieldType), Jvm.Cond.code ({ cls := "java/lang/Object", name := "<init>", desc := "()V" } : Jvm.MethodName) object_method_1_code (1 : Nat) (Option.none : Option Jvm.ClassFile.FieldType), Jvm.Cond.code ({ cls := "com/example/harnessd/harnessd/model/Search", name := "contains", desc := "(Ljava/lang/String;Ljava/lang/String;)Z" } : Jvm.MethodName) prog_12_method_2_code (3 : Nat) (Option.some Jvm.ClassFile.FieldType.boolean), Jvm.Cond.code ({ cls := "com/example/harnessd/harnessd/model/SearchContainsPinLaw", name := "str4", desc := "(ICCCC)Ljava/lang/String;" } : Jvm.MethodName) method_3_code (5 : Nat) (Option.some (Jvm.ClassFile.FieldType.object "java/lang/String")), Jvm.Cond.code ({ cls := "java/lang/StringUTF16", name := "compress", desc := "([CII)[B" } : Jvm.MethodName) jdk_52_method_16_code (6 : Nat) (Option.some (Jvm.ClassFile.FieldType.array Jvm.ClassFile.FieldType.byte)), Jvm.Cond.code ({ cls := "java/lang/StringUTF16", name := "compress", desc := "([CI[BII)I" } : Jvm.MethodName) jdk_52_method_21_code (7 : Nat) (Option.some Jvm.ClassFile.FieldType.int), Jvm.Cond.code ({ cls := "java/lang/StringUTF16", name := "coderFromArrayLen", desc := "([BI)B" } : Jvm.MethodName) jdk_52_method_15_code (2 : Nat) (Option.some Jvm.ClassFile.FieldType.byte), Jvm.Cond.code ({ cls := "com/example/harnessd/harnessd/model/SearchContainsPinLaw", name := "at", desc := "([CI[CII)Z" } : Jvm.MethodName) method_7_code (5 : Nat) (Option.some Jvm.ClassFile.FieldType.boolean), Jvm.Cond.code ({ cls := "java/lang/String", name := "length", desc := "()I" } : Jvm.MethodName) jdk_42_method_54_code (1 : Nat) (Option.some Jvm.ClassFile.FieldType.int), Jvm.Cond.code ({ cls := "java/lang/String", name := "coder", desc := "()B" } : Jvm.MethodName) jdk_42_method_152_code (1 : Nat) (Option.some Jvm.ClassFile.FieldType.byte), Jvm.Cond.code ({ cls := "java/lang/String", name := "regionMatches", desc := "(ZILjava/lang/String;II)Z" } : Jvm.MethodName) jdk_42_method_74_code (9 : Nat) (Option.some Jvm.ClassFile.FieldType.boolean), Jvm.Cond.code ({ cls := "java/lang/StringLatin1", name := "regionMatchesCI", desc := "([BI[BII)Z" } : Jvm.MethodName) jdk_43_method_30_code (8 : Nat) (Option.some Jvm.ClassFile.FieldType.boolean), Jvm.Cond.code ({ cls := "com/example/harnessd/harnessd/model/SearchContainsPinLaw", name := "eq", desc := "(CC)Z" } : Jvm.MethodName) method_6_code (2 : Nat) (Option.some Jvm.ClassFile.FieldType.boolean), Jvm.Cond.code ({ cls := "com/example/harnessd/harnessd/model/SearchContainsPinLaw", name := "fold", desc := "(C)I" } : Jvm.MethodName) method_5_code (1 : Nat) (Option.some Jvm.ClassFile.FieldType.int), Jvm.Cond.code ({ cls := "java/lang/CharacterDataLatin1", name := "equalsIgnoreCase", desc := "(BB)Z" } : Jvm.MethodName) jdk_116_method_22_code (3 : Nat) (Option.some Jvm.ClassFile.FieldType.boolean)]
set_option maxRecDepth 65536 in
theorem codes_eq : words1.filter isCode = codes1 := rfl
theorem w_codes : ∀ c ∈ words1.filter isCode, c.before args0 about1 = true := by
  rw [codes_eq]
  intro c hc
  simp only [codes1, List.mem_cons, List.not_mem_nil, or_false] at hc
  rcases hc with rfl | rfl | rfl | rfl | rfl | rfl | rfl | rfl | rfl | rfl | rfl | rfl | rfl | rfl | rfl | rfl | rfl | rfl
  · exact w_c0
  · exact w_c1
  · exact w_c2
  · exact w_c3
  · exact w_c4
  · exact w_c5
  · exact w_c6
  · exact w_c7
  · exact w_c8
  · exact w_c9
  · exact w_c10
  · exact w_c11
  · exact w_c12
  · exact w_c13
  · exact w_c14
  · exact w_c15
  · exact w_c16
  · exact w_c17
set_option maxRecDepth 65536 in
theorem w_t1 : (words1.take 24).all (fun c => isCode c || c.before args0 about1) = true := by decide +kernel
set_option maxRecDepth 65536 in
theorem w_t2 : ((words1.drop 24).take 24).all (fun c => isCode c || c.before args0 about1) = true := by decide +kernel
set_option maxRecDepth 65536 in
theorem w_t3 : (((words1.drop 24).drop 24).take 24).all (fun c => isCode c || c.before args0 about1) = true := by decide +kernel
set_option maxRecDepth 65536 in
theorem w_t4 : (((words1.drop 24).drop 24).drop 24).all (fun c => isCode c || c.before args0 about1) = true := by decide +kernel
theorem w_tables : (allAtoms (Jvm.Cond.code x code maxLocals ret :: tables_1)).before args0 about1 = true := by
  rw [allAtoms_all]
  show words1.all (fun c => c.before args0 about1) = true
  refine all_split ?_ w_codes
  rw [← List.take_append_drop 24 words1, List.all_append, w_t1, ← List.take_append_drop 24 (words1.drop 24), List.all_append, w_t2, ← List.take_append_drop 24 ((words1.drop 24).drop 24), List.all_append, w_t3, w_t4]
  rfl
set_option maxRecDepth 65536 in
theorem w_rest : rest_1_c.before args0 about1 = true := by decide +kernel
set_option maxRecDepth 65536 in
theorem w_case : (Jvm.Cond.and given_1 narrow_1).before args0 about1 = true := by decide +kernel
set_option maxRecDepth 65536 in
theorem w_consts : constsHeld consts_1 about1 := Jvm.Lit.constsHeldB_iff.mp (by decide +kernel)
theorem w_applies : (headSpec (Jvm.Cond.code x code maxLocals ret :: tables_1) room_1).applies x e0.platform about1 = true :=
  (Spec.applies_iff w_frames).mpr ⟨w_running, w_runnable, w_alone, w_named, w_hears, w_ripe, w_room, w_tables⟩
theorem atStart : AtStart classFile x code maxLocals ret World_1 tables_1 room_1 Calls_1 rest_1 Pre_1 launch0 p0 e0 about1 theMethod args0 below0 :=
  ⟨lists_1, trivial, launch0.admits_env _ _ _, launch0.least_env, fairChoices_fair.cas, fairChoices_fair.clock, w_frames, w_args, w_heap, w_applies, ⟨w_consts, trivial⟩, w_rest, w_case⟩
end start1
theorem witness_1 : WitnessClaimed_1 := ⟨start1.p0, start1.e0, start1.about1, start1.theMethod, start1.args0, start1.below0, start1.atStart⟩
end Jvm.Pilot.@@N@@
