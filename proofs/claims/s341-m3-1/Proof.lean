import JvmDerived
import JvmDerived.Pilot.@@N@@Statement
import JvmDerived.Pilot.@@N@@Code
set_option linter.unusedVariables false
set_option linter.unusedSimpArgs false
namespace Jvm.Pilot.@@N@@
open Jvm Jvm.ClassFile Sem Op Lib Jvm.Free Jvm.Stand Jvm.LawKit Jvm.RoadKit Bundle Jvm.Pilot.@@N@@.Jvm.D
section Own
variable {p : Program} {l : Launch} {e : Env} {R : Room} {s : State} {m : MethodId} {args : Array Value} {below : List Frame} {meth : Method} {c : Code} {T T' : State} {cells slots cells' slots' : Nat} {Z : State} {a0 : Array Value} {h h' : Heap} {own : String} {ws ws' : List Addr} {V : Vm → Prop}
  {EN : State → Outcome → State → List Loc → Nat → Nat → Prop} {K N : Nat} {Q : Option Value → Vm → Heap → Prop} {g g' : JFrame}
/-- sizes as numbers -/
theorem natlt {a : Addr} {n : Nat} (h : a < n) : n > a := h
theorem adne {a b : Addr} (h : @LT.lt Nat _ a b ∨ @LT.lt Nat _ b a) : a ≠ b := fun q => by
  subst q; exact h.elim (Nat.lt_irrefl _) (Nat.lt_irrefl _)
/-- what is written lies in the cells ws or in cells made since -/
def Fx (ws : List Addr) (n : Nat) (L : List Loc) : Prop := ∀ y ∈ L, y.base ∈ ws ∨ n ≤ y.base
theorem keep_of {s' : State} {L : List Loc} (q : s.sameButNew s' L K N) (F : Fx ws s.heap.size L) : Keep s.heap s'.heap ws := by
  refine ⟨q.2.1, fun x c hc hx => ?_, fun x c hc => ?_⟩
  · obtain ⟨c', h1, h2, -, h4⟩ := q.2.2.2.2.2 x c hc
    have hb := (Array.getElem?_eq_some_iff.mp hc).1
    have hsl : c'.slots = c.slots := Array.ext_getElem? fun i => h4 i fun hm => (F _ hm).elim (fun r => hx r) (fun r => absurd r (Nat.not_le.mpr hb))
    have hcc : c' = c := by rw [h2, hsl]
    rw [← hcc]; exact h1
  · obtain ⟨c', h1, h2, h3, -⟩ := q.2.2.2.2.2 x c hc
    exact ⟨c', h1, by rw [h2], by rw [h2], h3⟩
/-- where a walk stands -/
def Hs (p : Program) (l : Launch) (e : Env) (R : Room) (s : State) (m : MethodId) (args : Array Value) (below : List Frame) (meth : Method) (c : Code) (Z : State) (own : String) (ws : List Addr) (V : Vm → Prop) (T : State) (h : Heap) (cells slots : Nat) : Prop :=
  ∃ (vm0 : Vm) (k0 : Nat) (locs : List Loc), p.tables.exec = Jvm.exec ∧ Stand p l e R (s.setVm vm0) m args below meth c T locs cells slots ∧ s.Since vm0 k0 ∧ k0 ≤ h.size ∧ Z.Warmed39 vm0 ∧ vm0.findClass own = some m.cls ∧ T.heap = h ∧ Fx ws s.heap.size locs ∧ V vm0 ∧ Ext Z.heap s.heap ∧ ∀ w ∈ ws, Z.heap.size ≤ w
theorem Hs.here (H : Hs p l e R s m args below meth c Z own ws V T h cells slots) : At T m c below := by
  obtain ⟨_, _, _, _, X, _⟩ := H; exact X.here
theorem Hs.ex (H : Hs p l e R s m args below meth c Z own ws V T h cells slots) : p.tables.exec = Jvm.exec := by
  obtain ⟨_, _, _, hx, _⟩ := H; exact hx
theorem Hs.keep (H : Hs p l e R s m args below meth c Z own ws V T h cells slots) : Keep s.heap h ws := by
  obtain ⟨vm0, k0, locs, hx, X, hS, hk, hZ, ho, rfl, F, -⟩ := H
  exact keep_of (s := s.setVm vm0) (s' := T.setVm (s.setVm vm0).vm) X.same F
theorem Hs.ge (H : Hs p l e R s m args below meth c Z own ws V T h cells slots) : s.heap.size ≤ h.size := H.keep.1
theorem Hs.old (H : Hs p l e R s m args below meth c Z own ws V T h cells slots) : Ext Z.heap h := by
  have K := H.keep
  obtain ⟨vm0, k0, locs, hx, X, hS, hk, hZ, ho, eT, F, hV, O, hw⟩ := H
  refine ⟨Nat.le_trans O.1 K.1, fun a cl q => K.2.1 a cl (O.2 a cl q) fun r => ?_⟩
  exact absurd (Array.getElem?_eq_some_iff.mp q).1 (Nat.not_lt.mpr (hw a r))
theorem Hs.more (H : Hs p l e R s m args below meth c Z own ws V T h cells slots) (hc : cells ≤ cells') (hn : slots ≤ slots') : Hs p l e R s m args below meth c Z own ws V T h cells' slots' := by
  obtain ⟨vm0, k0, locs, hx, X, r⟩ := H
  exact ⟨vm0, k0, locs, hx, X.mono hc hn, r⟩
theorem Hs.weak (H : Hs p l e R s m args below meth c Z own ws V T h cells slots) (q : ∀ w ∈ ws, w ∈ ws') (r : ∀ w ∈ ws', Z.heap.size ≤ w) : Hs p l e R s m args below meth c Z own ws' V T h cells slots := by
  obtain ⟨vm0, k0, locs, hx, X, hS, hk, hZ, ho, eT, F, hV, O, hw⟩ := H
  exact ⟨vm0, k0, locs, hx, X, hS, hk, hZ, ho, eT, fun y hy => (F y hy).imp (q _) id, hV, O, r⟩
theorem Hs.reV {V' : Vm → Prop} (H : Hs p l e R s m args below meth c Z own ws V T h cells slots) (q : ∀ vm, V vm → V' vm) : Hs p l e R s m args below meth c Z own ws V' T h cells slots := by
  obtain ⟨vm0, k0, locs, hx, X, hS, hk, hZ, ho, eT, F, hV, r⟩ := H
  exact ⟨vm0, k0, locs, hx, X, hS, hk, hZ, ho, eT, F, q _ hV, r⟩
/-- a predicate on the tables that a resolution leaves -/
def Stab (V : Vm → Prop) : Prop := ∀ (s : State) (vm1 : Vm), s.WarmedH vm1 → V s.vm → V vm1
theorem Hs.vm (H : Hs p l e R s m args below meth c Z own ws V T h cells slots) (q : Stab V) : V T.vm := by
  obtain ⟨vm0, k0, locs, hx, X, hS, hk, hZ, ho, eT, F, hV, O, hw⟩ := H
  exact q _ _ X.warmed hV
/-- it runs to its end, and Q holds there -/
def Rn (p : Program) (e : Env) (below : List Frame) (s : State) (EN : State → Outcome → State → List Loc → Nat → Nat → Prop) (ws : List Addr) (K N : Nat) (Q : Option Value → Vm → Heap → Prop) (T : State) (g : JFrame) : Prop :=
  ∃ s₂ o, Steps p.tables e below (T.setTop g) s₂ ∧ s₂.status = .running ∧ Ended s₂ below o ∧ ∃ v L, o = .returned v ∧ (Q v s₂.vm s₂.heap ∧ Fx ws s.heap.size L ∧ Keep s.heap s₂.heap ws) ∧ EN s o s₂ L K N
theorem Rn.pu (r : Rn p e below s EN ws K N Q T' g') (st : ∀ t, Steps p.tables e below (T'.setTop g') t → Steps p.tables e below (T.setTop g) t) : Rn p e below s EN ws K N Q T g := by
  obtain ⟨s₂, o, h1, h2⟩ := r; exact ⟨s₂, o, st _ h1, h2⟩
/-- how a walk may end -/
def Ends (EN : State → Outcome → State → List Loc → Nat → Nat → Prop) (s : State) (V : Vm → Prop) : Prop :=
  ∀ (vm0 : Vm) (k0 : Nat) (t : State) (v : Option Value) (L : List Loc) (K N : Nat), V vm0 → s.Since vm0 k0 → k0 ≤ t.heap.size → (s.setVm vm0).WarmedH t.vm → (s.setVm vm0).sameButNew ({ t with vm := (s.setVm vm0).vm } : State) L K N → EN s (.returned v) t L K N
theorem ends_N : Ends FrameEnd s (fun v => v = s.vm) := by
  intro vm0 k0 t v L K N hv hS hk hW hs
  subst hv
  exact ⟨⟨v, rfl⟩, hW, hs⟩
theorem ends_W : Ends ReturnedEndW s V := by
  intro vm0 k0 t v L K N hv hS hk hW hs
  obtain ⟨a, b, c'⟩ := hS.ended (U := t) hW hk hs
  exact ⟨⟨v, rfl⟩, a, b, c'⟩
theorem Hs.fin (H : Hs p l e R s m args below meth c Z own ws V T h cells slots) (hE : Ends EN s V) (hlk : meth.locks = false) {v : Option Value} (hv : meth.sig.returnType = none → v = none) (hc : cells ≤ K) (hn : slots ≤ N) (hws : ∀ w ∈ ws, w ∈ ws') (hQ : Q v T.vm h)
    (st : ∀ fs, (∀ (f : JFrame) (acts : List Action), f.method = m → f.locked = none → f.entered = [] → (doReturn e (T.setTop f) acts v).1 = T.setFrames fs) → Steps p.tables e below (T.setTop g) (T.setFrames fs)) : Rn p e below s EN ws' K N Q T g := by
  have KK := H.keep
  obtain ⟨vm0, k0, locs, hx, X, hS, hk, hZ, ho, rfl, F, hV, O, hw⟩ := H
  obtain ⟨fs, hr, hrun, hended, hW, hsame⟩ := X.leave (v := v) hv hlk
  refine ⟨_, _, st fs hr, hrun, hended, v, locs, rfl, ⟨hQ, fun y hy => (F y hy).imp (hws _) id, ⟨KK.1, fun x cl q r => KK.2.1 x cl q fun z => r (hws _ z), KK.2.2⟩⟩, hE vm0 k0 _ v locs K N hV hS hk hW (hsame.mono hc hn)⟩
theorem retI {pc : Nat} {Ls : Array Slot} {z : Int32} {rest : List Value} {locs : List Loc} (X : Stand p l e R s m args below meth c T locs cells slots) (hx : p.tables.exec = Jvm.exec) (hret : meth.sig.returnType = some .int) (hd : decode c.code pc = .ok (.ireturn, 1)) {fs : List Frame}
    (hl : ∀ (f : JFrame) (acts : List Action), f.method = m → f.locked = none → f.entered = [] → (doReturn e (T.setTop f) acts (some (.int z))).1 = T.setFrames fs) : Steps p.tables e below (T.setTop (mkF m pc Ls (.int z :: rest))) (T.setFrames fs) := by
  have hm' : T.vm.method? m = some meth := X.method'
  have hn : narrow .int (.int z) = .int z := rfl
  show Steps p.tables e below (T.setTop { method := m, pc := pc, locals := Ls, stack := _ :: rest, locked := none }) _
  jvm_step X.here [X.here.top, hx, hd, hm', hret, hn]
  first | (intro acts; rw [hl _ acts rfl rfl rfl]) | rw [hl _ _ rfl rfl rfl]
  exact Steps.refl _
theorem Hs.retI (H : Hs p l e R s m args below meth c Z own ws V T h cells slots) (hE : Ends EN s V) (hlk : meth.locks = false) (hret : meth.sig.returnType = some .int) {pc : Nat} {Ls : Array Slot} {z : Int32} {rest : List Value} (hd : decode c.code pc = .ok (.ireturn, 1)) (hc : cells ≤ K) (hn : slots ≤ N) (hws : ∀ w ∈ ws, w ∈ ws') (hQ : Q (some (.int z)) T.vm h) :
    Rn p e below s EN ws' K N Q T (mkF m pc Ls (.int z :: rest)) := by
  refine H.fin hE hlk (v := some (.int z)) (fun q => by rw [hret] at q; cases q) hc hn hws hQ fun fs hr => ?_
  obtain ⟨vm0, k0, locs, hx, X, -⟩ := H
  exact Jvm.Pilot.@@N@@.retI X hx hret hd hr
theorem Hs.retS (H : Hs p l e R s m args below meth c Z own ws V T h cells slots) (hE : Ends EN s V) (hlk : meth.locks = false) {t : FieldType} (hret : meth.sig.returnType = some t) (ht : t = .boolean ∨ t = .byte ∨ t = .char ∨ t = .short) {pc : Nat} {Ls : Array Slot} {z : Int32} {rest : List Value} (hd : decode c.code pc = .ok (.ireturn, 1)) (hc : cells ≤ K) (hn : slots ≤ N) (hws : ∀ w ∈ ws, w ∈ ws') (hQ : Q (some (.int (nar t z))) T.vm h) :
    Rn p e below s EN ws' K N Q T (mkF m pc Ls (.int z :: rest)) := by
  refine H.fin hE hlk (v := some (.int (nar t z))) (fun q => by rw [hret] at q; cases q) hc hn hws hQ fun fs hr => ?_
  obtain ⟨vm0, k0, locs, hx, X, -⟩ := H
  exact RoadKit.retN X hx hret ht hd hr
theorem Hs.retA (H : Hs p l e R s m args below meth c Z own ws V T h cells slots) (hE : Ends EN s V) (hlk : meth.locks = false) {t : FieldType} (hret : meth.sig.returnType = some t) {w : Value} (hnw : narrow t w = w) (hr1 : t.isReference = true) (hr2 : w.isRef = true) {pc : Nat} {Ls : Array Slot} {rest : List Value} (hd : decode c.code pc = .ok (.areturn, 1)) (hc : cells ≤ K) (hn : slots ≤ N) (hws : ∀ w ∈ ws, w ∈ ws') (hQ : Q (some w) T.vm h) :
    Rn p e below s EN ws' K N Q T (mkF m pc Ls (w :: rest)) := by
  refine H.fin hE hlk (v := some w) (fun q => by rw [hret] at q; cases q) hc hn hws hQ fun fs hr => ?_
  obtain ⟨vm0, k0, locs, hx, X, -⟩ := H
  exact retOut X hx hret hnw (Or.inr (Or.inr (Or.inr (Or.inr ⟨rfl, hr1, hr2⟩)))) hd hr
theorem Hs.retV (H : Hs p l e R s m args below meth c Z own ws V T h cells slots) (hE : Ends EN s V) (hlk : meth.locks = false) (hret : meth.sig.returnType = none) {pc : Nat} {Ls : Array Slot} (hd : decode c.code pc = .ok (.return_, 1)) (hc : cells ≤ K) (hn : slots ≤ N) (hws : ∀ w ∈ ws, w ∈ ws') (hQ : Q none T.vm h) :
    Rn p e below s EN ws' K N Q T (mkF m pc Ls []) := by
  refine H.fin hE hlk (v := none) (fun _ => rfl) hc hn hws hQ fun fs hr => ?_
  obtain ⟨vm0, k0, locs, hx, X, -⟩ := H
  exact X.returnOut hx hret hd hr
/-! contracts -/
def MetN (l : Launch) (Z : State) (y : MethodName) (bytes : ByteArray) (maxL : Nat) (ret : Option FieldType) (wl : List Jvm.Cond) (rm : Room) (as' : Array Value) (h : Heap) (ws : List Addr) (Q : Option Value → Heap → Prop) : Prop :=
  MetFree l y (head1 (Jvm.Cond.code y bytes maxL ret :: wl) rm) (fun a U => a = as' ∧ Z.Warmed39 U.vm ∧ U.heap = h) (fun _ _ _ _ _ => True)
    (fun _ U o U' => ∃ v L, o = .returned v ∧ (Q v U'.heap ∧ Fx ws h.size L ∧ Keep h U'.heap ws) ∧ FrameEnd U o U' L rm.cells rm.slots)
def MetW (l : Launch) (Z : State) (y : MethodName) (bytes : ByteArray) (maxL : Nat) (ret : Option FieldType) (wl : List Jvm.Cond) (rm : Room) (as' : Array Value) (h : Heap) (ws : List Addr) (J : Vm → Prop) (Q : Option Value → Vm → Heap → Prop) : Prop :=
  MetFree l y (head1 (Jvm.Cond.code y bytes maxL ret :: wl) rm) (fun a U => a = as' ∧ Z.Warmed39 U.vm ∧ U.heap = h ∧ J U.vm) (fun _ _ _ _ _ => True)
    (fun _ U o U' => ∃ v L, o = .returned v ∧ (Q v U'.vm U'.heap ∧ Fx ws h.size L ∧ Keep h U'.heap ws) ∧ ReturnedEndW U o U' L rm.cells rm.slots)
variable {y : MethodName} {bytes : ByteArray} {maxL : Nat} {ret' : Option FieldType} {wl : List Jvm.Cond} {rm : Room} {as' : Array Value} {QN : Option Value → Heap → Prop} {J : Vm → Prop}
theorem MetN.mk (hx : plainFor y = true) {Ls : Array Slot} (hef : ∀ m, entryFrame m as' maxL = mkF m 0 Ls []) (O : Ext Z.heap h) 
    (body : ∀ (p : Program) (e : Env) (s : State) (m : MethodId) (below : List Frame) (meth : Method) (c : Code) (T : State), p.tables.exec = Jvm.exec → c.code = bytes → c.maxLocals = maxL → meth.sig.returnType = ret' → meth.locks = false → meth.name = y.name → s.heap = h →
      Hs p l e rm s m as' below meth c Z y.cls [] (fun v => v = s.vm) T h 0 0 → Rn p e below s FrameEnd ws rm.cells rm.slots (fun v _ h' => QN v h') T (mkF m 0 Ls [])) :
    MetN l Z y bytes maxL ret' wl rm as' h ws QN := by
  refine MetFree.of_bodySF hx hisR ?_
  intro p e s m args below meth c s₁ Bd hml0 hP hK
  obtain ⟨rfl, hZ, hh⟩ := hP
  have X0 : Stand p l e rm s m args below meth c s₁ [] 0 0 := Stand.of_body Bd
  have e0 : s₁.heap = h := by rw [← hh, Bd.state]; rfl
  obtain ⟨s₂, o, h1, h2, h3, v, L, h4, ⟨h5, h6, h7⟩, h8⟩ := body p e s m below meth c s₁ Bd.exec Bd.bytes hml0 Bd.returns Bd.notSynchronized (name_of_methodNamed Bd.named Bd.method).1 hh
    ⟨s.vm, 0, [], Bd.exec, X0, (State.WarmedH.refl s).since _, Nat.zero_le _, hZ, findClass_of_methodNamed Bd.named, e0, (fun y hy => nomatch hy), rfl, (by rw [hh]; exact O), (fun y hy => nomatch hy)⟩
  subst hh
  exact ⟨s₂, o, castTop (hef m) h1, h2, h3, v, L, h4, ⟨h5, h6, h7⟩, h8⟩
theorem MetW.mk (hx : plainFor y = true) {Ls : Array Slot} (hef : ∀ m, entryFrame m as' maxL = mkF m 0 Ls []) (O : Ext Z.heap h) 
    (body : ∀ (p : Program) (e : Env) (s : State) (m : MethodId) (below : List Frame) (meth : Method) (c : Code) (T : State), p.tables.exec = Jvm.exec → c.code = bytes → c.maxLocals = maxL → meth.sig.returnType = ret' → meth.locks = false → meth.name = y.name → s.heap = h →
      Hs p l e rm s m as' below meth c Z y.cls [] J T h 0 0 → Rn p e below s ReturnedEndW ws rm.cells rm.slots Q T (mkF m 0 Ls [])) :
    MetW l Z y bytes maxL ret' wl rm as' h ws J Q := by
  refine MetFree.of_bodySF hx hisR ?_
  intro p e s m args below meth c s₁ Bd hml0 hP hK
  obtain ⟨rfl, hZ, hh, hJ⟩ := hP
  have X0 : Stand p l e rm s m args below meth c s₁ [] 0 0 := Stand.of_body Bd
  have e0 : s₁.heap = h := by rw [← hh, Bd.state]; rfl
  obtain ⟨s₂, o, h1, h2, h3, v, L, h4, ⟨h5, h6, h7⟩, h8⟩ := body p e s m below meth c s₁ Bd.exec Bd.bytes hml0 Bd.returns Bd.notSynchronized (name_of_methodNamed Bd.named Bd.method).1 hh
    ⟨s.vm, 0, [], Bd.exec, X0, (State.WarmedH.refl s).since _, Nat.zero_le _, hZ, findClass_of_methodNamed Bd.named, e0, (fun y hy => nomatch hy), hJ, (by rw [hh]; exact O), (fun y hy => nomatch hy)⟩
  subst hh
  exact ⟨s₂, o, castTop (hef m) h1, h2, h3, v, L, h4, ⟨h5, h6, h7⟩, h8⟩
/-- who pays a call -/
def PayN (l : Launch) (R : Room) (p : Program) (e : Env) (below : List Frame) (args : Array Value) (Z : State) (y : MethodName) (W : Nat) (as' : Array Value) (h : Heap) (kc ks : Nat) (ws : List Addr) (Q : Option Value → Heap → Prop) : Prop :=
  ∀ s : State, Z.Warmed39 s.vm → Back l R p e below s args y 3 W (fun A a => a = as' ∧ A.U.heap = h ∧ A.cells + kc ≤ R.cells ∧ A.slots + ks ≤ R.slots)
    (fun A _ v B => ∃ L, (Q v B.U.heap ∧ Fx ws h.size L ∧ Keep h B.U.heap ws) ∧ B.locs = A.locs ++ L ∧ B.cells = A.cells + kc ∧ B.slots = A.slots + ks)
def PayW (l : Launch) (R : Room) (p : Program) (e : Env) (below : List Frame) (args : Array Value) (Z : State) (y : MethodName) (W : Nat) (as' : Array Value) (h : Heap) (kc ks : Nat) (ws : List Addr) (J : Vm → Prop) (Q : Option Value → Vm → Heap → Prop) : Prop :=
  ∀ s : State, Z.Warmed39 s.vm → BackS l R p e below s args y 3 W (fun A a => a = as' ∧ A.U.heap = h ∧ A.cells + kc ≤ R.cells ∧ A.slots + ks ≤ R.slots ∧ J A.U.vm)
    (fun A _ v B => ∃ L, (Q v B.U.vm B.U.heap ∧ Fx ws h.size L ∧ Keep h B.U.heap ws) ∧ B.locs = A.locs ++ L ∧ B.cells = A.cells + kc ∧ B.slots = A.slots + ks)
theorem MetN.pay {W : Nat} (M : MetN l Z y bytes maxL ret' [] rm as' h ws QN) (wc : (Jvm.Cond.code y bytes maxL ret').before a0 Z = true) (wz : (Jvm.Cond.initialized y.cls).before a0 Z = true) (hf : rm.frames + 1 ≤ R.frames) (hl : W + (maxL + 11) + rm.locals ≤ R.locals) :
    PayN l R p e below args Z y W as' h rm.cells rm.slots ws QN := fun s hZ => backOf (Q := fun v h' L => QN v h' ∧ Fx ws h.size L ∧ Keep h h' ws) M hZ wc wz hf hl
theorem MetW.pay {W : Nat} (M : MetW l Z y bytes maxL ret' [] rm as' h ws J Q) (wc : (Jvm.Cond.code y bytes maxL ret').before a0 Z = true) (wz : (Jvm.Cond.initialized y.cls).before a0 Z = true) (hf : rm.frames + 1 ≤ R.frames) (hl : W + (maxL + 11) + rm.locals ≤ R.locals) :
    PayW l R p e below args Z y W as' h rm.cells rm.slots ws J Q := fun s hZ =>
  BackS.of_freeW (bytes := bytes) (maxL := maxL) (ret := ret') (E := fun _ _ o t L k n => k = rm.cells ∧ n = rm.slots ∧ ∃ v, o = .returned v ∧ (Q v t.vm t.heap ∧ Fx ws h.size L ∧ Keep h t.heap ws)) M hf hl
    (fun m meth c A a Y hp => have hU : Z.Warmed39 A.U.vm := wtrans hZ Y.warmed
      ⟨by show (Jvm.Cond.and _ .tt).before a A.U = true; rw [Cond.before_and, mv hU wc]; rfl, mv hU wc, mv hU wz, hp.2.2.1, hp.2.2.2.1⟩)
    (fun m meth c A a g mk Y hp => ⟨hp.1, wtrans hZ Y.warmed, hp.2.1, hp.2.2.2.2⟩) (fun _ _ _ _ _ _ _ _ _ => trivial)
    (fun _ _ _ _ ⟨v, L, h1, h2, h3⟩ => ⟨L, _, _, h3, rfl, rfl, v, h1, h2⟩)
    (fun m meth c A a g mk v t L k n Y hp _ _ ⟨e1, e2, v', e3, e4⟩ => by cases e3; subst e1 e2; exact ⟨L, e4, rfl, rfl, rfl⟩)
theorem fx_app {L L' : List Loc} {n n' : Nat} (F : Fx ws n L) (F' : Fx ws' n' L') (q : ∀ w ∈ ws', w ∈ ws ∨ n ≤ w) (r : n ≤ n') : Fx ws n (L ++ L') := fun y hy =>
  (List.mem_append.mp hy).elim (F y) fun z => (F' y z).elim (q _) fun u => Or.inr (Nat.le_trans r u)
/-- invokestatic, by its contract -/
theorem Hs.callS (H : Hs p l e R s m args below meth c Z own ws V T h cells slots) {index : Nat} (w1 : (Jvm.Cond.methodLink own index y).before a0 Z = true) (w2 : (Jvm.Cond.static y).before a0 Z = true) (w3 : (Jvm.Cond.initialized y.cls).before a0 Z = true) (w4 : (Jvm.Cond.code y bytes maxL ret').before a0 Z = true)
    (hy : y.cls ≠ "java/lang/invoke/MethodHandle" ∧ y.cls ≠ "java/lang/invoke/VarHandle") {W kc ks : Nat} (P : PayN l R p e below args Z y W as' h kc ks ws' QN) (hg : g.method = m) (hsize : g.locals.size = c.maxLocals) {argsL rest : List Value} (hlen : ∀ sig, parseMethodDescriptor y.desc = some sig → argsL.length = sig.parameters.length)
    (hst : g.stack = argsL.reverse ++ rest) (ha : argsL.toArray = as') (hW : 2 * g.monitorRoom + (rest.map fun v => v.category).sum ≤ W) (hd : decode c.code g.pc = .ok (.invokestatic index, 3)) (hc : cells + kc ≤ R.cells) (hl : slots + ks ≤ R.slots) (hws : ∀ w ∈ ws', w ∈ ws ∨ s.heap.size ≤ w) :
    ∃ v T' h', Hs p l e R s m args below meth c Z own ws V T' h' (cells + kc) (slots + ks) ∧ QN v h' ∧ Keep h h' ws' ∧ ∀ t, Steps p.tables e below (T'.setTop { g with pc := g.pc + 3, stack := v.toList ++ rest }) t → Steps p.tables e below (T.setTop g) t := by
  have ge := H.ge
  obtain ⟨vm0, k0, locs, hx, X, hS, hk, hZ, ho, eT, F, hV, O, hw⟩ := H
  obtain ⟨v, vm1, ⟨U, L', c', s'⟩, hW1, X', ⟨L, ⟨q1, q2, q3⟩, rfl, rfl, rfl⟩, st⟩ := Jvm.LawKit.callS X hx ho (mvT (s := s.setVm vm0) hZ w1) (mvT (s := s.setVm vm0) hZ w2) (mvT (s := s.setVm vm0) hZ w3) (mvT (s := s.setVm vm0) hZ w4) hy (P (s.setVm vm0) hZ) hg hsize hlen hst hW hd (fun _ _ => ⟨ha, eT, hc, hl⟩)
  exact ⟨v, U, U.heap, ⟨vm0, k0, _, hx, X', hS, Nat.le_trans hk q3.1, hZ, ho, rfl, fx_app F q2 hws ge, hV, O, hw⟩, q1, q3, st⟩
theorem Hs.callSW (H : Hs p l e R s m args below meth c Z own ws V T h cells slots) {index : Nat} (w1 : (Jvm.Cond.methodLink own index y).before a0 Z = true) (w2 : (Jvm.Cond.static y).before a0 Z = true) (w3 : (Jvm.Cond.initialized y.cls).before a0 Z = true) (w4 : (Jvm.Cond.code y bytes maxL ret').before a0 Z = true)
    (hy : y.cls ≠ "java/lang/invoke/MethodHandle" ∧ y.cls ≠ "java/lang/invoke/VarHandle") {W kc ks : Nat} (P : PayW l R p e below args Z y W as' h kc ks ws' J Q) (hg : g.method = m) (hsize : g.locals.size = c.maxLocals) {argsL rest : List Value} (hlen : ∀ sig, parseMethodDescriptor y.desc = some sig → argsL.length = sig.parameters.length)
    (hst : g.stack = argsL.reverse ++ rest) (ha : argsL.toArray = as') (hW : 2 * g.monitorRoom + (rest.map fun v => v.category).sum ≤ W) (hd : decode c.code g.pc = .ok (.invokestatic index, 3)) (hc : cells + kc ≤ R.cells) (hl : slots + ks ≤ R.slots) (hws : ∀ w ∈ ws', w ∈ ws ∨ s.heap.size ≤ w)
    (hJ : ∀ (U : State) (vm1 : Vm), V U.vm → U.WarmedH vm1 → J vm1) :
    ∃ v T' h', Hs p l e R s m args below meth c Z own ws (fun v => v = T'.vm) T' h' (cells + kc) (slots + ks) ∧ Q v T'.vm h' ∧ Keep h h' ws' ∧ ∀ t, Steps p.tables e below (T'.setTop { g with pc := g.pc + 3, stack := v.toList ++ rest }) t → Steps p.tables e below (T.setTop g) t := by
  have ge := H.ge
  obtain ⟨vm0, k0, locs, hx, X, hS, hk, hZ, ho, eT, F, hV, O, hw⟩ := H
  obtain ⟨v, vm1, ⟨U, L', c', s'⟩, hW1, X', hS', hgr, ⟨L, ⟨q1, q2, q3⟩, rfl, rfl, rfl⟩, st⟩ := callSS X hx ho (mvT (s := s.setVm vm0) hZ w1) (mvT (s := s.setVm vm0) hZ w2) (mvT (s := s.setVm vm0) hZ w3) (mvT (s := s.setVm vm0) hZ w4) hy (P (s.setVm vm0) hZ) hg hsize hlen hst hW hd (fun vm1 hw1 => ⟨ha, eT, hc, hl, hJ _ _ hV hw1⟩)
  obtain ⟨r1, r2, r3, r4⟩ := rebS hS (by rw [← eT] at hk; exact hk) X' hS' hgr hZ ho
  exact ⟨v, U, U.heap, ⟨U.vm, _, _, hx, r1, r2, Nat.le_refl _, r3, r4, rfl, fx_app F q2 hws ge, rfl, O, hw⟩, q1, q3, fun t k => st.trans k⟩
/-- invokevirtual, by its contract -/
theorem Hs.callV (H : Hs p l e R s m args below meth c Z own ws V T h cells slots) {index : Nat} {C : String} (w1 : (Jvm.Cond.methodLink own index y).before a0 Z = true) (w2 : (Jvm.Cond.declares y).before a0 Z = true) (w3 : (Jvm.Cond.selects C y y).before a0 Z = true) (w4 : (Jvm.Cond.instanceMethod y).before a0 Z = true)
    (hy : y.cls ≠ "java/lang/invoke/MethodHandle" ∧ y.cls ≠ "java/lang/invoke/VarHandle") {W kc ks : Nat} (P : PayN l R p e below args Z y W as' h kc ks ws' QN) {b : Addr} (E : Exa Z h b C) (hg : g.method = m) (hsize : g.locals.size = c.maxLocals) {argsL rest : List Value} (hlen : ∀ sig, parseMethodDescriptor y.desc = some sig → argsL.length = sig.parameters.length)
    (hst : g.stack = argsL.reverse ++ .ref b :: rest) (ha : (Value.ref b :: argsL).toArray = as') (hW : 2 * g.monitorRoom + (rest.map fun v => v.category).sum ≤ W) (hd : decode c.code g.pc = .ok (.invokevirtual index, 3)) (hc : cells + kc ≤ R.cells) (hl : slots + ks ≤ R.slots) (hws : ∀ w ∈ ws', w ∈ ws ∨ s.heap.size ≤ w) :
    ∃ v T' h', Hs p l e R s m args below meth c Z own ws V T' h' (cells + kc) (slots + ks) ∧ QN v h' ∧ Keep h h' ws' ∧ ∀ t, Steps p.tables e below (T'.setTop { g with pc := g.pc + 3, stack := v.toList ++ rest }) t → Steps p.tables e below (T.setTop g) t := by
  have ge := H.ge
  obtain ⟨vm0, k0, locs, hx, X, hS, hk, hZ, ho, eT, F, hV, O, hw⟩ := H
  obtain ⟨cB, kB, i1, i2, i3⟩ := isOf (s := s.setVm vm0) hZ eT E
  obtain ⟨v, vm1, ⟨U, L', c', s'⟩, hW1, X', ⟨L, ⟨q1, q2, q3⟩, rfl, rfl, rfl⟩, st⟩ := X.virtualBack hx ho (mvT (s := s.setVm vm0) hZ w1) (mvT (s := s.setVm vm0) hZ w2) (notFace_of_selects (args := #[]) (mvT (s := s.setVm vm0) hZ w3)) (mvT (s := s.setVm vm0) hZ w3) (mvT (s := s.setVm vm0) hZ w4) hy (P (s.setVm vm0) hZ) i1 i3 hg hsize (Steps.refl _) hlen hst hW hd (fun _ _ => ⟨ha, eT, hc, hl⟩)
  exact ⟨v, U, U.heap, ⟨vm0, k0, _, hx, X', hS, Nat.le_trans hk q3.1, hZ, ho, rfl, fx_app F q2 hws ge, hV, O, hw⟩, q1, q3, fun t k => st.trans k⟩
theorem Hs.callVW (H : Hs p l e R s m args below meth c Z own ws V T h cells slots) {index : Nat} {C : String} (w1 : (Jvm.Cond.methodLink own index y).before a0 Z = true) (w2 : (Jvm.Cond.declares y).before a0 Z = true) (w3 : (Jvm.Cond.selects C y y).before a0 Z = true) (w4 : (Jvm.Cond.instanceMethod y).before a0 Z = true)
    (hy : y.cls ≠ "java/lang/invoke/MethodHandle" ∧ y.cls ≠ "java/lang/invoke/VarHandle") {W kc ks : Nat} (P : PayW l R p e below args Z y W as' h kc ks ws' J Q) {b : Addr} (E : Exa Z h b C) (hg : g.method = m) (hsize : g.locals.size = c.maxLocals) {argsL rest : List Value} (hlen : ∀ sig, parseMethodDescriptor y.desc = some sig → argsL.length = sig.parameters.length)
    (hst : g.stack = argsL.reverse ++ .ref b :: rest) (ha : (Value.ref b :: argsL).toArray = as') (hW : 2 * g.monitorRoom + (rest.map fun v => v.category).sum ≤ W) (hd : decode c.code g.pc = .ok (.invokevirtual index, 3)) (hc : cells + kc ≤ R.cells) (hl : slots + ks ≤ R.slots) (hws : ∀ w ∈ ws', w ∈ ws ∨ s.heap.size ≤ w)
    (hJ : ∀ (U : State) (vm1 : Vm), V U.vm → U.WarmedH vm1 → J vm1) :
    ∃ v T' h', Hs p l e R s m args below meth c Z own ws (fun v => v = T'.vm) T' h' (cells + kc) (slots + ks) ∧ Q v T'.vm h' ∧ Keep h h' ws' ∧ ∀ t, Steps p.tables e below (T'.setTop { g with pc := g.pc + 3, stack := v.toList ++ rest }) t → Steps p.tables e below (T.setTop g) t := by
  have ge := H.ge
  obtain ⟨vm0, k0, locs, hx, X, hS, hk, hZ, ho, eT, F, hV, O, hw⟩ := H
  obtain ⟨cB, kB, i1, i2, i3⟩ := isOf (s := s.setVm vm0) hZ eT E
  obtain ⟨v, vm1, ⟨U, L', c', s'⟩, hW1, X', hS', hgr, ⟨L, ⟨q1, q2, q3⟩, rfl, rfl, rfl⟩, st⟩ := X.virtualBackS hx ho (mvT (s := s.setVm vm0) hZ w1) (mvT (s := s.setVm vm0) hZ w2) (notFace_of_selects (args := #[]) (mvT (s := s.setVm vm0) hZ w3)) (mvT (s := s.setVm vm0) hZ w3) (mvT (s := s.setVm vm0) hZ w4) hy (P (s.setVm vm0) hZ) i1 i3 hg hsize (Steps.refl _) hlen hst hW hd (fun vm1 hw1 => ⟨ha, eT, hc, hl, hJ _ _ hV hw1⟩)
  obtain ⟨r1, r2, r3, r4⟩ := rebS hS (by rw [← eT] at hk; exact hk) X' hS' hgr hZ ho
  exact ⟨v, U, U.heap, ⟨U.vm, _, _, hx, r1, r2, Nat.le_refl _, r3, r4, rfl, fx_app F q2 hws ge, rfl, O, hw⟩, q1, q3, fun t k => st.trans k⟩
/-- a constructor, by its contract -/
theorem Hs.callI (H : Hs p l e R s m args below meth c Z own ws V T h cells slots) {index : Nat} (hy1 : y.name = "<init>") (w1 : (Jvm.Cond.methodLink own index y).before a0 Z = true) (w2 : (Jvm.Cond.instanceMethod y).before a0 Z = true) (w3 : (Jvm.Cond.code y bytes maxL none).before a0 Z = true)
    (hy : y.cls ≠ "java/lang/invoke/MethodHandle" ∧ y.cls ≠ "java/lang/invoke/VarHandle") {W kc ks : Nat} (P : PayN l R p e below args Z y W as' h kc ks ws' QN) (hg : g.method = m) (hsize : g.locals.size = c.maxLocals) {b : Addr} {argsL rest : List Value} (hlen : ∀ sig, parseMethodDescriptor y.desc = some sig → argsL.length = sig.parameters.length)
    (hst : g.stack = argsL.reverse ++ .ref b :: rest) (ha : (Value.ref b :: argsL).toArray = as') (hW : 2 * g.monitorRoom + (rest.map fun v => v.category).sum ≤ W) (hd : decode c.code g.pc = .ok (.invokespecial index, 3)) (hc : cells + kc ≤ R.cells) (hl : slots + ks ≤ R.slots) (hws : ∀ w ∈ ws', w ∈ ws ∨ s.heap.size ≤ w) :
    ∃ v T' h', Hs p l e R s m args below meth c Z own ws V T' h' (cells + kc) (slots + ks) ∧ QN v h' ∧ Keep h h' ws' ∧ ∀ t, Steps p.tables e below (T'.setTop { g with pc := g.pc + 3, stack := v.toList ++ rest }) t → Steps p.tables e below (T.setTop g) t := by
  have ge := H.ge
  obtain ⟨vm0, k0, locs, hx, X, hS, hk, hZ, ho, eT, F, hV, O, hw⟩ := H
  obtain ⟨v, vm1, ⟨U, L', c', s'⟩, hW1, X', ⟨L, ⟨q1, q2, q3⟩, rfl, rfl, rfl⟩, st⟩ := X.specialBack hx hy1 ho (mvT (s := s.setVm vm0) hZ w1) (mvT (s := s.setVm vm0) hZ w2) (mvT (s := s.setVm vm0) hZ w3) hy (P (s.setVm vm0) hZ) hg hsize (Steps.refl _) hlen hst hW hd (fun _ _ => ⟨ha, eT, hc, hl⟩)
  exact ⟨v, U, U.heap, ⟨vm0, k0, _, hx, X', hS, Nat.le_trans hk q3.1, hZ, ho, rfl, fx_app F q2 hws ge, hV, O, hw⟩, q1, q3, fun t k => st.trans k⟩
theorem Hs.callIW (H : Hs p l e R s m args below meth c Z own ws V T h cells slots) {index : Nat} (hy1 : y.name = "<init>") (w1 : (Jvm.Cond.methodLink own index y).before a0 Z = true) (w2 : (Jvm.Cond.instanceMethod y).before a0 Z = true) (w3 : (Jvm.Cond.code y bytes maxL none).before a0 Z = true)
    (hy : y.cls ≠ "java/lang/invoke/MethodHandle" ∧ y.cls ≠ "java/lang/invoke/VarHandle") {W kc ks : Nat} (P : PayW l R p e below args Z y W as' h kc ks ws' J Q) (hg : g.method = m) (hsize : g.locals.size = c.maxLocals) {b : Addr} {argsL rest : List Value} (hlen : ∀ sig, parseMethodDescriptor y.desc = some sig → argsL.length = sig.parameters.length)
    (hst : g.stack = argsL.reverse ++ .ref b :: rest) (ha : (Value.ref b :: argsL).toArray = as') (hW : 2 * g.monitorRoom + (rest.map fun v => v.category).sum ≤ W) (hd : decode c.code g.pc = .ok (.invokespecial index, 3)) (hc : cells + kc ≤ R.cells) (hl : slots + ks ≤ R.slots) (hws : ∀ w ∈ ws', w ∈ ws ∨ s.heap.size ≤ w)
    (hJ : ∀ (U : State) (vm1 : Vm), V U.vm → U.WarmedH vm1 → J vm1) :
    ∃ v T' h', Hs p l e R s m args below meth c Z own ws (fun v => v = T'.vm) T' h' (cells + kc) (slots + ks) ∧ Q v T'.vm h' ∧ Keep h h' ws' ∧ ∀ t, Steps p.tables e below (T'.setTop { g with pc := g.pc + 3, stack := v.toList ++ rest }) t → Steps p.tables e below (T.setTop g) t := by
  have ge := H.ge
  obtain ⟨vm0, k0, locs, hx, X, hS, hk, hZ, ho, eT, F, hV, O, hw⟩ := H
  obtain ⟨v, vm1, ⟨U, L', c', s'⟩, hW1, X', hS', hgr, ⟨L, ⟨q1, q2, q3⟩, rfl, rfl, rfl⟩, st⟩ := X.specialBackS hx hy1 ho (mvT (s := s.setVm vm0) hZ w1) (mvT (s := s.setVm vm0) hZ w2) (mvT (s := s.setVm vm0) hZ w3) hy (P (s.setVm vm0) hZ) hg hsize (Steps.refl _) hlen hst hW hd (fun vm1 hw1 => ⟨ha, eT, hc, hl, hJ _ _ hV hw1⟩)
  obtain ⟨r1, r2, r3, r4⟩ := rebS hS (by rw [← eT] at hk; exact hk) X' hS' hgr hZ ho
  exact ⟨v, U, U.heap, ⟨U.vm, _, _, hx, r1, r2, Nat.le_refl _, r3, r4, rfl, fx_app F q2 hws ge, rfl, O, hw⟩, q1, q3, fun t k => st.trans k⟩
/-- a payer that books no more than kc cells and ks slots -/
def PayM (l : Launch) (R : Room) (p : Program) (e : Env) (below : List Frame) (args : Array Value) (Z : State) (y : MethodName) (W : Nat) (as' : Array Value) (h : Heap) (kc ks : Nat) (ws : List Addr) (Q : Option Value → Heap → Prop) : Prop :=
  ∃ kc' ks', kc' ≤ kc ∧ ks' ≤ ks ∧ PayN l R p e below args Z y W as' h kc' ks' ws Q
theorem Hs.callIm (H : Hs p l e R s m args below meth c Z own ws V T h cells slots) {index : Nat} (hy1 : y.name = "<init>") (w1 : (Jvm.Cond.methodLink own index y).before a0 Z = true) (w2 : (Jvm.Cond.instanceMethod y).before a0 Z = true) (w3 : (Jvm.Cond.code y bytes maxL none).before a0 Z = true)
    (hy : y.cls ≠ "java/lang/invoke/MethodHandle" ∧ y.cls ≠ "java/lang/invoke/VarHandle") {W kc ks : Nat} (P : PayM l R p e below args Z y W as' h kc ks ws' QN) (hg : g.method = m) (hsize : g.locals.size = c.maxLocals) {b : Addr} {argsL rest : List Value} (hlen : ∀ sig, parseMethodDescriptor y.desc = some sig → argsL.length = sig.parameters.length)
    (hst : g.stack = argsL.reverse ++ .ref b :: rest) (ha : (Value.ref b :: argsL).toArray = as') (hW : 2 * g.monitorRoom + (rest.map fun v => v.category).sum ≤ W) (hd : decode c.code g.pc = .ok (.invokespecial index, 3)) (hc : cells + kc ≤ R.cells) (hl : slots + ks ≤ R.slots) (hws : ∀ w ∈ ws', w ∈ ws ∨ s.heap.size ≤ w) :
    ∃ v T' h', Hs p l e R s m args below meth c Z own ws V T' h' (cells + kc) (slots + ks) ∧ QN v h' ∧ Keep h h' ws' ∧ ∀ t, Steps p.tables e below (T'.setTop { g with pc := g.pc + 3, stack := v.toList ++ rest }) t → Steps p.tables e below (T.setTop g) t := by
  obtain ⟨kc', ks', q1, q2, P'⟩ := P
  obtain ⟨v, T', h', H', r⟩ := H.callI hy1 w1 w2 w3 hy P' hg hsize hlen hst ha hW hd (by omega) (by omega) hws
  exact ⟨v, T', h', H'.more (by omega) (by omega), r⟩
/-! heap steps -/
theorem ext_keep (E : Ext h h') : Keep h h' [] := (Keep.refl h []).ext E
theorem Hs.newO (H : Hs p l e R s m args below meth c Z own ws V T h cells slots) {C : String} {index n : Nat} (w : (Jvm.Cond.classLink own index C).before a0 Z = true) (wi : (Jvm.Cond.instantiable C n).before a0 Z = true) (wz : (Jvm.Cond.initialized C).before a0 Z = true) (hg : g.method = m) (hd : decode c.code g.pc = .ok (.new index, 3)) (hc : cells + 1 ≤ R.cells) (hl : slots + n ≤ R.slots) :
    ∃ (a : Addr) (T' : State) (h' : Heap), @Eq Nat a h.size ∧ Hs p l e R s m args below meth c Z own ws V T' h' (cells + 1) (slots + n) ∧ Keep h h' [] ∧ Exa Z h' a C ∧ (∀ {O nm d : String} {ty : FieldType}, Laid Z a0 C O nm d → parseFieldDescriptor d = some ty → Fld Z h' a O nm d (defaultValue ty)) ∧
      ∀ t, Steps p.tables e below (T'.setTop { g with pc := g.pc + 3, stack := .ref a :: g.stack }) t → Steps p.tables e below (T.setTop g) t := by
  obtain ⟨vm0, k0, locs, hx, X, hS, hk, hZ, ho, eT, r⟩ := H
  obtain ⟨T', h', X', e', E, A, D, -, st⟩ := RoadKit.newO X hx (s := s.setVm vm0) hZ ho w wi wz eT hg hd hc hl
  exact ⟨_, T', h', rfl, ⟨vm0, k0, locs, hx, X', hS, Nat.le_trans hk E.1, hZ, ho, e', r⟩, ext_keep E, A, D, st⟩
theorem Hs.newP (H : Hs p l e R s m args below meth c Z own ws V T h cells slots) {aty : ArrayType} (w : (Jvm.Cond.arrayClass (newarray.typeOf aty)).before a0 Z = true) (hg : g.method = m) (hd : decode c.code g.pc = .ok (.newarray aty, 2)) {n : Int32} {rest : List Value} (hs : g.stack = .int n :: rest) (hn : ¬ n < 0) {cap : Nat} (hcap : n.toNatClampNeg ≤ cap) (hb : cap * 8 ≤ 536870912) (hc : cells + 1 ≤ R.cells) (hl : slots + cap ≤ R.slots) :
    ∃ (a : Addr) (kA : ClassId) (T' : State) (h' : Heap), @Eq Nat a h.size ∧ Hs p l e R s m args below meth c Z own ws V T' h' (cells + 1) (slots + cap) ∧ Keep h h' [] ∧ Arv Z h' a kA (newarray.typeOf aty) n [] (defaultValue (newarray.typeOf aty)) ∧
      ∀ t, Steps p.tables e below (T'.setTop { g with pc := g.pc + 2, stack := .ref a :: rest }) t → Steps p.tables e below (T.setTop g) t := by
  obtain ⟨vm0, k0, locs, hx, X, hS, hk, hZ, ho, eT, r⟩ := H
  obtain ⟨T', h', cA, X', e', E, A, st⟩ := RoadKit.newP X hx (s := s.setVm vm0) hZ w eT hg hd hs hn hcap hb hc hl
  exact ⟨_, cA, T', h', rfl, ⟨vm0, k0, locs, hx, X', hS, Nat.le_trans hk E.1, hZ, ho, e', r⟩, ext_keep E, Arv.new A hn, st⟩
theorem arv_snoc {a : Addr} {kA : ClassId} {ty : FieldType} {z j : Int32} {vs : List Value} {dv v : Value} (F : Arv Z h a kA ty z vs dv) (hi : j.toNatClampNeg = vs.length) (hv : fits ty v = true) (W : Wr h h' a j.toNatClampNeg v) : Arv Z h' a kA ty z (vs ++ [v]) dv := by
  have F2 : Arv Z h a kA ty z (vs ++ [dv]) dv := F.pad (pad_rep vs dv 1)
  obtain ⟨cl, A, q1, S, q3, HH, G⟩ := F2
  have := Arv.set A q1 S q3 HH G hv W vs.length hi (by simp)
  simpa using this
/-- castore at the next place -/
theorem Hs.stC (H : Hs p l e R s m args below meth c Z own ws V T h cells slots) {a : Addr} {kA : ClassId} {z j x : Int32} {vs : List Value} {dv : Value} (F : Arv Z h a kA .char z vs dv) (hj : ¬ j < 0 ∧ j < z) (hi : j.toNatClampNeg = vs.length) (ga : a ∈ ws ∨ s.heap.size ≤ a) (hg : g.method = m) {rest : List Value} (hs : g.stack = .int x :: .int j :: .ref a :: rest) (hd : decode c.code g.pc = .ok (.castore, 1)) :
    ∃ (T' : State) (h' : Heap), Hs p l e R s m args below meth c Z own ws V T' h' cells slots ∧ Keep h h' [a] ∧ Arv Z h' a kA .char z (vs ++ [.int (nar .char x)]) dv ∧
      ∀ t, Steps p.tables e below (T'.setTop { g with pc := g.pc + 1, stack := rest }) t → Steps p.tables e below (T.setTop g) t := by
  obtain ⟨vm0, k0, locs, hx, X, hS, hk, hZ, ho, eT, F0, r⟩ := H
  have FF := F
  obtain ⟨cl, A, q1, S, q3, HH, G⟩ := F
  obtain ⟨T', h', X', e', W, st⟩ := RoadKit.stC X hx (s := s.setVm vm0) hZ eT A (inb_of S hj) hg hs hd
  exact ⟨T', h', ⟨vm0, k0, _, hx, X', hS, by rw [W.size]; exact hk, hZ, ho, e', fun y hy => (List.mem_append.mp hy).elim (F0 y) (fun q => by cases List.mem_singleton.mp q; exact ga), r⟩, Keep.of_wr W, arv_snoc FF hi (fits_nar_char _) W, st⟩
/-- castore at a known place -/
theorem Hs.stCi (H : Hs p l e R s m args below meth c Z own ws V T h cells slots) {a : Addr} {kA : ClassId} {z j x : Int32} {vs : List Value} {dv : Value} (F : Arv Z h a kA .char z vs dv) (hj : ¬ j < 0 ∧ j < z) {i : Nat} (hi : j.toNatClampNeg = i) (hl : i < vs.length) (ga : a ∈ ws ∨ s.heap.size ≤ a) (hg : g.method = m) {rest : List Value} (hs : g.stack = .int x :: .int j :: .ref a :: rest) (hd : decode c.code g.pc = .ok (.castore, 1)) :
    ∃ (T' : State) (h' : Heap), Hs p l e R s m args below meth c Z own ws V T' h' cells slots ∧ Keep h h' [a] ∧ Arv Z h' a kA .char z (vs.set i (.int (nar .char x))) dv ∧
      ∀ t, Steps p.tables e below (T'.setTop { g with pc := g.pc + 1, stack := rest }) t → Steps p.tables e below (T.setTop g) t := by
  obtain ⟨vm0, k0, locs, hx, X, hS, hk, hZ, ho, eT, F0, r⟩ := H
  obtain ⟨cl, A, q1, S, q3, HH, G⟩ := F
  obtain ⟨T', h', X', e', W, st⟩ := RoadKit.stC X hx (s := s.setVm vm0) hZ eT A (inb_of S hj) hg hs hd
  exact ⟨T', h', ⟨vm0, k0, _, hx, X', hS, by rw [W.size]; exact hk, hZ, ho, e', fun y hy => (List.mem_append.mp hy).elim (F0 y) (fun q => by cases List.mem_singleton.mp q; exact ga), r⟩, Keep.of_wr W, Arv.set A q1 S q3 HH G (fits_nar_char _) W i hi hl, st⟩
/-- bastore at the next place -/
theorem Hs.stB (H : Hs p l e R s m args below meth c Z own ws V T h cells slots) {a : Addr} {kA : ClassId} {z j x : Int32} {vs : List Value} {dv : Value} (F : Arv Z h a kA .byte z vs dv) (hj : ¬ j < 0 ∧ j < z) (hi : j.toNatClampNeg = vs.length) (ga : a ∈ ws ∨ s.heap.size ≤ a) (hg : g.method = m) {rest : List Value} (hs : g.stack = .int x :: .int j :: .ref a :: rest) (hd : decode c.code g.pc = .ok (.bastore, 1)) :
    ∃ (T' : State) (h' : Heap), Hs p l e R s m args below meth c Z own ws V T' h' cells slots ∧ Keep h h' [a] ∧ Arv Z h' a kA .byte z (vs ++ [.int (nar .byte x)]) dv ∧
      ∀ t, Steps p.tables e below (T'.setTop { g with pc := g.pc + 1, stack := rest }) t → Steps p.tables e below (T.setTop g) t := by
  obtain ⟨vm0, k0, locs, hx, X, hS, hk, hZ, ho, eT, F0, r⟩ := H
  have FF := F
  obtain ⟨cl, A, q1, S, q3, HH, G⟩ := F
  obtain ⟨T', h', X', e', W, st⟩ := RoadKit.stB X hx (s := s.setVm vm0) hZ eT A (inb_of S hj) hg hs hd
  exact ⟨T', h', ⟨vm0, k0, _, hx, X', hS, by rw [W.size]; exact hk, hZ, ho, e', fun y hy => (List.mem_append.mp hy).elim (F0 y) (fun q => by cases List.mem_singleton.mp q; exact ga), r⟩, Keep.of_wr W, arv_snoc FF hi (fits_nar_byte _) W, st⟩
theorem Hs.getF (H : Hs p l e R s m args below meth c Z own ws V T h cells slots) {R0 O n d host : String} {index : Nat} (w : (Jvm.Cond.fieldLink own index R0 n d).before a0 Z = true ∨ (Jvm.Cond.fieldLinkNest own index R0 n d host).before a0 Z = true) (via : Via Z R0 O n d)
    {a : Addr} {v : Value} (F : Fld Z h a O n d v) (hg : g.method = m) {rest : List Value} (hs : g.stack = .ref a :: rest) (hd : decode c.code g.pc = .ok (.getfield index, 3)) :
    ∃ T', Hs p l e R s m args below meth c Z own ws V T' h cells slots ∧ ∀ t, Steps p.tables e below (T'.setTop { g with pc := g.pc + 3, stack := v :: rest }) t → Steps p.tables e below (T.setTop g) t := by
  obtain ⟨vm0, k0, locs, hx, X, hS, hk, hZ, ho, eT, r⟩ := H
  obtain ⟨T', X', e', st⟩ := RoadKit.getF X hx (s := s.setVm vm0) hZ ho w via eT F hg hs hd
  exact ⟨T', ⟨vm0, k0, locs, hx, X', hS, hk, hZ, ho, e', r⟩, st⟩
theorem Hs.getS (H : Hs p l e R s m args below meth c Z own ws V T h cells slots) {R0 O n d host : String} {index : Nat} (w : (Jvm.Cond.fieldLink own index R0 n d).before a0 Z = true ∨ (Jvm.Cond.fieldLinkNest own index R0 n d host).before a0 Z = true) (via : Via Z R0 O n d)
    {v : Value} (F : Sta Z h O n d v) (hg : g.method = m) (hd : decode c.code g.pc = .ok (.getstatic index, 3)) :
    ∃ T', Hs p l e R s m args below meth c Z own ws V T' h cells slots ∧ ∀ t, Steps p.tables e below (T'.setTop { g with pc := g.pc + 3, stack := v :: g.stack }) t → Steps p.tables e below (T.setTop g) t := by
  obtain ⟨vm0, k0, locs, hx, X, hS, hk, hZ, ho, eT, r⟩ := H
  obtain ⟨T', X', e', st⟩ := RoadKit.getS2 X hx (s := s.setVm vm0) hZ ho w via eT F hg hd
  exact ⟨T', ⟨vm0, k0, locs, hx, X', hS, hk, hZ, ho, e', r⟩, st⟩
theorem Hs.putF (H : Hs p l e R s m args below meth c Z own ws V T h cells slots) {R0 O n d host C : String} {index kk : Nat} {ty : FieldType} (w : (Jvm.Cond.fieldLink own index R0 n d).before a0 Z = true ∨ (Jvm.Cond.fieldLinkNest own index R0 n d host).before a0 Z = true) (via : Via Z R0 O n d)
    {a : Addr} {v old : Value} (F : Fld Z h a O n d old) (E : Exa Z h a C) (L : (Jvm.Cond.lays C O n d).before a0 Z = true ∨ ((Jvm.Cond.laysFinal C O n d).before a0 Z = true ∧ own = O ∧ meth.name = "<init>")) (wi : (Jvm.Cond.instantiable C kk).before a0 Z = true)
    (hty : parseFieldDescriptor d = some ty) (hn : narrow ty v = v) (hf : fits ty v = true) (ga : a ∈ ws ∨ s.heap.size ≤ a) (hg : g.method = m) {rest : List Value} (hs : g.stack = v :: .ref a :: rest) (hd : decode c.code g.pc = .ok (.putfield index, 3)) :
    ∃ (T' : State) (h' : Heap), Hs p l e R s m args below meth c Z own ws V T' h' cells slots ∧ Keep h h' [a] ∧ Wr h h' a (RoadKit.slotOf Z O n d) v ∧ ∀ t, Steps p.tables e below (T'.setTop { g with pc := g.pc + 3, stack := rest }) t → Steps p.tables e below (T.setTop g) t := by
  obtain ⟨vm0, k0, locs, hx, X, hS, hk, hZ, ho, eT, F0, r⟩ := H
  obtain ⟨T', h', X', e', W, st⟩ := RoadKit.putF X hx (s := s.setVm vm0) hZ ho w via eT F E L wi hty hn hf hg hs hd
  exact ⟨T', h', ⟨vm0, k0, _, hx, X', hS, by rw [W.size]; exact hk, hZ, ho, e', fun y hy => (List.mem_append.mp hy).elim (F0 y) (fun q => by cases List.mem_singleton.mp q; exact ga), r⟩, Keep.of_wr W, W, st⟩
theorem Hs.initO (H : Hs p l e R s m args below meth c Z own ws V T h cells slots) {idx : Nat} (w1 : (Jvm.Cond.methodLink own idx Lib.objectInit).before a0 Z = true) (w2 : (Jvm.Cond.instanceMethod Lib.objectInit).before a0 Z = true) (w3 : (Jvm.Cond.code Lib.objectInit ⟨#[0xb1]⟩ 1 none).before a0 Z = true)
    (hg : g.method = m) (hsize : g.locals.size = c.maxLocals) {a : Addr} {rest : List Value} (hs : g.stack = .ref a :: rest) (hd : decode c.code g.pc = .ok (.invokespecial idx, 3)) (hf : 1 ≤ R.frames) {W : Nat} (hW : 2 * g.monitorRoom + (rest.map fun v => v.category).sum ≤ W) (hl : W + 12 ≤ R.locals) :
    ∃ T', Hs p l e R s m args below meth c Z own ws V T' h cells slots ∧ ∀ t, Steps p.tables e below (T'.setTop { g with pc := g.pc + 3, stack := rest }) t → Steps p.tables e below (T.setTop g) t := by
  obtain ⟨vm0, k0, locs, hx, X, hS, hk, hZ, ho, eT, r⟩ := H
  obtain ⟨T', X', e', st⟩ := RoadKit.initO X hx (s := s.setVm vm0) hZ ho w1 w2 w3 eT hg hsize hs hd hf hW hl
  exact ⟨T', ⟨vm0, k0, locs, hx, X', hS, hk, hZ, ho, e', r⟩, st⟩
/-- ldc of a String whose text isn't asked -/
theorem Hs.ldcS (H : Hs p l e R s m args below meth c Z own ws (fun _ => True) T h cells slots) {text : String} {index : Nat} (w : (Jvm.Cond.stringLink own index text).before a0 Z = true) (wS : ∀ a ∈ Bundle.stringAtoms, a.before a0 Z = true) (hg : g.method = m) (hd : decode c.code g.pc = .ok (.ldc index, 2)) {n : Nat} (hn : 4 * text.toList.length ≤ n) (hbig : n ≤ 536870912) (hc : cells + 2 ≤ R.cells) (hl : slots + (n + 4) ≤ R.slots) :
    ∃ (a : Addr) (T' : State) (h' : Heap), Hs p l e R s m args below meth c Z own ws (fun _ => True) T' h' (cells + 2) (slots + (n + 4)) ∧ Keep h h' [] ∧ ∀ t, Steps p.tables e below (T'.setTop { g with pc := g.pc + 2, stack := .ref a :: g.stack }) t → Steps p.tables e below (T.setTop g) t := by
  obtain ⟨vm0, k0, locs, hx, X, hS, hk, hZ, ho, eT, F0, hV, r⟩ := H
  obtain ⟨a, T', h', k1, X', e', E, hS', hk', hZ', ho', st⟩ := RoadKit.ldcS X hx hZ ho w wS eT hS hk hg hd hn hbig hc hl
  exact ⟨a, T', h', ⟨_, k1, locs, hx, X', hS', hk', hZ', ho', e', F0, trivial, r⟩, ext_keep E, st⟩
theorem Hs.ldcI (H : Hs p l e R s m args below meth c Z own ws V T h cells slots) {index : Nat} {n : Int32} (w : (Jvm.Cond.constant own index n).before a0 Z = true) (hg : g.method = m) (hd : decode c.code g.pc = .ok (.ldc index, 2)) :
    ∀ t, Steps p.tables e below (T.setTop { g with pc := g.pc + 2, stack := .int n :: g.stack }) t → Steps p.tables e below (T.setTop g) t := by
  obtain ⟨vm0, k0, locs, hx, X, hS, hk, hZ, ho, eT, r⟩ := H
  exact X.ldcInt hx ho (mvT (s := s.setVm vm0) hZ w) hg hd
theorem Hs.castY (H : Hs p l e R s m args below meth c Z own ws V T h cells slots) {KK : String} {index : Nat} (w : (Jvm.Cond.classLink own index KK).before a0 Z = true) {a : Addr} (F : Ins Z h a KK true) (hg : g.method = m) {rest : List Value} (hs : g.stack = .ref a :: rest) (hd : decode c.code g.pc = .ok (.checkcast index, 3)) :
    ∃ T', Hs p l e R s m args below meth c Z own ws V T' h cells slots ∧ ∀ t, Steps p.tables e below (T'.setTop { g with pc := g.pc + 3 }) t → Steps p.tables e below (T.setTop g) t := by
  obtain ⟨vm0, k0, locs, hx, X, hS, hk, hZ, ho, eT, r⟩ := H
  obtain ⟨T', X', e', st⟩ := RoadKit.castY X hx (s := s.setVm vm0) hZ ho w eT F hg hs hd
  exact ⟨T', ⟨vm0, k0, locs, hx, X', hS, hk, hZ, ho, e', r⟩, st⟩
theorem Hs.instY (H : Hs p l e R s m args below meth c Z own ws V T h cells slots) {KK : String} {index : Nat} (w : (Jvm.Cond.classLink own index KK).before a0 Z = true) {a : Addr} (F : Ins Z h a KK true) (hg : g.method = m) {rest : List Value} (hs : g.stack = .ref a :: rest) (hd : decode c.code g.pc = .ok (.instanceof index, 3)) :
    ∃ T', Hs p l e R s m args below meth c Z own ws V T' h cells slots ∧ ∀ t, Steps p.tables e below (T'.setTop { g with pc := g.pc + 3, stack := .int 1 :: rest }) t → Steps p.tables e below (T.setTop g) t := by
  obtain ⟨vm0, k0, locs, hx, X, hS, hk, hZ, ho, eT, r⟩ := H
  obtain ⟨T', X', e', st⟩ := RoadKit.instY X hx (s := s.setVm vm0) hZ ho w eT F hg hs hd
  exact ⟨T', ⟨vm0, k0, locs, hx, X', hS, hk, hZ, ho, e', r⟩, st⟩
theorem Hs.instNo (H : Hs p l e R s m args below meth c Z own ws V T h cells slots) {C KK : String} {index : Nat} (w : (Jvm.Cond.classLink own index KK).before a0 Z = true) {a : Addr} (E : Exa Z h a C) (F : ∃ c t, Z.vm.findClass C = some c ∧ Z.vm.findClass KK = some t ∧ Z.vm.assignable c t = false) (hg : g.method = m) {rest : List Value} (hs : g.stack = .ref a :: rest) (hd : decode c.code g.pc = .ok (.instanceof index, 3)) :
    ∃ T', Hs p l e R s m args below meth c Z own ws V T' h cells slots ∧ ∀ t, Steps p.tables e below (T'.setTop { g with pc := g.pc + 3, stack := .int 0 :: rest }) t → Steps p.tables e below (T.setTop g) t := by
  obtain ⟨vm0, k0, locs, hx, X, hS, hk, hZ, ho, eT, r⟩ := H
  obtain ⟨T', X', e', st⟩ := RoadKit.instNo X hx (s := s.setVm vm0) hZ (a0 := a0) ho w eT E F hg hs hd
  exact ⟨T', ⟨vm0, k0, locs, hx, X', hS, hk, hZ, ho, e', r⟩, st⟩
/-! arrays read -/
theorem Hs.alen (H : Hs p l e R s m args below meth c Z own ws V T h cells slots) {a : Addr} {kA : ClassId} {ty : FieldType} {z : Int32} {vs : List Value} {dv : Value} (F : Arv Z h a kA ty z vs dv) (hg : g.method = m) {rest : List Value} (hs : g.stack = .ref a :: rest) (hd : decode c.code g.pc = .ok (.arraylength, 1)) :
    ∀ t, Steps p.tables e below (T.setTop { g with pc := g.pc + 1, stack := .int z :: rest }) t → Steps p.tables e below (T.setTop g) t := by
  obtain ⟨vm0, k0, locs, hx, X, hS, hk, hZ, ho, eT, r⟩ := H
  obtain ⟨cl, A, q1, S, q3, HH, G⟩ := F
  intro t k
  refine X.arraylength hx (by rw [eT]; exact A.1) (State.isArrayOf_alike (T := s.setVm vm0) (State.Warmed39.alike (s := Z) hZ) A.2.1) hg hs hd t ?_
  rw [len_of S q3]; exact k
theorem Hs.aald (H : Hs p l e R s m args below meth c Z own ws V T h cells slots) {a : Addr} {kA : ClassId} {ty : FieldType} {z j : Int32} {vs : List Value} {dv v : Value} (F : Arv Z h a kA ty z vs dv) (hty : ty.isReference = true) (hj : ¬ j < 0 ∧ j < z) (hv : vs.getD j.toNatClampNeg dv = v) (hg : g.method = m) {rest : List Value} (hs : g.stack = .int j :: .ref a :: rest) (hd : decode c.code g.pc = .ok (.aaload, 1)) :
    ∀ t, Steps p.tables e below (T.setTop { g with pc := g.pc + 1, stack := v :: rest }) t → Steps p.tables e below (T.setTop g) t := by
  obtain ⟨vm0, k0, locs, hx, X, hS, hk, hZ, ho, eT, r⟩ := H
  obtain ⟨cl, A, q1, S, q3, HH, G⟩ := F
  intro t k
  exact X.aaload hx (by rw [eT]; exact A.1) (State.isArrayOf_alike (T := s.setVm vm0) (State.Warmed39.alike (s := Z) hZ) A.2.1) hty A.2.2 (inb_of S hj) (HH.at (inb_of S hj) hv) hg hs hd t k
theorem Hs.cald (H : Hs p l e R s m args below meth c Z own ws V T h cells slots) {a : Addr} {kA : ClassId} {z j : Int32} {vs : List Value} {dv v : Value} (F : Arv Z h a kA .char z vs dv) (hj : ¬ j < 0 ∧ j < z) (hv : vs.getD j.toNatClampNeg dv = v) (hg : g.method = m) {rest : List Value} (hs : g.stack = .int j :: .ref a :: rest) (hd : decode c.code g.pc = .ok (.caload, 1)) :
    ∀ t, Steps p.tables e below (T.setTop { g with pc := g.pc + 1, stack := v :: rest }) t → Steps p.tables e below (T.setTop g) t := by
  obtain ⟨vm0, k0, locs, hx, X, hS, hk, hZ, ho, eT, r⟩ := H
  obtain ⟨cl, A, q1, S, q3, HH, G⟩ := F
  intro t k
  exact X.caload hx (by rw [eT]; exact A.1) (State.isArrayOf_alike (T := s.setVm vm0) (State.Warmed39.alike (s := Z) hZ) A.2.1) A.2.2 (inb_of S hj) (HH.at (inb_of S hj) hv) hg hs hd t k
theorem Hs.bald (H : Hs p l e R s m args below meth c Z own ws V T h cells slots) {a : Addr} {kA : ClassId} {z j : Int32} {vs : List Value} {dv v : Value} (F : Arv Z h a kA .byte z vs dv) (hj : ¬ j < 0 ∧ j < z) (hv : vs.getD j.toNatClampNeg dv = v) (hg : g.method = m) {rest : List Value} (hs : g.stack = .int j :: .ref a :: rest) (hd : decode c.code g.pc = .ok (.baload, 1)) :
    ∀ t, Steps p.tables e below (T.setTop { g with pc := g.pc + 1, stack := v :: rest }) t → Steps p.tables e below (T.setTop g) t := by
  obtain ⟨vm0, k0, locs, hx, X, hS, hk, hZ, ho, eT, r⟩ := H
  obtain ⟨cl, A, q1, S, q3, HH, G⟩ := F
  intro t k
  exact X.baloadBytes hx (by rw [eT]; exact A.1) (State.isArrayOf_alike (T := s.setVm vm0) (State.Warmed39.alike (s := Z) hZ) A.2.1) A.2.2 (inb_of S hj) (HH.at (inb_of S hj) hv) hg hs hd t k
/-- an array's clone() -/
theorem Hs.clone (H : Hs p l e R s m args below meth c Z own ws V T h cells slots) {ad : String} {index : Nat} (w1 : (Jvm.Cond.methodLink own index ⟨ad, "clone", "()Ljava/lang/Object;"⟩).before a0 Z = true) (w2 : (Jvm.Cond.sameMethod ad "java/lang/Object" "clone" "()Ljava/lang/Object;").before a0 Z = true) (w3 : (Jvm.Cond.native ⟨"java/lang/Object", "clone", "()Ljava/lang/Object;"⟩).before a0 Z = true)
    (w4 : (Jvm.Cond.instanceMethod ⟨"java/lang/Object", "clone", "()Ljava/lang/Object;"⟩).before a0 Z = true) (w5 : (Jvm.Cond.selects ad ⟨ad, "clone", "()Ljava/lang/Object;"⟩ ⟨"java/lang/Object", "clone", "()Ljava/lang/Object;"⟩).before a0 Z = true) (w6 : (Jvm.Cond.castable ad "java/lang/Cloneable").before a0 Z = true)
    {a : Addr} {kA : ClassId} {ty : FieldType} {z : Int32} {vs : List Value} {dv : Value} (F : Arv Z h a kA ty z vs dv) (E : Exa Z h a ad) (hg : g.method = m) (hsize : g.locals.size = c.maxLocals) {rest : List Value} (hst : g.stack = .ref a :: rest) (hd : decode c.code g.pc = .ok (.invokevirtual index, 3))
    (hf : 1 ≤ R.frames) {W cap : Nat} (hW : 2 * g.monitorRoom + (rest.map fun v => v.category).sum ≤ W) (hl : W + 14 ≤ R.locals) (hcap : z.toNatClampNeg ≤ cap) (hc : cells + 1 ≤ R.cells) (hsl : slots + cap ≤ R.slots) :
    ∃ (b : Addr) (T' : State) (h' : Heap), @Eq Nat b h.size ∧ Hs p l e R s m args below meth c Z own ws V T' h' (cells + 1) (slots + cap) ∧ Keep h h' [] ∧ Arv Z h' b kA ty z vs dv ∧ Exa Z h' b ad ∧
      ∀ t, Steps p.tables e below (T'.setTop { g with pc := g.pc + 3, stack := .ref b :: rest }) t → Steps p.tables e below (T.setTop g) t := by
  obtain ⟨vm0, k0, locs, hx, X, hS, hk, hZ, ho, eT, r⟩ := H
  obtain ⟨T', h', X', e', Ex, A, E', st⟩ := cloneH X hx (s := s.setVm vm0) hZ ho w1 w2 w3 w4 w5 w6 eT F.arh E hg hsize hst hd hf hW hl hcap hc hsl
  exact ⟨_, T', h', rfl, ⟨vm0, k0, locs, hx, X', hS, Nat.le_trans hk Ex.1, hZ, ho, e', r⟩, ext_keep Ex, A, E', st⟩
theorem iremH (H : Hs p l e R s m args below meth c Z own ws V T h cells slots) (hx : p.tables.exec = Jvm.exec) (hg : g.method = m) {x y : Int32} {rest : List Value} {target : State} (hd : decode c.code g.pc = .ok (.irem, 1)) (hs : g.stack = .int y :: .int x :: rest) (hy : y ≠ 0)
    (hr : Steps p.tables e below (T.setTop { g with pc := g.pc + 1, stack := .int (x % y) :: rest }) target) : Steps p.tables e below (T.setTop g) target := by
  obtain ⟨vm0, k0, locs, hx', X, -⟩ := H
  exact iremM X hx hg hd hs hy hr
theorem Hs.instNull (H : Hs p l e R s m args below meth c Z own ws V T h cells slots) {index : Nat} (hg : g.method = m) {rest : List Value} (hs : g.stack = .null :: rest) (hd : decode c.code g.pc = .ok (.instanceof index, 3)) :
    ∀ t, Steps p.tables e below (T.setTop { g with pc := g.pc + 3, stack := .int 0 :: rest }) t → Steps p.tables e below (T.setTop g) t := by
  obtain ⟨vm0, k0, locs, hx, X, r⟩ := H
  exact Jvm.Stand.instanceofNull X hx hg hs hd
/-- no object of the class C is one of the class K -/
theorem not_sub {C K : String} {n : Nat} (w : (Jvm.Cond.superclass C "java/lang/Object").before a0 Z = true) (w0 : (Jvm.Cond.noSuperclass "java/lang/Object").before a0 Z = true) (wk : (Jvm.Cond.instantiable K n).before a0 Z = true) (n1 : C ≠ K) (n2 : "java/lang/Object" ≠ K) :
    ∃ c t, Z.vm.findClass C = some c ∧ Z.vm.findClass K = some t ∧ Z.vm.assignable c t = false := by
  obtain ⟨c, h0⟩ := found_sup w
  obtain ⟨p, k, kp, h1, h2, h3, h4, h5, -, h7⟩ := Cond.superclass_spec h0 w
  obtain ⟨t, k', g0, g2, g5, g6, -, -⟩ := Cond.instantiable_spec wk
  obtain ⟨c', k'', r1, r2, r3, -, -⟩ := Cond.noSuperclass_spec w0
  cases h1.symm.trans r1
  have ne := ids_ne h0 g0 n1
  have ne2 := ids_ne r1 g0 n2
  have g7 : k'.isInterface = false := by cases q : k'.isInterface <;> simp [q] at g6 ⊢
  have n3 : ∀ fuel, Z.vm.isSubclassAux fuel c t = false := fun fuel => by
    cases fuel with
    | zero => rfl
    | succ f => cases f with
      | zero => simp [Vm.isSubclassAux, ne, h2, h4]
      | succ f => simp [Vm.isSubclassAux, ne, ne2, h2, h4, r2, r3]
  refine ⟨c, t, h0, g0, ?_⟩
  show Z.vm.assignableAux (255 + 1) c t = false
  simp [Vm.assignableAux, ne, h2, g2, h5, g5, g7, Vm.isSubclass, n3]
/-! branches -/
theorem z_eq_t {x : Int32} (q : x = 0) : ifCond.holds .eq x = true := (if0 _ _).trans (teq q).1
theorem z_eq_f {x : Int32} (q : ¬ x = 0) : ifCond.holds .eq x = false := (if0 _ _).trans (feq q).1
theorem z_ne_f {x : Int32} (q : x = 0) : ifCond.holds .ne x = false := (if0 _ _).trans (teq q).2
theorem z_ne_t {x : Int32} (q : ¬ x = 0) : ifCond.holds .ne x = true := (if0 _ _).trans (feq q).2
theorem z_lt_t {x : Int32} (q : x < 0) : ifCond.holds .lt x = true := (if0 _ _).trans (tlt q).1
theorem z_lt_f {x : Int32} (q : ¬ x < 0) : ifCond.holds .lt x = false := (if0 _ _).trans (flt q).1
theorem z_ge_f {x : Int32} (q : x < 0) : ifCond.holds .ge x = false := (if0 _ _).trans (tlt q).2.1
theorem z_ge_t {x : Int32} (q : ¬ x < 0) : ifCond.holds .ge x = true := (if0 _ _).trans (flt q).2.1
theorem z_gt_t {x : Int32} (q : 0 < x) : ifCond.holds .gt x = true := (if0 _ _).trans (tlt q).2.2.1
theorem z_gt_f {x : Int32} (q : ¬ 0 < x) : ifCond.holds .gt x = false := (if0 _ _).trans (flt q).2.2.1
theorem z_le_f {x : Int32} (q : 0 < x) : ifCond.holds .le x = false := (if0 _ _).trans (tlt q).2.2.2
theorem z_le_t {x : Int32} (q : ¬ 0 < x) : ifCond.holds .le x = true := (if0 _ _).trans (flt q).2.2.2
theorem c_eq_t {x y : Int32} (q : x = y) : if_icmp.holds .eq x y = true := (teq q).1
theorem c_eq_f {x y : Int32} (q : ¬ x = y) : if_icmp.holds .eq x y = false := (feq q).1
theorem c_ne_f {x y : Int32} (q : x = y) : if_icmp.holds .ne x y = false := (teq q).2
theorem c_ne_t {x y : Int32} (q : ¬ x = y) : if_icmp.holds .ne x y = true := (feq q).2
theorem c_lt_t {x y : Int32} (q : x < y) : if_icmp.holds .lt x y = true := (tlt q).1
theorem c_lt_f {x y : Int32} (q : ¬ x < y) : if_icmp.holds .lt x y = false := (flt q).1
theorem c_ge_f {x y : Int32} (q : x < y) : if_icmp.holds .ge x y = false := (tlt q).2.1
theorem c_ge_t {x y : Int32} (q : ¬ x < y) : if_icmp.holds .ge x y = true := (flt q).2.1
theorem c_gt_t {x y : Int32} (q : y < x) : if_icmp.holds .gt x y = true := (tlt q).2.2.1
theorem c_gt_f {x y : Int32} (q : ¬ y < x) : if_icmp.holds .gt x y = false := (flt q).2.2.1
theorem c_le_f {x y : Int32} (q : y < x) : if_icmp.holds .le x y = false := (tlt q).2.2.2
theorem c_le_t {x y : Int32} (q : ¬ y < x) : if_icmp.holds .le x y = true := (flt q).2.2.2
theorem ac_eq_t {x y : Value} (q : x = y) : XT.acmp .eq x y = true := decide_eq_true q
theorem ac_eq_f {x y : Value} (q : ¬ x = y) : XT.acmp .eq x y = false := decide_eq_false q
theorem ac_ne_t {x y : Value} (q : ¬ x = y) : XT.acmp .ne x y = true := decide_eq_true q
theorem ac_ne_f {x y : Value} (q : x = y) : XT.acmp .ne x y = false := decide_eq_false fun r => r q
theorem ref_ne {a b : Addr} (q : ¬ a = b) : ¬ Value.ref a = Value.ref b := fun r => q (Value.ref.inj r)
end Own
end Jvm.Pilot.@@N@@
/- laws to paste: Road.backArv, Road.eqW, Road.empW (cut by pick.py; bodies as the Statement names them) -/
namespace Jvm.Pilot.@@N@@
namespace StrChars
open Jvm Sem ClassFile Op Lib Jvm.Stand Jvm.Free.XT Jvm.Free.ALB Jvm.Free.JM Jvm.Free
open Jvm.Lib.Cold (StaticIs)
/-- a char array whose places are chars -/
def Ch (a : Addr) (A : Cell) (U : State) : Prop := Arr .char a A U ∧ Typed .char A
theorem Ch.mv {a : Addr} {A : Cell} {U U' : State} (h : Ch a A U) (hal : U.vm.Alike U'.vm) (hh : U'.heap = U.heap) : Ch a A U' := ⟨h.1.mv hal hh, h.2⟩
theorem Ch.keep {a : Addr} {A : Cell} {U U' : State} (h : Ch a A U) (hal : U.vm.Alike U'.vm) (hk : U'.heap[a]? = some A) : Ch a A U' := ⟨h.1.keep hal hk, h.2⟩
/-- what place i of a char[]'s cell holds -/
def cv (A : Cell) (i : Nat) : Int32 := match A.slots[i]? with | some (.int x) => x | _ => 0
theorem Ch.get {a : Addr} {A : Cell} {U : State} (h : Ch a A U) {i : Nat} (hi : i < A.slots.size) : A.slots[i]? = some (.int (cv A i)) := by
  have e := Array.getElem?_eq_getElem hi
  have f := h.2 i _ e
  unfold cv; rw [e]
  generalize A.slots[i] = v at f
  cases v <;> simp [fits] at f ⊢
/-- the byte that i2b leaves of a char -/
def lo8 (x : Int32) : Int32 := x.toInt8.toInt32
theorem fits_lo8 (y : Int32) : fits .byte (.int (lo8 y)) = true := by
  have h1 := y.toInt8.le_toInt
  have h2 := y.toInt8.toInt_lt
  simp only [lo8, fits, Bool.and_eq_true, decide_eq_true_eq, Int32.le_iff_toInt_le, Int8.toInt_toInt32, show (-128 : Int32).toInt = -128 from by decide, show (127 : Int32).toInt = 127 from by decide]
  omega
/-- A' is A but that each place j of lo .. hi - 1 holds f j -/
def Laid (A A' : Cell) (lo hi : Nat) (f : Nat → Value) : Prop := A'.cls = A.cls ∧ A'.vm = A.vm ∧ A'.slots.size = A.slots.size ∧ ∀ i, A'.slots[i]? = if lo ≤ i ∧ i < hi then some (f i) else A.slots[i]?
theorem Laid.zero (A : Cell) (lo : Nat) (f : Nat → Value) : Laid A A lo (lo + 0) f := ⟨rfl, rfl, rfl, fun i => by rw [if_neg (by omega)]⟩
theorem Laid.step {A Ak : Cell} {lo k : Nat} {f : Nat → Value} {v : Value} (h : Laid A Ak lo k f) (hlo : lo ≤ k) (hk : k < Ak.slots.size) (hv : v = f k) : Laid A (Ak.setSlot k v) lo (k + 1) f := by
  refine ⟨h.1, h.2.1, by simpa [Cell.setSlot] using h.2.2.1, fun i => ?_⟩
  by_cases e : k = i
  · subst e; rw [Cell.slots_setSlot_self v hk, if_pos (by omega), hv]
  · rw [Cell.slots_setSlot_ne v e, h.2.2.2 i]
    by_cases q : lo ≤ i ∧ i < k
    · rw [if_pos q, if_pos (by omega)]
    · rw [if_neg q, if_neg (by omega)]
def U16 : String := "java/lang/StringUTF16"
namespace Cmp5
def yN : MethodName := ⟨"java/lang/StringUTF16", "compress", "([CI[BII)I"⟩
abbrev yB : ByteArray := jdk_52_method_21_code
theorem d0 : decode yB 0 = .ok (.iconst 0, 1) := by decide +kernel
theorem d1 : decode yB 1 = .ok (.istore 5, 2) := by decide +kernel
theorem d3 : decode yB 3 = .ok (.iload 5, 2) := by decide +kernel
theorem d5 : decode yB 5 = .ok (.iload 4, 2) := by decide +kernel
theorem d7 : decode yB 7 = .ok (.if_icmp (.ge) 37, 3) := by decide +kernel
theorem d10 : decode yB 10 = .ok (.aload_n 0, 1) := by decide +kernel
theorem d11 : decode yB 11 = .ok (.iload_n 1, 1) := by decide +kernel
theorem d12 : decode yB 12 = .ok (.caload, 1) := by decide +kernel
theorem d13 : decode yB 13 = .ok (.istore 6, 2) := by decide +kernel
theorem d15 : decode yB 15 = .ok (.iload 6, 2) := by decide +kernel
theorem d17 : decode yB 17 = .ok (.sipush 255, 3) := by decide +kernel
theorem d20 : decode yB 20 = .ok (.if_icmp (.le) 6, 3) := by decide +kernel
theorem d26 : decode yB 26 = .ok (.aload_n 2, 1) := by decide +kernel
theorem d27 : decode yB 27 = .ok (.iload_n 3, 1) := by decide +kernel
theorem d28 : decode yB 28 = .ok (.iload 6, 2) := by decide +kernel
theorem d30 : decode yB 30 = .ok (.i2b, 1) := by decide +kernel
theorem d31 : decode yB 31 = .ok (.bastore, 1) := by decide +kernel
theorem d32 : decode yB 32 = .ok (.iinc 1 1, 3) := by decide +kernel
theorem d35 : decode yB 35 = .ok (.iinc 3 1, 3) := by decide +kernel
theorem d38 : decode yB 38 = .ok (.iinc 5 1, 3) := by decide +kernel
theorem d41 : decode yB 41 = .ok (.goto (-38), 3) := by decide +kernel
theorem d44 : decode yB 44 = .ok (.iload 4, 2) := by decide +kernel
theorem d46 : decode yB 46 = .ok (.ireturn, 1) := by decide +kernel
def site : List Cond := []
def tab : Cond := tabOf yN yB 7 (some .int) site
def P (b : Addr) (A : Cell) (d : Addr) (B : Cell) (o q len : Nat) (args : Array Value) (s : State) : Prop := args = #[.ref b, .int (Int32.ofNat o), .ref d, .int (Int32.ofNat q), .int (Int32.ofNat len)] ∧ Ch b A s ∧ Arr .byte d B s ∧ b ≠ d ∧ o + len ≤ A.slots.size ∧ q + len ≤ B.slots.size ∧ ∀ i, i < len → ¬ 255 < cv A (o + i)
def E (b : Addr) (A : Cell) (d : Addr) (B : Cell) (o q len : Nat) (r : Option Value) (s u : State) : Prop := r = some (.int (Int32.ofNat len)) ∧ ∃ B', Put d B' s u ∧ Laid B B' q (q + len) (fun j => Value.int (lo8 (cv A (o + (j - q)))))
/-- no char of the range above 255: len; the places written hold each char's low byte -/
theorem law (l : Launch) (b : Addr) (A : Cell) (d : Addr) (B : Cell) (o q len : Nat) : Law l yN 5 5 0 0 yB 7 (some .int) site (P b A d B o q len) (E b A d B o q len) (copyLocs d q len) 0 0 := by
  refine Law.of_walk (plainFor_of_name (by decide +kernel)) (by decide +kernel) (by decide +kernel) (by decide) (fun _ _ h => by rw [h.1]; rfl) (fun _ U U' hal hh h => ⟨h.1, h.2.1.mv hal hh, h.2.2.1.mv hal hh, h.2.2.2⟩) (fun r U U' V V' h1 hal h2 h => ⟨h.1, h.2.elim fun B' q => ⟨B', q.1.mv h1 h2, q.2⟩⟩) ?_
  intro p e s m args below meth c s₁ X0 hexec hbytes hml hret hlk hnm hown hh0 W hP
  obtain ⟨rfl, hA, hB, hne, l1, l2, hp⟩ := hP
  have c1 : Steps p.tables e below (s₁.setTop (entryFrame m #[.ref b, .int (Int32.ofNat o), .ref d, .int (Int32.ofNat q), .int (Int32.ofNat len)] 7)) (s₁.setTop (mkF m 0 #[.val (.ref b), .val (.int (Int32.ofNat o)), .val (.ref d), .val (.int (Int32.ofNat q)), .val (.int (Int32.ofNat len)), .unset, .unset] [])) := entry rfl
  have hA0 := hA.1.mv X0.warmed.alike hh0
  have hB0 := hB.mv X0.warmed.alike hh0
  have a31 := hA.1.2.2.2
  have c2 : Steps p.tables e below (s₁.setTop (entryFrame m #[.ref b, .int (Int32.ofNat o), .ref d, .int (Int32.ofNat q), .int (Int32.ofNat len)] 7)) (s₁.setTop (mkF m 3 #[.val (.ref b), .val (.int (Int32.ofNat o)), .val (.ref d), .val (.int (Int32.ofNat q)), .val (.int (Int32.ofNat len)), .val (.int 0), .unset] [])) := c1.trans (by
    refine iconstV X0.here hexec rfl 0 (hb hbytes d0) (by decide) ?_
    refine XS.istore X0.here hexec rfl (hb hbytes d1) rfl rfl ?_
    exact Steps.refl _)
  have loop : ∀ (r i : Nat), i + r = len → ∀ (z : Slot), (z = .unset ∨ ∃ w, z = .val w ∧ w.category = 1) → ∀ (Tl : State) (Bk : Cell), Stand p l e { frames := 0, locals := 0, cells := 0, slots := 0 } s m #[.ref b, .int (Int32.ofNat o), .ref d, .int (Int32.ofNat q), .int (Int32.ofNat len)] below meth c Tl ([] ++ copyLocs d q i) 0 0 → Put d Bk s₁ Tl → Laid B Bk q (q + i) (fun j => Value.int (lo8 (cv A (o + (j - q))))) →
      Steps p.tables e below (s₁.setTop (entryFrame m #[.ref b, .int (Int32.ofNat o), .ref d, .int (Int32.ofNat q), .int (Int32.ofNat len)] 7)) (Tl.setTop (mkF m 3 #[.val (.ref b), .val (.int (Int32.ofNat (o + i))), .val (.ref d), .val (.int (Int32.ofNat (q + i))), .val (.int (Int32.ofNat len)), .val (.int (Int32.ofNat i)), z] [])) → ∃ (T' : State) (B' : Cell) (z' : Slot), Stand p l e { frames := 0, locals := 0, cells := 0, slots := 0 } s m #[.ref b, .int (Int32.ofNat o), .ref d, .int (Int32.ofNat q), .int (Int32.ofNat len)] below meth c T' ([] ++ copyLocs d q len) 0 0 ∧ Put d B' s₁ T' ∧ Laid B B' q (q + len) (fun j => Value.int (lo8 (cv A (o + (j - q))))) ∧
      Steps p.tables e below (s₁.setTop (entryFrame m #[.ref b, .int (Int32.ofNat o), .ref d, .int (Int32.ofNat q), .int (Int32.ofNat len)] 7)) (T'.setTop (mkF m 3 #[.val (.ref b), .val (.int (Int32.ofNat (o + len))), .val (.ref d), .val (.int (Int32.ofNat (q + len))), .val (.int (Int32.ofNat len)), .val (.int (Int32.ofNat len)), z'] [])) := by
    intro r
    induction r with
    | zero =>
      intro i hi z hz Tl Bk Xl pl fl cl
      have hil : i = len := by omega
      rw [hil] at Xl fl cl
      exact ⟨Tl, Bk, z, Xl, pl, fl, cl⟩
    | succ r ih =>
      intro i hi z hz Tl Bk Xl pl fl cl
      have all := X0.warmed.alike.symm.trans Xl.warmed.alike
      have hAl := hA0.keep all (pl.other hne hA0.1)
      have hBk := hB0.like all pl.1 fl.1 fl.2.1 fl.2.2.1
      have hlt : q + i < Bk.slots.size := by rw [fl.2.2.1]; omega
      have c3 : Steps p.tables e below (s₁.setTop (entryFrame m #[.ref b, .int (Int32.ofNat o), .ref d, .int (Int32.ofNat q), .int (Int32.ofNat len)] 7)) (Tl.setTop (mkF m 12 #[.val (.ref b), .val (.int (Int32.ofNat (o + i))), .val (.ref d), .val (.int (Int32.ofNat (q + i))), .val (.int (Int32.ofNat len)), .val (.int (Int32.ofNat i)), z] [.int (Int32.ofNat (o + i)), .ref b])) := cl.trans (by
        refine XS.iload Xl.here hexec rfl (hb hbytes d3) rfl ?_
        refine XS.iload Xl.here hexec rfl (hb hbytes d5) rfl ?_
        refine XS.icmpNo Xl.here hexec rfl (hb hbytes d7) rfl (ii_ge_f (lt32 (by omega) (by omega))) ?_
        refine XS.aloadN Xl.here hexec rfl (hb hbytes d10) rfl rfl ?_
        refine XS.iloadN Xl.here hexec rfl (hb hbytes d11) rfl ?_
        exact Steps.refl _)
      have c4 : Steps p.tables e below (s₁.setTop (entryFrame m #[.ref b, .int (Int32.ofNat o), .ref d, .int (Int32.ofNat q), .int (Int32.ofNat len)] 7)) (Tl.setTop (mkF m 13 #[.val (.ref b), .val (.int (Int32.ofNat (o + i))), .val (.ref d), .val (.int (Int32.ofNat (q + i))), .val (.int (Int32.ofNat len)), .val (.int (Int32.ofNat i)), z] [.int (cv A (o + i))])) := c3.trans (by
        refine Xl.aget hexec hAl rfl (hA.get (i := o + i) (by omega)) rfl rfl (hb hbytes d12) ?_
        exact Steps.refl _)
      have c5 : Steps p.tables e below (s₁.setTop (entryFrame m #[.ref b, .int (Int32.ofNat o), .ref d, .int (Int32.ofNat q), .int (Int32.ofNat len)] 7)) (Tl.setTop (mkF m 15 #[.val (.ref b), .val (.int (Int32.ofNat (o + i))), .val (.ref d), .val (.int (Int32.ofNat (q + i))), .val (.int (Int32.ofNat len)), .val (.int (Int32.ofNat i)), .val (.int (cv A (o + i)))] [])) := c4.trans (by
        refine XS.istoreS Xl.here hexec rfl (hb hbytes d13) rfl rfl hz ?_
        exact Steps.refl _)
      have c6 : Steps p.tables e below (s₁.setTop (entryFrame m #[.ref b, .int (Int32.ofNat o), .ref d, .int (Int32.ofNat q), .int (Int32.ofNat len)] 7)) (Tl.setTop (mkF m 31 #[.val (.ref b), .val (.int (Int32.ofNat (o + i))), .val (.ref d), .val (.int (Int32.ofNat (q + i))), .val (.int (Int32.ofNat len)), .val (.int (Int32.ofNat i)), .val (.int (cv A (o + i)))] [.int (lo8 (cv A (o + i))), .int (Int32.ofNat (q + i)), .ref d])) := c5.trans (by
        refine XS.iload Xl.here hexec rfl (hb hbytes d15) rfl ?_
        refine sipushV Xl.here hexec rfl 255 (hb hbytes d17) (by decide) ?_
        refine XS.icmpYes Xl.here hexec rfl (pc0 := 20) rfl (hb hbytes d20) rfl (ii_le_t (hp i (by omega))) (by decide) rfl ?_
        refine XS.aloadN Xl.here hexec rfl (hb hbytes d26) rfl rfl ?_
        refine XS.iloadN Xl.here hexec rfl (hb hbytes d27) rfl ?_
        refine XS.iload Xl.here hexec rfl (hb hbytes d28) rfl ?_
        refine i2b Xl.here hexec rfl (hb hbytes d30) rfl ?_
        exact Steps.refl _)
      obtain ⟨T7, X7, p7, st7⟩ := Xl.aput hexec hBk rfl hlt rfl (fits_lo8 (cv A (o + i))) (g := (mkF m 31 #[.val (.ref b), .val (.int (Int32.ofNat (o + i))), .val (.ref d), .val (.int (Int32.ofNat (q + i))), .val (.int (Int32.ofNat len)), .val (.int (Int32.ofNat i)), .val (.int (cv A (o + i)))] [.int (lo8 (cv A (o + i))), .int (Int32.ofNat (q + i)), .ref d])) rfl (rest := []) rfl (hb hbytes d31)
      have c8 : Steps p.tables e below (s₁.setTop (entryFrame m #[.ref b, .int (Int32.ofNat o), .ref d, .int (Int32.ofNat q), .int (Int32.ofNat len)] 7)) (T7.setTop (mkF m 32 #[.val (.ref b), .val (.int (Int32.ofNat (o + i))), .val (.ref d), .val (.int (Int32.ofNat (q + i))), .val (.int (Int32.ofNat len)), .val (.int (Int32.ofNat i)), .val (.int (cv A (o + i)))] [])) := c6.trans (st7 _ (Steps.refl _))
      have c9 : Steps p.tables e below (s₁.setTop (entryFrame m #[.ref b, .int (Int32.ofNat o), .ref d, .int (Int32.ofNat q), .int (Int32.ofNat len)] 7)) (T7.setTop (mkF m 3 #[.val (.ref b), .val (.int (Int32.ofNat (o + i) + 1)), .val (.ref d), .val (.int (Int32.ofNat (q + i) + 1)), .val (.int (Int32.ofNat len)), .val (.int (Int32.ofNat i + 1)), .val (.int (cv A (o + i)))] [])) := c8.trans (by
        refine iincV X7.here hexec rfl 1 (hb hbytes d32) (by decide) rfl rfl ?_
        refine iincV X7.here hexec rfl 1 (hb hbytes d35) (by decide) rfl rfl ?_
        refine iincV X7.here hexec rfl 1 (hb hbytes d38) (by decide) rfl rfl ?_
        refine XS.goto X7.here hexec rfl (pc0 := 41) rfl (hb hbytes d41) (by decide) rfl ?_
        exact Steps.refl _)
      have c10 : Steps p.tables e below (s₁.setTop (entryFrame m #[.ref b, .int (Int32.ofNat o), .ref d, .int (Int32.ofNat q), .int (Int32.ofNat len)] 7)) (T7.setTop (mkF m 3 #[.val (.ref b), .val (.int (Int32.ofNat (o + (i + 1)))), .val (.ref d), .val (.int (Int32.ofNat (q + (i + 1)))), .val (.int (Int32.ofNat len)), .val (.int (Int32.ofNat (i + 1))), .val (.int (cv A (o + i)))] [])) := by
        have := c9
        rw [succ32, succ32, succ32] at this
        exact this
      exact ih (i + 1) (by omega) _ (Or.inr ⟨_, rfl, rfl⟩) T7 _ (by rw [copyLocs_step, ← List.append_assoc]; exact X7) (pl.trans p7) (fl.step (by omega) hlt (by simp)) c10
  obtain ⟨T9, B9, z9, X9, p9, f9, g9⟩ := loop len 0 (by omega) .unset (Or.inl rfl) s₁ B (by simpa [copyLocs] using X0) ⟨hB0.1, fun _ _ => rfl, rfl⟩ (Laid.zero _ _ _) c2
  have c11 : Steps p.tables e below (s₁.setTop (entryFrame m #[.ref b, .int (Int32.ofNat o), .ref d, .int (Int32.ofNat q), .int (Int32.ofNat len)] 7)) (T9.setTop (mkF m 46 #[.val (.ref b), .val (.int (Int32.ofNat (o + len))), .val (.ref d), .val (.int (Int32.ofNat (q + len))), .val (.int (Int32.ofNat len)), .val (.int (Int32.ofNat len)), z9] [.int (Int32.ofNat len)])) := g9.trans (by
    refine XS.iload X9.here hexec rfl (hb hbytes d3) rfl ?_
    refine XS.iload X9.here hexec rfl (hb hbytes d5) rfl ?_
    refine XS.icmpYes X9.here hexec rfl (pc0 := 7) rfl (hb hbytes d7) rfl (ii_ge_t (nlt32 (by omega) (Nat.le_refl _))) (by decide) rfl ?_
    refine XS.iload X9.here hexec rfl (hb hbytes d44) rfl ?_
    exact Steps.refl _)
  exact ⟨T9, some (.int (Int32.ofNat len)), _, _, _, X9, by simp, rfl, rfl, (fun h => by cases h), ⟨rfl, B9, p9.from hh0, f9⟩, fun fs hl => c11.trans (X9.ireturnOut hexec hret rfl (Or.inl rfl) (hb hbytes d46) hl)⟩
end Cmp5
namespace Cmp3
def yN : MethodName := ⟨"java/lang/StringUTF16", "compress", "([CII)[B"⟩
abbrev yB : ByteArray := jdk_52_method_16_code
theorem d0 : decode yB 0 = .ok (.iload_n 2, 1) := by decide +kernel
theorem d1 : decode yB 1 = .ok (.newarray .byte, 2) := by decide +kernel
theorem d3 : decode yB 3 = .ok (.astore_n 3, 1) := by decide +kernel
theorem d4 : decode yB 4 = .ok (.aload_n 0, 1) := by decide +kernel
theorem d5 : decode yB 5 = .ok (.iload_n 1, 1) := by decide +kernel
theorem d6 : decode yB 6 = .ok (.aload_n 3, 1) := by decide +kernel
theorem d7 : decode yB 7 = .ok (.iconst 0, 1) := by decide +kernel
theorem d8 : decode yB 8 = .ok (.iload_n 2, 1) := by decide +kernel
theorem d9 : decode yB 9 = .ok (.invokestatic 115, 3) := by decide +kernel
theorem d12 : decode yB 12 = .ok (.istore 4, 2) := by decide +kernel
theorem d14 : decode yB 14 = .ok (.iload 4, 2) := by decide +kernel
theorem d16 : decode yB 16 = .ok (.iload_n 2, 1) := by decide +kernel
theorem d17 : decode yB 17 = .ok (.if_icmp (.eq) 40, 3) := by decide +kernel
theorem d57 : decode yB 57 = .ok (.aload_n 3, 1) := by decide +kernel
theorem d58 : decode yB 58 = .ok (.areturn, 1) := by decide +kernel
def site : List Cond := [.arrayClass .byte, Cmp5.tab] ++ staticW U16 115 Cmp5.yN
def tab : Cond := tabOf yN yB 6 (some (.array .byte)) site
def P (b : Addr) (A : Cell) (o len : Nat) (args : Array Value) (s : State) : Prop := args = #[.ref b, .int (Int32.ofNat o), .int (Int32.ofNat len)] ∧ Ch b A s ∧ o + len ≤ A.slots.size ∧ len ≤ 536870912 ∧ ∀ i, i < len → ¬ 255 < cv A (o + i)
def E (b : Addr) (A : Cell) (o len : Nat) (r : Option Value) (s u : State) : Prop := NewArr .byte "[B" len (fun j => .int (lo8 (cv A (o + j)))) r s u ∧ u.heap.size = s.heap.size + 1
/-- no char of the range above 255: a new byte[] of their low bytes -/
theorem law (l : Launch) (b : Addr) (A : Cell) (o len : Nat) : Law l yN 3 3 1 18 yB 6 (some (.array .byte)) site (P b A o len) (E b A o len) [] 1 len := by
  refine Law.of_walk (plainFor_of_name (by decide +kernel)) (by decide +kernel) (by decide +kernel) (by decide) (fun _ _ h => by rw [h.1]; rfl) (fun _ U U' hal hh h => ⟨h.1, h.2.1.mv hal hh, h.2.2⟩) (fun r U U' V V' h1 hal h2 h => ⟨NewArr.mv r U U' V V' h1 hal h2 h.1, by rw [h1, h2]; exact h.2⟩) ?_
  intro p e s m args below meth c s₁ X0 hexec hbytes hml hret hlk hnm hown hh0 W hP
  obtain ⟨rfl, hA, l1, l2, hp⟩ := hP
  have a31 := hA.1.2.2.2
  have c1 : Steps p.tables e below (s₁.setTop (entryFrame m #[.ref b, .int (Int32.ofNat o), .int (Int32.ofNat len)] 6)) (s₁.setTop (mkF m 0 #[.val (.ref b), .val (.int (Int32.ofNat o)), .val (.int (Int32.ofNat len)), .unset, .unset, .unset] [])) := entry rfl
  have c2 : Steps p.tables e below (s₁.setTop (entryFrame m #[.ref b, .int (Int32.ofNat o), .int (Int32.ofNat len)] 6)) (s₁.setTop (mkF m 1 #[.val (.ref b), .val (.int (Int32.ofNat o)), .val (.int (Int32.ofNat len)), .unset, .unset, .unset] [.int (Int32.ofNat len)])) := c1.trans (by
    refine XS.iloadN X0.here hexec rfl (hb hbytes d0) rfl ?_
    exact Steps.refl _)
  obtain ⟨T3, B3, X3, ba3, bs3, bv3, bh3, bf3, st3⟩ := X0.anew hexec (atype := .byte) (wk W (.arrayClass .byte)) rfl (by show len * 1 ≤ _; omega) (by omega) (g := (mkF m 1 #[.val (.ref b), .val (.int (Int32.ofNat o)), .val (.int (Int32.ofNat len)), .unset, .unset, .unset] [.int (Int32.ofNat len)])) rfl (hb hbytes d1) (rest := []) rfl (Nat.le_refl _) (by show 0 + len ≤ len; omega)
  rw [hh0] at ba3 st3
  have kp3 : XT.Kept s T3 := (XT.Kept.of_eq hh0).push bh3
  have hA3 := hA.keep X3.warmed.alike (kp3 _ _ hA.1.1)
  have hne : b ≠ s.heap.size := hA.1.ne
  have c4 : Steps p.tables e below (s₁.setTop (entryFrame m #[.ref b, .int (Int32.ofNat o), .int (Int32.ofNat len)] 6)) (T3.setTop (mkF m 3 #[.val (.ref b), .val (.int (Int32.ofNat o)), .val (.int (Int32.ofNat len)), .unset, .unset, .unset] [.ref s.heap.size])) := c2.trans (st3 _ (Steps.refl _))
  have c5 : Steps p.tables e below (s₁.setTop (entryFrame m #[.ref b, .int (Int32.ofNat o), .int (Int32.ofNat len)] 6)) (T3.setTop (mkF m 9 #[.val (.ref b), .val (.int (Int32.ofNat o)), .val (.int (Int32.ofNat len)), .val (.ref s.heap.size), .unset, .unset] [.int (Int32.ofNat len), .int 0, .ref s.heap.size, .int (Int32.ofNat o), .ref b])) := c4.trans (by
    refine XS.astoreN X3.here hexec rfl (hb hbytes d3) rfl rfl rfl ?_
    refine XS.aloadN X3.here hexec rfl (hb hbytes d4) rfl rfl ?_
    refine XS.iloadN X3.here hexec rfl (hb hbytes d5) rfl ?_
    refine XS.aloadN X3.here hexec rfl (hb hbytes d6) rfl rfl ?_
    refine iconstV X3.here hexec rfl 0 (hb hbytes d7) (by decide) ?_
    refine XS.iloadN X3.here hexec rfl (hb hbytes d8) rfl ?_
    exact Steps.refl _)
  obtain ⟨v6, T6, X6, E6, g6⟩ := X3.callS hexec (Cmp5.law l b A s.heap.size B3 o 0 len) hown (wks W (staticW U16 115 Cmp5.yN)) (wk W Cmp5.tab) (W := 0) (Nat.le_of_ble_eq_true rfl) (Nat.le_of_ble_eq_true rfl) (Nat.le_refl _) (by show 0 + len + 0 ≤ len; omega) (g := (mkF m 9 #[.val (.ref b), .val (.int (Int32.ofNat o)), .val (.int (Int32.ofNat len)), .val (.ref s.heap.size), .unset, .unset] [.int (Int32.ofNat len), .int (Int32.ofNat 0), .ref s.heap.size, .int (Int32.ofNat o), .ref b])) rfl (by rw [hml]; rfl) c5 (argsL := [.ref b, .int (Int32.ofNat o), .ref s.heap.size, .int (Int32.ofNat 0), .int (Int32.ofNat len)]) (rest := []) rfl rfl (by show 2 * 0 + 0 ≤ _; decide) (hb hbytes d9) (⟨rfl, hA3, ba3, hne, l1, by rw [bs3]; simp, hp⟩)
  obtain ⟨rfl, B6, p6, f6⟩ := E6
  have c7 : Steps p.tables e below (s₁.setTop (entryFrame m #[.ref b, .int (Int32.ofNat o), .int (Int32.ofNat len)] 6)) (T6.setTop (mkF m 12 #[.val (.ref b), .val (.int (Int32.ofNat o)), .val (.int (Int32.ofNat len)), .val (.ref s.heap.size), .unset, .unset] [.int (Int32.ofNat len)])) := g6
  have c8 : Steps p.tables e below (s₁.setTop (entryFrame m #[.ref b, .int (Int32.ofNat o), .int (Int32.ofNat len)] 6)) (T6.setTop (mkF m 58 #[.val (.ref b), .val (.int (Int32.ofNat o)), .val (.int (Int32.ofNat len)), .val (.ref s.heap.size), .val (.int (Int32.ofNat len)), .unset] [.ref s.heap.size])) := c7.trans (by
    refine XS.istore X6.here hexec rfl (hb hbytes d12) rfl rfl ?_
    refine XS.iload X6.here hexec rfl (hb hbytes d14) rfl ?_
    refine XS.iloadN X6.here hexec rfl (hb hbytes d16) rfl ?_
    refine XS.icmpYes X6.here hexec rfl (pc0 := 17) rfl (hb hbytes d17) rfl (ii_eq_t rfl) (by decide) rfl ?_
    refine XS.aloadN X6.here hexec rfl (hb hbytes d57) rfl rfl ?_
    exact Steps.refl _)
  have X8 := X6.wide (L' := []) (cells' := 1) (slots' := len) (fun x hx hlt => by
    simp only [List.nil_append, copyLocs, List.mem_map, List.mem_range] at hx
    obtain ⟨i, -, rfl⟩ := hx
    exact absurd hlt (Nat.lt_irrefl _)) (Nat.le_refl _) (by omega)
  exact ⟨T6, some (.ref s.heap.size), _, _, _, X8, rfl, rfl, rfl, (fun h => by cases h), ⟨⟨rfl, B6, ba3.like (X3.warmed.alike.symm.trans X6.warmed.alike) p6.1 f6.1 f6.2.1 f6.2.2.1, f6.2.1.trans bv3, by rw [X6.warmed.alike.findClass, f6.1]; exact bf3, by rw [f6.2.2.1, bs3]; simp, fun j hj => by rw [f6.2.2.2 j, if_pos (by omega)]; rfl, kp3.put p6 (Nat.le_refl _)⟩, by rw [p6.2.2, bh3, hh0]; simp⟩, fun fs hl => c8.trans (X8.areturnOut hexec rfl hret rfl (hb hbytes d58) hl)⟩
end Cmp3
namespace CodL
def yN : MethodName := ⟨"java/lang/StringUTF16", "coderFromArrayLen", "([BI)B"⟩
abbrev yB : ByteArray := jdk_52_method_15_code
theorem d0 : decode yB 0 = .ok (.iload_n 1, 1) := by decide +kernel
theorem d1 : decode yB 1 = .ok (.aload_n 0, 1) := by decide +kernel
theorem d2 : decode yB 2 = .ok (.arraylength, 1) := by decide +kernel
theorem d3 : decode yB 3 = .ok (.isub, 1) := by decide +kernel
theorem d4 : decode yB 4 = .ok (.bipush 31, 2) := by decide +kernel
theorem d6 : decode yB 6 = .ok (.iushr, 1) := by decide +kernel
theorem d7 : decode yB 7 = .ok (.i2b, 1) := by decide +kernel
theorem d8 : decode yB 8 = .ok (.ireturn, 1) := by decide +kernel
def site : List Cond := []
def tab : Cond := tabOf yN yB 2 (some .byte) site
def P (d : Addr) (B : Cell) (args : Array Value) (s : State) : Prop := args = #[.ref d, .int (Int32.ofNat B.slots.size)] ∧ Arr .byte d B s
def E (r : Option Value) (s u : State) : Prop := XT.PureE (some (.int 0)) r s u
/-- an array as long as the number of chars: LATIN1 -/
theorem law (l : Launch) (d : Addr) (B : Cell) : Law l yN 2 2 0 0 yB 2 (some .byte) site (P d B) E [] 0 0 := by
  refine Law.of_walk (plainFor_of_name (by decide +kernel)) (by decide +kernel) (by decide +kernel) (by decide) (fun _ _ h => by rw [h.1]; rfl) (fun _ U U' hal hh h => ⟨h.1, h.2.mv hal hh⟩) (fun r U U' V V' h1 hal h2 h => XT.PureE.mv r U U' V V' h1 hal h2 h) ?_
  intro p e s m args below meth c s₁ X0 hexec hbytes hml hret hlk hnm hown hh0 W hP
  obtain ⟨rfl, hB⟩ := hP
  have hB0 := hB.mv X0.warmed.alike hh0
  have c1 : Steps p.tables e below (s₁.setTop (entryFrame m #[.ref d, .int (Int32.ofNat B.slots.size)] 2)) (s₁.setTop (mkF m 0 #[.val (.ref d), .val (.int (Int32.ofNat B.slots.size))] [])) := entry rfl
  have c2 : Steps p.tables e below (s₁.setTop (entryFrame m #[.ref d, .int (Int32.ofNat B.slots.size)] 2)) (s₁.setTop (mkF m 2 #[.val (.ref d), .val (.int (Int32.ofNat B.slots.size))] [.ref d, .int (Int32.ofNat B.slots.size)])) := c1.trans (by
    refine XS.iloadN X0.here hexec rfl (hb hbytes d0) rfl ?_
    refine XS.aloadN X0.here hexec rfl (hb hbytes d1) rfl rfl ?_
    exact Steps.refl _)
  have c3 : Steps p.tables e below (s₁.setTop (entryFrame m #[.ref d, .int (Int32.ofNat B.slots.size)] 2)) (s₁.setTop (mkF m 8 #[.val (.ref d), .val (.int (Int32.ofNat B.slots.size))] [.int (lo8 (ushr (Int32.ofNat B.slots.size - Int32.ofNat B.slots.size) 31))])) := c2.trans (by
    refine X0.alen hexec hB0 rfl rfl (hb hbytes d2) ?_
    refine XS.isub X0.here hexec rfl (hb hbytes d3) rfl ?_
    refine bipushV X0.here hexec rfl 31 (hb hbytes d4) (by decide) ?_
    refine iushr X0.here hexec rfl (hb hbytes d6) rfl ?_
    refine i2b X0.here hexec rfl (hb hbytes d7) rfl ?_
    exact Steps.refl _)
  have e0 : lo8 (ushr (Int32.ofNat B.slots.size - Int32.ofNat B.slots.size) 31) = 0 := by rw [Int32.sub_self]; decide
  rw [e0] at c3
  exact ⟨s₁, some (.int 0), _, _, _, X0, rfl, rfl, rfl, (fun h => by cases h), ⟨rfl, hh0⟩, fun fs hl => c3.trans (X0.ireturnOut hexec hret rfl (Or.inr (Or.inr (Or.inl rfl))) (hb hbytes d8) hl)⟩
end CodL
/-- the String at a is Latin-1 over a new byte[] (the heap's one new cell): the low bytes of the len chars of A from o on; every cell but a is kept -/
def Got (a : Addr) (D : Cell) (fV fC : Field) (A : Cell) (o len : Nat) (r : Option Value) (s u : State) : Prop := r = none ∧ ∃ D' V : Cell, Blank "java/lang/String" a D' u ∧ Same D D' [fV.slot, fC.slot] ∧ D'.slots[fV.slot]? = some (.ref s.heap.size) ∧ D'.slots[fC.slot]? = some (.int 0) ∧ Arr .byte s.heap.size V u ∧ V.vm = .none ∧ u.vm.findClass "[B" = some V.cls ∧ V.slots.size = len ∧ (∀ j, j < len → V.slots[j]? = some (.int (lo8 (cv A (o + j))))) ∧ (∀ (y : Addr) (c : Cell), y ≠ a → s.heap[y]? = some c → u.heap[y]? = some c) ∧ u.heap.size = s.heap.size + 1
theorem Got.mv {a : Addr} {D A : Cell} {fV fC : Field} {o len : Nat} : ∀ r (U U' V V' : State), U'.heap = U.heap → V.vm.Alike V'.vm → V'.heap = V.heap → Got a D fV fC A o len r U V → Got a D fV fC A o len r U' V' :=
  fun r U U' V V' h1 hal h2 ⟨e0, D', X, a1, a2, a3, a4, a5, a6, a7, a8, a9, a10, a11⟩ => ⟨e0, D', X, a1.mv hal h2, a2, by rw [h1]; exact a3, a4, by rw [h1]; exact a5.mv hal h2, a6, by rw [hal.findClass]; exact a7, a8, a9, by rw [h1, h2]; exact a10, by rw [h1, h2]; exact a11⟩
namespace New4
def yN : MethodName := ⟨"java/lang/String", "<init>", "([CIILjava/lang/Void;)V"⟩
abbrev yB : ByteArray := jdk_42_method_149_code
theorem d0 : decode yB 0 = .ok (.aload_n 0, 1) := by decide +kernel
theorem d1 : decode yB 1 = .ok (.invokespecial 1, 3) := by decide +kernel
theorem d4 : decode yB 4 = .ok (.iload_n 3, 1) := by decide +kernel
theorem d5 : decode yB 5 = .ok (.ifCond (.ne) 22, 3) := by decide +kernel
theorem d27 : decode yB 27 = .ok (.getstatic 38, 3) := by decide +kernel
theorem d30 : decode yB 30 = .ok (.ifCond (.eq) 28, 3) := by decide +kernel
theorem d33 : decode yB 33 = .ok (.aload_n 1, 1) := by decide +kernel
theorem d34 : decode yB 34 = .ok (.iload_n 2, 1) := by decide +kernel
theorem d35 : decode yB 35 = .ok (.iload_n 3, 1) := by decide +kernel
theorem d36 : decode yB 36 = .ok (.invokestatic 177, 3) := by decide +kernel
theorem d39 : decode yB 39 = .ok (.astore 5, 2) := by decide +kernel
theorem d41 : decode yB 41 = .ok (.aload_n 0, 1) := by decide +kernel
theorem d42 : decode yB 42 = .ok (.aload 5, 2) := by decide +kernel
theorem d44 : decode yB 44 = .ok (.iload_n 3, 1) := by decide +kernel
theorem d45 : decode yB 45 = .ok (.invokestatic 47, 3) := by decide +kernel
theorem d48 : decode yB 48 = .ok (.putfield 15, 3) := by decide +kernel
theorem d51 : decode yB 51 = .ok (.aload_n 0, 1) := by decide +kernel
theorem d52 : decode yB 52 = .ok (.aload 5, 2) := by decide +kernel
theorem d54 : decode yB 54 = .ok (.putfield 9, 3) := by decide +kernel
theorem d57 : decode yB 57 = .ok (.return_, 1) := by decide +kernel
def site : List Cond := [.fieldLink "java/lang/String" 38 "java/lang/String" "COMPACT_STRINGS" "Z", Cmp3.tab, CodL.tab, .laysFinal "java/lang/String" "java/lang/String" "value" "[B", .fieldLink "java/lang/String" 9 "java/lang/String" "value" "[B", .laysFinal "java/lang/String" "java/lang/String" "coder" "B", .fieldLink "java/lang/String" 15 "java/lang/String" "coder" "B"] ++ objW "java/lang/String" 1 ++ staticW "java/lang/String" 177 Cmp3.yN ++ staticW "java/lang/String" 47 CodL.yN
def tab : Cond := tabOf yN yB 6 none site
def P (a : Addr) (D : Cell) (fV fC : Field) (b : Addr) (A : Cell) (z : Int32) (o len : Nat) (args : Array Value) (s : State) : Prop := args = #[.ref a, .ref b, .int (Int32.ofNat o), .int (Int32.ofNat len), .null] ∧ Blank "java/lang/String" a D s ∧ Found "java/lang/String" "value" "[B" fV s ∧ Found "java/lang/String" "coder" "B" fC s ∧ Ch b A s ∧ StaticIs s "java/lang/String" "COMPACT_STRINGS" "Z" (.int z) ∧ ¬ z = 0 ∧ 0 < len ∧ o + len ≤ A.slots.size ∧ len ≤ 536870912 ∧ ∀ i, i < len → ¬ 255 < cv A (o + i)
def E (a : Addr) (D : Cell) (fV fC : Field) (A : Cell) (o len : Nat) (r : Option Value) (s u : State) : Prop := Got a D fV fC A o len r s u
/-- len > 0, no char of the range above 255: a Latin-1 String of their low bytes -/
theorem law (l : Launch) (a : Addr) (D : Cell) (fV fC : Field) (b : Addr) (A : Cell) (z : Int32) (o len : Nat) : Law l yN 5 4 2 35 yB 6 none site (P a D fV fC b A z o len) (E a D fV fC A o len) [⟨a, fC.slot⟩, ⟨a, fV.slot⟩] 1 len := by
  refine Law.of_walk (plainFor_of_name (by decide +kernel)) (by decide +kernel) (by decide +kernel) (by decide) (fun _ _ h => by rw [h.1]; rfl) (fun _ U U' hal hh h => ⟨h.1, h.2.1.mv hal hh, h.2.2.1.al hal, h.2.2.2.1.al hal, h.2.2.2.2.1.mv hal hh, h.2.2.2.2.2.1.there hal hh, h.2.2.2.2.2.2⟩) (fun r U U' V V' h1 hal h2 h => Got.mv r U U' V V' h1 hal h2 h) ?_
  intro p e s m args below meth c s₁ X0 hexec hbytes hml hret hlk hnm hown hh0 W hP
  obtain ⟨rfl, hB, f1, f2, hA, s1, hz, l0, l1, l2, hp⟩ := hP
  have a31 := hA.1.2.2.2
  have c1 : Steps p.tables e below (s₁.setTop (entryFrame m #[.ref a, .ref b, .int (Int32.ofNat o), .int (Int32.ofNat len), .null] 6)) (s₁.setTop (mkF m 0 #[.val (.ref a), .val (.ref b), .val (.int (Int32.ofNat o)), .val (.int (Int32.ofNat len)), .val .null, .unset] [])) := entry rfl
  have c2 : Steps p.tables e below (s₁.setTop (entryFrame m #[.ref a, .ref b, .int (Int32.ofNat o), .int (Int32.ofNat len), .null] 6)) (s₁.setTop (mkF m 1 #[.val (.ref a), .val (.ref b), .val (.int (Int32.ofNat o)), .val (.int (Int32.ofNat len)), .val .null, .unset] [.ref a])) := c1.trans (by
    refine XS.aloadN X0.here hexec rfl (hb hbytes d0) rfl rfl ?_
    exact Steps.refl _)
  obtain ⟨T3, X3, q3, st3⟩ := X0.oinit hexec hown (wks W (objW "java/lang/String" 1)) (g := (mkF m 1 #[.val (.ref a), .val (.ref b), .val (.int (Int32.ofNat o)), .val (.int (Int32.ofNat len)), .val .null, .unset] [.ref a])) rfl (by rw [hml]; rfl) (rest := []) rfl (hb hbytes d1) (W := 0) (by show 2 * 0 + 0 ≤ _; decide) (Nat.le_of_ble_eq_true rfl) (Nat.le_of_ble_eq_true rfl)
  have hh3 := q3.trans hh0
  have c4 : Steps p.tables e below (s₁.setTop (entryFrame m #[.ref a, .ref b, .int (Int32.ofNat o), .int (Int32.ofNat len), .null] 6)) (T3.setTop (mkF m 27 #[.val (.ref a), .val (.ref b), .val (.int (Int32.ofNat o)), .val (.int (Int32.ofNat len)), .val .null, .unset] [])) := (c2.trans (st3 _ (Steps.refl _))).trans (by
    refine XS.iloadN X3.here hexec rfl (hb hbytes d4) rfl ?_
    refine XS.ifYes X3.here hexec rfl (pc0 := 5) rfl (hb hbytes d5) rfl (i0_ne_t (nz32 (by omega) l0)) (by decide) rfl ?_
    exact Steps.refl _)
  obtain ⟨T5, X5, q5, st5⟩ := X3.sget hexec hown (wk W (.fieldLink "java/lang/String" 38 "java/lang/String" "COMPACT_STRINGS" "Z")) s1 (fun _ _ h => by rw [hh3]; exact h) (g := (mkF m 27 #[.val (.ref a), .val (.ref b), .val (.int (Int32.ofNat o)), .val (.int (Int32.ofNat len)), .val .null, .unset] [])) rfl (hb hbytes d27)
  have hh5 := q5.trans hh3
  have c6 : Steps p.tables e below (s₁.setTop (entryFrame m #[.ref a, .ref b, .int (Int32.ofNat o), .int (Int32.ofNat len), .null] 6)) (T5.setTop (mkF m 30 #[.val (.ref a), .val (.ref b), .val (.int (Int32.ofNat o)), .val (.int (Int32.ofNat len)), .val .null, .unset] [.int z])) := c4.trans (st5 _ (Steps.refl _))
  have c7 : Steps p.tables e below (s₁.setTop (entryFrame m #[.ref a, .ref b, .int (Int32.ofNat o), .int (Int32.ofNat len), .null] 6)) (T5.setTop (mkF m 36 #[.val (.ref a), .val (.ref b), .val (.int (Int32.ofNat o)), .val (.int (Int32.ofNat len)), .val .null, .unset] [.int (Int32.ofNat len), .int (Int32.ofNat o), .ref b])) := c6.trans (by
    refine XS.ifNo X5.here hexec rfl (hb hbytes d30) rfl (i0_eq_f hz) ?_
    refine XS.aloadN X5.here hexec rfl (hb hbytes d33) rfl rfl ?_
    refine XS.iloadN X5.here hexec rfl (hb hbytes d34) rfl ?_
    refine XS.iloadN X5.here hexec rfl (hb hbytes d35) rfl ?_
    exact Steps.refl _)
  obtain ⟨v8, T8, X8, E8, g8⟩ := X5.callS hexec (Cmp3.law l b A o len) hown (wks W (staticW "java/lang/String" 177 Cmp3.yN)) (wk W Cmp3.tab) (W := 0) (Nat.le_of_ble_eq_true rfl) (Nat.le_of_ble_eq_true rfl) (Nat.le_refl _) (by show 0 + len ≤ len; omega) (g := (mkF m 36 #[.val (.ref a), .val (.ref b), .val (.int (Int32.ofNat o)), .val (.int (Int32.ofNat len)), .val .null, .unset] [.int (Int32.ofNat len), .int (Int32.ofNat o), .ref b])) rfl (by rw [hml]; rfl) c7 (argsL := [.ref b, .int (Int32.ofNat o), .int (Int32.ofNat len)]) (rest := []) rfl rfl (by show 2 * 0 + 0 ≤ _; decide) (hb hbytes d36) (⟨rfl, hA.mv X5.warmed.alike hh5, l1, l2, hp⟩)
  obtain ⟨e8, z8⟩ := E8
  obtain ⟨rfl, N, n1, n2, n3, n4, n5, n6⟩ := NewArr.mv _ T5 s _ _ hh5.symm (Vm.Alike.refl _) rfl e8
  rw [hh5] at z8
  have hB1 := hB.keep X8.warmed.alike (n6 _ _ hB.1)
  have hne : s.heap.size ≠ a := (Nat.ne_of_lt (Array.getElem?_eq_some_iff.mp hB.1).1).symm
  have c9 : Steps p.tables e below (s₁.setTop (entryFrame m #[.ref a, .ref b, .int (Int32.ofNat o), .int (Int32.ofNat len), .null] 6)) (T8.setTop (mkF m 39 #[.val (.ref a), .val (.ref b), .val (.int (Int32.ofNat o)), .val (.int (Int32.ofNat len)), .val .null, .unset] [.ref s.heap.size])) := g8
  have c10 : Steps p.tables e below (s₁.setTop (entryFrame m #[.ref a, .ref b, .int (Int32.ofNat o), .int (Int32.ofNat len), .null] 6)) (T8.setTop (mkF m 45 #[.val (.ref a), .val (.ref b), .val (.int (Int32.ofNat o)), .val (.int (Int32.ofNat len)), .val .null, .val (.ref s.heap.size)] [.int (Int32.ofNat N.slots.size), .ref s.heap.size, .ref a])) := by
    have hc : Steps p.tables e below (s₁.setTop (entryFrame m #[.ref a, .ref b, .int (Int32.ofNat o), .int (Int32.ofNat len), .null] 6)) (T8.setTop (mkF m 45 #[.val (.ref a), .val (.ref b), .val (.int (Int32.ofNat o)), .val (.int (Int32.ofNat len)), .val .null, .val (.ref s.heap.size)] [.int (Int32.ofNat len), .ref s.heap.size, .ref a])) := c9.trans (by
      refine XS.astore X8.here hexec rfl (hb hbytes d39) rfl rfl rfl ?_
      refine XS.aloadN X8.here hexec rfl (hb hbytes d41) rfl rfl ?_
      refine XS.aload X8.here hexec rfl (hb hbytes d42) rfl rfl ?_
      refine XS.iloadN X8.here hexec rfl (hb hbytes d44) rfl ?_
      exact Steps.refl _)
    rw [n4]; exact hc
  obtain ⟨v11, T11, X11, E11, g11⟩ := X8.callS hexec (CodL.law l s.heap.size N) hown (wks W (staticW "java/lang/String" 47 CodL.yN)) (wk W CodL.tab) (W := 1) (Nat.le_of_ble_eq_true rfl) (Nat.le_of_ble_eq_true rfl) (Nat.le_refl _) (by show 0 + len + 0 ≤ len; omega) (g := (mkF m 45 #[.val (.ref a), .val (.ref b), .val (.int (Int32.ofNat o)), .val (.int (Int32.ofNat len)), .val .null, .val (.ref s.heap.size)] [.int (Int32.ofNat N.slots.size), .ref s.heap.size, .ref a])) rfl (by rw [hml]; rfl) c10 (argsL := [.ref s.heap.size, .int (Int32.ofNat N.slots.size)]) (rest := [.ref a]) rfl rfl (by show 2 * 0 + (1 + 0) ≤ _; decide) (hb hbytes d45) (⟨rfl, n1⟩)
  obtain ⟨rfl, q11⟩ := E11
  have hB11 := hB1.mv (X8.warmed.alike.symm.trans X11.warmed.alike) q11
  have c12 : Steps p.tables e below (s₁.setTop (entryFrame m #[.ref a, .ref b, .int (Int32.ofNat o), .int (Int32.ofNat len), .null] 6)) (T11.setTop (mkF m 48 #[.val (.ref a), .val (.ref b), .val (.int (Int32.ofNat o)), .val (.int (Int32.ofNat len)), .val .null, .val (.ref s.heap.size)] [.int 0, .ref a])) := g11
  obtain ⟨T13, X13, p13, bl13, sl13, st13⟩ := X11.finit hexec hown (wk W (.fieldLink "java/lang/String" 15 "java/lang/String" "coder" "B")) (Or.inr ⟨_, (wk W (.laysFinal "java/lang/String" "java/lang/String" "coder" "B"))⟩) (Or.inl ⟨rfl, hnm⟩) f2 (Or.inl rfl) hB11 (t := .byte) (by decide +kernel) rfl (g := (mkF m 48 #[.val (.ref a), .val (.ref b), .val (.int (Int32.ofNat o)), .val (.int (Int32.ofNat len)), .val .null, .val (.ref s.heap.size)] [.int 0, .ref a])) rfl (rest := []) rfl (hb hbytes d48)
  have c14 : Steps p.tables e below (s₁.setTop (entryFrame m #[.ref a, .ref b, .int (Int32.ofNat o), .int (Int32.ofNat len), .null] 6)) (T13.setTop (mkF m 54 #[.val (.ref a), .val (.ref b), .val (.int (Int32.ofNat o)), .val (.int (Int32.ofNat len)), .val .null, .val (.ref s.heap.size)] [.ref s.heap.size, .ref a])) := (c12.trans (st13 _ (Steps.refl _))).trans (by
    refine XS.aloadN X13.here hexec rfl (hb hbytes d51) rfl rfl ?_
    refine XS.aload X13.here hexec rfl (hb hbytes d52) rfl rfl ?_
    exact Steps.refl _)
  obtain ⟨T15, X15, p15, bl15, sl15, st15⟩ := X13.finit hexec hown (wk W (.fieldLink "java/lang/String" 9 "java/lang/String" "value" "[B")) (Or.inr ⟨_, (wk W (.laysFinal "java/lang/String" "java/lang/String" "value" "[B"))⟩) (Or.inl ⟨rfl, hnm⟩) f1 (Or.inl rfl) bl13 (t := (.array .byte)) (by decide +kernel) rfl (g := (mkF m 54 #[.val (.ref a), .val (.ref b), .val (.int (Int32.ofNat o)), .val (.int (Int32.ofNat len)), .val .null, .val (.ref s.heap.size)] [.ref s.heap.size, .ref a])) rfl (rest := []) rfl (hb hbytes d54)
  have c16 : Steps p.tables e below (s₁.setTop (entryFrame m #[.ref a, .ref b, .int (Int32.ofNat o), .int (Int32.ofNat len), .null] 6)) (T15.setTop (mkF m 57 #[.val (.ref a), .val (.ref b), .val (.int (Int32.ofNat o)), .val (.int (Int32.ofNat len)), .val .null, .val (.ref s.heap.size)] [])) := c14.trans (st15 _ (Steps.refl _))
  have ap := apart (Or.inr ⟨_, (wk W (.laysFinal "java/lang/String" "java/lang/String" "value" "[B"))⟩) (Or.inr ⟨_, (wk W (.laysFinal "java/lang/String" "java/lang/String" "coder" "B"))⟩) f1 f2 (t₁ := .array .byte) (t₂ := .byte) (by decide +kernel) (by decide +kernel) (by decide)
  have al := X8.warmed.alike.symm.trans X15.warmed.alike
  have n7 : T11.heap[s.heap.size]? = some N := by rw [q11]; exact n1.1
  exact ⟨T15, none, _, _, _, X15, by simp, rfl, by omega, (fun _ => rfl), ⟨rfl, _, N, bl15, ((Same.refl D _).set _ (by simp)).set _ (by simp), sl15, (Cell.slots_setSlot_ne _ ap).trans sl13, n1.keep al (p15.other hne (p13.other hne n7)), n2, by rw [al.findClass]; exact n3, n4, n5, fun y c h1 h2 => p15.other h1 (p13.other h1 (by rw [q11]; exact n6 y c h2)), by rw [p15.2.2, p13.2.2, q11]; exact z8⟩, fun fs hl => c16.trans (X15.returnOut hexec hret (hb hbytes d57) hl)⟩
end New4
namespace New1
def yN : MethodName := ⟨"java/lang/String", "<init>", "([C)V"⟩
abbrev yB : ByteArray := jdk_42_method_3_code
theorem d0 : decode yB 0 = .ok (.aload_n 0, 1) := by decide +kernel
theorem d1 : decode yB 1 = .ok (.aload_n 1, 1) := by decide +kernel
theorem d2 : decode yB 2 = .ok (.iconst 0, 1) := by decide +kernel
theorem d3 : decode yB 3 = .ok (.aload_n 1, 1) := by decide +kernel
theorem d4 : decode yB 4 = .ok (.arraylength, 1) := by decide +kernel
theorem d5 : decode yB 5 = .ok (.aconst_null, 1) := by decide +kernel
theorem d6 : decode yB 6 = .ok (.invokespecial 27, 3) := by decide +kernel
theorem d9 : decode yB 9 = .ok (.return_, 1) := by decide +kernel
def site : List Cond := [New4.tab] ++ initW "java/lang/String" 27 New4.yN
def tab : Cond := tabOf yN yB 2 none site
def P (a : Addr) (D : Cell) (fV fC : Field) (b : Addr) (A : Cell) (z : Int32) (args : Array Value) (s : State) : Prop := args = #[.ref a, .ref b] ∧ Blank "java/lang/String" a D s ∧ Found "java/lang/String" "value" "[B" fV s ∧ Found "java/lang/String" "coder" "B" fC s ∧ Ch b A s ∧ StaticIs s "java/lang/String" "COMPACT_STRINGS" "Z" (.int z) ∧ ¬ z = 0 ∧ 0 < A.slots.size ∧ A.slots.size ≤ 536870912 ∧ ∀ i, i < A.slots.size → ¬ 255 < cv A i
def E (a : Addr) (D : Cell) (fV fC : Field) (A : Cell) (r : Option Value) (s u : State) : Prop := Got a D fV fC A 0 A.slots.size r s u
/-- new String(chars), not empty, no char above 255: a Latin-1 String of their low bytes -/
theorem law (l : Launch) (a : Addr) (D : Cell) (fV fC : Field) (b : Addr) (A : Cell) (z : Int32) : Law l yN 2 1 3 52 yB 2 none site (P a D fV fC b A z) (E a D fV fC A) [⟨a, fC.slot⟩, ⟨a, fV.slot⟩] 1 A.slots.size := by
  refine Law.of_walk (plainFor_of_name (by decide +kernel)) (by decide +kernel) (by decide +kernel) (by decide) (fun _ _ h => by rw [h.1]; rfl) (fun _ U U' hal hh h => ⟨h.1, h.2.1.mv hal hh, h.2.2.1.al hal, h.2.2.2.1.al hal, h.2.2.2.2.1.mv hal hh, h.2.2.2.2.2.1.there hal hh, h.2.2.2.2.2.2⟩) (fun r U U' V V' h1 hal h2 h => Got.mv r U U' V V' h1 hal h2 h) ?_
  intro p e s m args below meth c s₁ X0 hexec hbytes hml hret hlk hnm hown hh0 W hP
  obtain ⟨rfl, hB, f1, f2, hA, s1, hz, l0, l2, hp⟩ := hP
  have c1 : Steps p.tables e below (s₁.setTop (entryFrame m #[.ref a, .ref b] 2)) (s₁.setTop (mkF m 0 #[.val (.ref a), .val (.ref b)] [])) := entry rfl
  have c2 : Steps p.tables e below (s₁.setTop (entryFrame m #[.ref a, .ref b] 2)) (s₁.setTop (mkF m 6 #[.val (.ref a), .val (.ref b)] [.null, .int (Int32.ofNat A.slots.size), .int 0, .ref b, .ref a])) := c1.trans (by
    refine XS.aloadN X0.here hexec rfl (hb hbytes d0) rfl rfl ?_
    refine XS.aloadN X0.here hexec rfl (hb hbytes d1) rfl rfl ?_
    refine iconstV X0.here hexec rfl 0 (hb hbytes d2) (by decide) ?_
    refine XS.aloadN X0.here hexec rfl (hb hbytes d3) rfl rfl ?_
    refine X0.alen hexec (hA.1.mv X0.warmed.alike hh0) rfl rfl (hb hbytes d4) ?_
    refine XS.aconstNull X0.here hexec rfl (hb hbytes d5) ?_
    exact Steps.refl _)
  obtain ⟨v3, T3, X3, E3, g3⟩ := X0.callN hexec (New4.law l a D fV fC b A z 0 A.slots.size) rfl hown (wks W (initW "java/lang/String" 27 New4.yN)) (W New4.tab (by simp only [site, List.mem_cons, List.mem_append, true_or, or_true])) (W := 0) (Nat.le_of_ble_eq_true rfl) (Nat.le_of_ble_eq_true rfl) (Nat.le_refl _) (by show 0 + A.slots.size ≤ A.slots.size; omega) (g := (mkF m 6 #[.val (.ref a), .val (.ref b)] [.null, .int (Int32.ofNat A.slots.size), .int (Int32.ofNat 0), .ref b, .ref a])) rfl (by rw [hml]; rfl) c2 (argsL := [.ref b, .int (Int32.ofNat 0), .int (Int32.ofNat A.slots.size), .null]) (rest := []) rfl rfl (by show 2 * 0 + 0 ≤ _; decide) (hb hbytes d6) (⟨rfl, hB.mv X0.warmed.alike hh0, f1.al X0.warmed.alike, f2.al X0.warmed.alike, hA.mv X0.warmed.alike hh0, s1.there X0.warmed.alike hh0, hz, l0, by omega, l2, fun i hi => by rw [Nat.zero_add]; exact hp i hi⟩)
  have e0 := Got.mv _ s₁ s _ _ hh0.symm (Vm.Alike.refl _) rfl E3
  obtain rfl := e0.1
  have c4 : Steps p.tables e below (s₁.setTop (entryFrame m #[.ref a, .ref b] 2)) (T3.setTop (mkF m 9 #[.val (.ref a), .val (.ref b)] [])) := g3
  exact ⟨T3, none, _, _, _, X3, by simp, rfl, by omega, (fun _ => rfl), e0, fun fs hl => c4.trans (X3.returnOut hexec hret (hb hbytes d9) hl)⟩
theorem pays {l : Launch} {R : Room} {p : Program} {e : Env} {below : List Frame} {s : State} {sargs : Array Value} {len W : Nat} (a : Addr) (D : Cell) (fV fC : Field) (b : Addr) (A : Cell) (z : Int32) (htab : tab.before sargs s = true) (hfr : 4 ≤ R.frames) (hlo : W + 65 ≤ R.locals) :
    Back l R p e below s sargs yN len W (fun A₁ a₁ => A₁.cells + 1 ≤ R.cells ∧ A₁.slots + A.slots.size ≤ R.slots ∧ P a D fV fC b A z a₁ A₁.U) (fun A₁ _ v₁ B₁ => E a D fV fC A v₁ A₁.U B₁.U ∧ B₁.locs = A₁.locs ++ [⟨a, fC.slot⟩, ⟨a, fV.slot⟩] ∧ B₁.cells = A₁.cells + 1 ∧ B₁.slots = A₁.slots + A.slots.size) :=
  (law l a D fV fC b A z).pays htab hfr (by omega)
end New1
/-- the byte, read back as charAt reads it, is the char -/
theorem lo8_mask {x : Int32} (h0 : ¬ x < 0) (h1 : ¬ 255 < x) : lo8 x &&& 255 = x := by
  have t : ∀ k : Fin 256, lo8 (Int32.ofNat k.val) &&& 255 = Int32.ofNat k.val := by decide +kernel
  rw [Int32.lt_iff_toInt_lt] at h0 h1
  have e0 : (0 : Int32).toInt = 0 := rfl
  have e1 : (255 : Int32).toInt = 255 := rfl
  obtain ⟨k, hk⟩ : ∃ k : Nat, x.toInt = k := ⟨x.toInt.toNat, by omega⟩
  have hx : x = Int32.ofNat k := Int32.toInt_inj.mp (by rw [hk, Int32.toInt_ofNat_small (by omega)])
  rw [hx]
  exact t ⟨k, by omega⟩
end StrChars
namespace StrChars.Road
open Jvm Sem ClassFile Op Lib Jvm.Stand Jvm.Free Jvm.Free.XT
open Jvm.Lib.Cold (StaticIs)
abbrev ST : String := "java/lang/String"
/-- every table word that New1's law asks, flat -/
abbrev words : List Jvm.Cond := [.code New1.yN New1.yB 2 none, .initialized ST, .methodLink ST 27 New4.yN, .instanceMethod New4.yN,
  .code New4.yN New4.yB 6 none, .fieldLink ST 38 ST "COMPACT_STRINGS" "Z", .laysFinal ST ST "value" "[B", .fieldLink ST 9 ST "value" "[B", .laysFinal ST ST "coder" "B", .fieldLink ST 15 ST "coder" "B",
  .methodLink ST 1 Lib.objectInit, .instanceMethod Lib.objectInit, .code Lib.objectInit ⟨#[0xb1]⟩ 1 none, .methodLink ST 177 Cmp3.yN, .static Cmp3.yN, .methodLink ST 47 CodL.yN, .static CodL.yN,
  .code Cmp3.yN Cmp3.yB 6 (some (.array .byte)), .initialized U16, .arrayClass .byte, .methodLink U16 115 Cmp5.yN, .static Cmp5.yN, .code Cmp5.yN Cmp5.yB 7 (some .int), .code CodL.yN CodL.yB 2 (some .byte)]
theorem tab_of {a : Array Value} {s : State} (h : ∀ w ∈ words, w.before a s = true) : New1.tab.before a s = true := by
  have h5 : Cmp5.tab.before a s = true := unparts (wk h (.code Cmp5.yN Cmp5.yB 7 (some .int))) (wks h (.initialized Cmp5.yN.cls :: Cmp5.site))
  have hc : CodL.tab.before a s = true := unparts (wk h (.code CodL.yN CodL.yB 2 (some .byte))) (wks h (.initialized CodL.yN.cls :: CodL.site))
  have q5 : ∀ w ∈ Cmp5.tab :: words, w.before a s = true := fun w hw => (List.mem_cons.mp hw).elim (fun e => e ▸ h5) (h w)
  have h3 : Cmp3.tab.before a s = true := unparts (wk q5 (.code Cmp3.yN Cmp3.yB 6 (some (.array .byte)))) (wks q5 (.initialized Cmp3.yN.cls :: Cmp3.site))
  have q3 : ∀ w ∈ Cmp3.tab :: CodL.tab :: words, w.before a s = true := fun w hw => (List.mem_cons.mp hw).elim (fun e => e ▸ h3) fun hw => (List.mem_cons.mp hw).elim (fun e => e ▸ hc) (h w)
  have h4 : New4.tab.before a s = true := unparts (wk q3 (.code New4.yN New4.yB 6 none)) (wks q3 (.initialized New4.yN.cls :: New4.site))
  have q4 : ∀ w ∈ New4.tab :: words, w.before a s = true := fun w hw => (List.mem_cons.mp hw).elim (fun e => e ▸ h4) (h w)
  exact unparts (wk q4 (.code New1.yN New1.yB 2 none)) (wks q4 (.initialized New1.yN.cls :: New1.site))
/-- the words ride from the start Z to the walk's own state -/
theorem moved {Z s : State} {a0 args : Array Value} (hZ : Z.Warmed39 s.vm) (hw : ∀ d ∈ words, d.before a0 Z = true) : ∀ d ∈ words, d.before args s = true := fun d hd => by
  have q := hw d hd
  have t : ∀ d ∈ words, d = .arrayClass .byte ∨ (d.onTables && d.keepsFace) = true := by decide +kernel
  rcases t d hd with rfl | t
  · exact RoadKit.mvA hZ q
  · exact RoadKit.mv hZ q t
/-- WHAT COMES BACK, over the tables of the start Z: h the heap at the call, h' behind it -/
def Q (Z : State) (x : Addr) (A : Cell) (h : Heap) (v : Option Value) (h' : Heap) (L : List Loc) : Prop := v = none ∧ (∀ y ∈ L, y.base = x) ∧ RoadKit.Keep h h' [x] ∧ h'.size = h.size + 1 ∧ RoadKit.Exa Z h' x ST ∧ RoadKit.Fld Z h' x ST "value" "[B" (.ref h.size) ∧ RoadKit.Fld Z h' x ST "coder" "B" (.int 0) ∧
  (∃ V : Cell, RoadKit.Arr Z h' h.size V .byte ∧ V.vm = .none ∧ Z.vm.findClass "[B" = some V.cls ∧ V.slots.size = A.slots.size ∧ ∀ j, j < A.slots.size → V.slots[j]? = some (.int (lo8 (cv A j)))) ∧
  ∀ (O n d : String) (w : Value), RoadKit.Fld Z h x O n d w → RoadKit.slotOf Z O n d ≠ RoadKit.slotOf Z ST "value" "[B" → RoadKit.slotOf Z O n d ≠ RoadKit.slotOf Z ST "coder" "B" → RoadKit.Fld Z h' x O n d w
/-- **new String(chars) AT A CALL, IN THE ROAD'S FORM**: for specialBack behind newO: x the fresh String, b the char[] with the cell A -/
theorem back {p : Program} {l : Launch} {e : Env} {R : Room} {s : State} {args : Array Value} {below : List Frame} {len W : Nat} {Z : State} {a0 : Array Value} {h : Heap} (hZ : Z.Warmed39 s.vm) (hw : ∀ d ∈ words, d.before a0 Z = true) {kI : Nat} (wi : (Jvm.Cond.instantiable ST kI).before a0 Z = true)
    {x b : Addr} {A : Cell} {z : Int32} {v0 c0 : Value} (E : RoadKit.Exa Z h x ST) (V : RoadKit.Fld Z h x ST "value" "[B" v0) (C : RoadKit.Fld Z h x ST "coder" "B" c0) (K : RoadKit.Arr Z h b A .char) (hty : Typed .char A) (S : RoadKit.Sta Z h ST "COMPACT_STRINGS" "Z" (.int z)) (hz : ¬ z = 0)
    (l0 : 0 < A.slots.size) (l2 : A.slots.size ≤ 536870912) (hp : ∀ i, i < A.slots.size → ¬ 255 < cv A i) (hfr : 4 ≤ R.frames) (hlo : W + 65 ≤ R.locals) :
    Back l R p e below s args New1.yN len W (fun P a => a = #[.ref x, .ref b] ∧ P.U.heap = h ∧ P.cells + 1 ≤ R.cells ∧ P.slots + A.slots.size ≤ R.slots)
      (fun P _ v B => ∃ L, Q Z x A h v B.U.heap L ∧ B.locs = P.locs ++ L ∧ B.cells = P.cells + 1 ∧ B.slots = P.slots + A.slots.size) := by
  intro m meth c P g ig mk a X hg hsize hdg hW hn hp'
  obtain ⟨rfl, rfl, r1, r2⟩ := hp'
  have al : Z.vm.Alike P.U.vm := hZ.alike.trans X.warmed.alike
  obtain ⟨D, cfV, kV, iV, fV, hD, gV, stV, knV, obV, asV, slV⟩ := id V
  obtain ⟨D', cfC, kC, iC, fC, hD', gC, stC, -, -, asC, slC⟩ := id C
  cases hD.symm.trans hD'
  obtain ⟨D2, kD, e1, e2, e3, e4, e5⟩ := id E
  cases hD.symm.trans e1
  obtain ⟨c2, k2, i1, i2, i3, -⟩ := Cond.instantiable_spec wi
  cases e2.symm.trans i1
  cases e3.symm.trans i2
  obtain ⟨kU, u1, u2⟩ := al.2.2 _ _ e3
  have hB : Blank ST x D P.U := ⟨hD, ⟨knV, fun q hq => by rw [hq] at obV; cases obV⟩, by rw [al.findClass]; exact e2, kU, u1, by rw [u2]; exact i3, by rw [u2]; exact e5 i3⟩
  have F1 : Found ST "value" "[B" fV P.U := ⟨SBG.found_only al ⟨cfV, kV, iV, gV⟩, stV⟩
  have F2 : Found ST "coder" "B" fC P.U := ⟨SBG.found_only al ⟨cfC, kC, iC, gC⟩, stC⟩
  have hA : Ch b A P.U := ⟨⟨K.1, State.isArrayOf_alike al K.2.1, K.2.2, by omega⟩, hty⟩
  have hS : StaticIs P.U ST "COMPACT_STRINGS" "Z" (.int z) := by
    obtain ⟨cfS, iS, kS, fS, st, cS, t1, t2, t3, t4, t5, t6, t7⟩ := S
    exact StaticIs.there (s := { Z with heap := P.U.heap }) ⟨cfS, iS, kS, fS, st, cS, t1, t2, t3, t4, t5, (fun q => by rw [q] at t6; cases t6), t7⟩ al rfl
  obtain ⟨v, B, X', ⟨⟨hv, E', V', q1, q2, q3, q4, q5, q6, q7, q8, q9, q10, q11⟩, hl, hc, hs⟩, st⟩ := New1.pays x D fV fC b A z (tab_of (moved hZ hw)) hfr hlo m meth c P g ig mk _ X hg hsize hdg hW hn ⟨r1, r2, rfl, hB, F1, F2, hA, hS, hz, l0, l2, hp⟩
  have al' : Z.vm.Alike B.U.vm := hZ.alike.trans X'.warmed.alike
  have hsz : E'.slots.size = D.slots.size := by
    obtain ⟨-, -, -, kB, w1, w2, w3⟩ := q1
    obtain ⟨kB', y1, y2⟩ := al'.2.2 _ _ e3
    rw [q2.2.1] at w1
    cases w1.symm.trans y1
    rw [w3, e5 i3, y2]
  refine ⟨v, B, X', ⟨_, ⟨hv, ?_, ⟨by omega, fun y cy hy hn' => q10 y cy (by simpa using hn') hy, fun y cy hy => ?_⟩, q11, ⟨E', _, q1.1, by rw [q2.2.1]; exact e2, by rw [q2.2.1]; exact e3, by rw [q2.1]; exact obV, fun _ => by rw [hsz]; exact e5 i3⟩,
    ⟨E', cfV, kV, iV, fV, q1.1, gV, stV, by rw [q2.1]; exact knV, by rw [q2.1]; exact obV, by rw [q2.2.1]; exact asV, q3⟩, ⟨E', cfC, kC, iC, fC, q1.1, gC, stC, by rw [q2.1]; exact knV, by rw [q2.1]; exact obV, by rw [q2.2.1]; exact asC, q4⟩,
    ⟨V', ⟨q5.1, State.isArrayOf_alike al'.symm q5.2.1, q5.2.2.1⟩, q6, by rw [← al'.findClass]; exact q7, q8, fun j hj => by have := q9 j hj; rwa [Nat.zero_add] at this⟩, fun O n d w F n1 n2 => ?_⟩, hl, hc, hs⟩, st⟩
  · intro y hy
    simp only [List.mem_cons, List.not_mem_nil, or_false] at hy
    rcases hy with rfl | rfl <;> rfl
  · by_cases q : y = x
    · subst q
      cases hD.symm.trans hy
      exact ⟨E', q1.1, q2.2.1, q2.1, hsz⟩
    · exact ⟨cy, q10 y cy q hy, rfl, rfl, rfl⟩
  · obtain ⟨D3, cf, k, i, f, g1, g2, g3, g4, g5, g6, g7⟩ := F
    cases hD.symm.trans g1
    simp only [RoadKit.slotOf, g2, gV, gC, Option.map_some, Option.getD_some] at n1 n2
    exact ⟨E', cf, k, i, f, q1.1, g2, g3, by rw [q2.1]; exact g4, by rw [q2.1]; exact g5, by rw [q2.2.1]; exact g6, by rw [q2.2.2 f.slot (by simp [n1, n2])]; exact g7⟩
end StrChars.Road
namespace StrChars.Road
open Jvm Sem ClassFile Op Lib Jvm.Stand Jvm.Free Jvm.Free.XT
/-- WHAT COMES BACK, the byte[] as a list of values -/
def QA (Z : State) (x : Addr) (zn : Int32) (cs : List Int32) (h : Heap) (v : Option Value) (h' : Heap) (L : List Loc) : Prop := v = none ∧ (∀ y ∈ L, y.base = x) ∧ RoadKit.Keep h h' [x] ∧ h'.size = h.size + 1 ∧ RoadKit.Exa Z h' x ST ∧ RoadKit.Fld Z h' x ST "value" "[B" (.ref h.size) ∧ RoadKit.Fld Z h' x ST "coder" "B" (.int 0) ∧
  (∃ kb, Z.vm.findClass "[B" = some kb ∧ RoadKit.Arv Z h' h.size kb .byte zn (cs.map fun c => .int (lo8 c)) (.int 0)) ∧
  ∀ (O n d : String) (w : Value), RoadKit.Fld Z h x O n d w → RoadKit.slotOf Z O n d ≠ RoadKit.slotOf Z ST "value" "[B" → RoadKit.slotOf Z O n d ≠ RoadKit.slotOf Z ST "coder" "B" → RoadKit.Fld Z h' x O n d w
/-- **new String(chars) AT A CALL, THE ARRAYS AS LISTS**: the char[] at b holds cs, not empty, no char above 255 -/
theorem backArv {p : Program} {l : Launch} {e : Env} {R : Room} {s : State} {args : Array Value} {below : List Frame} {len W : Nat} {Z : State} {a0 : Array Value} {h : Heap} (hZ : Z.Warmed39 s.vm) (hw : ∀ d ∈ words, d.before a0 Z = true) {kI : Nat} (wi : (Jvm.Cond.instantiable ST kI).before a0 Z = true)
    {x b : Addr} {k : ClassId} {zn z : Int32} {cs : List Int32} {dv v0 c0 : Value} (E : RoadKit.Exa Z h x ST) (V : RoadKit.Fld Z h x ST "value" "[B" v0) (C : RoadKit.Fld Z h x ST "coder" "B" c0) (K : RoadKit.Arv Z h b k .char zn (cs.map Value.int) dv) (S : RoadKit.Sta Z h ST "COMPACT_STRINGS" "Z" (.int z)) (hz : ¬ z = 0)
    (hlen : zn.toNatClampNeg = cs.length) (h0 : 0 < cs.length) (hbig : cs.length ≤ 536870912) (hall : ∀ c ∈ cs, ¬ 255 < c) (hfr : 4 ≤ R.frames) (hlo : W + 65 ≤ R.locals) :
    Back l R p e below s args New1.yN len W (fun P a => a = #[.ref x, .ref b] ∧ P.U.heap = h ∧ P.cells + 1 ≤ R.cells ∧ P.slots + cs.length ≤ R.slots)
      (fun P _ v B => ∃ L, QA Z x zn cs h v B.U.heap L ∧ B.locs = P.locs ++ L ∧ B.cells = P.cells + 1 ∧ B.slots = P.slots + cs.length) := by
  obtain ⟨A, K1, K2, K3, K4, K5, K6⟩ := K
  have e : A.slots.size = cs.length := K3.trans hlen
  have hat : ∀ (i : Nat) (hi : i < cs.length), A.slots[i]? = some (.int cs[i]) := fun i hi => by rw [K5 i (by omega)]; simp [List.getD_eq_getElem?_getD, hi]
  have hcv : ∀ (i : Nat) (hi : i < cs.length), cv A i = cs[i] := fun i hi => by unfold cv; rw [hat i hi]
  have hty : Typed .char A := fun i v hv => by
    have hi : i < A.slots.size := (Array.getElem?_eq_some_iff.mp hv).1
    have q := K5 i hi
    rw [hv] at q
    rw [Option.some.inj q]
    exact K6 i hi
  refine Back.mono (back hZ hw wi E V C K1 hty S hz (by omega) (by omega) (fun i hi => by rw [hcv i (by omega)]; exact hall _ (List.getElem_mem _)) hfr hlo) (fun P a hp => ⟨hp.1, hp.2.1, hp.2.2.1, by rw [e]; exact hp.2.2.2⟩) (fun P a v B hp hq => ?_)
  obtain ⟨L, ⟨q1, q2, q3, q4, q5, q6, q7, ⟨V', v1, v2, v3, v4, v5⟩, q9⟩, hl, hc, hs⟩ := hq
  refine ⟨L, ⟨q1, q2, q3, q4, q5, q6, q7, ⟨V'.cls, v3, V', v1, rfl, by rw [v4, e, hlen], K4, fun i hi => ?_, fun i hi => ?_⟩, q9⟩, hl, hc, by rw [hs, e]⟩
  · have hi' : i < cs.length := by omega
    rw [v5 i (by omega), hcv i hi']; simp [List.getD_eq_getElem?_getD, hi']
  · have hi' : i < cs.length := by omega
    simp only [List.getD_eq_getElem?_getD, List.getElem?_map, List.getElem?_eq_getElem hi', Option.map_some, Option.getD_some]
    exact fits_lo8 _
end StrChars.Road
namespace StrChars
open Jvm Sem ClassFile Op Lib Jvm.Stand Jvm.Free.XT Jvm.Free.ALB Jvm.Free.JM Jvm.Free
open Jvm.Lib.Cold (StaticIs)
def hi8 (x : Int32) : Int32 := lo8 (x >>> ((8 : Int32) &&& 31))
/-- what StringUTF16.getChar makes of two bytes -/
def pairCh (u v : Int32) : Int32 := (((u &&& 255) <<< ((0 : Int32) &&& 31)) ||| ((v &&& 255) <<< ((8 : Int32) &&& 31))).toUInt32.toUInt16.toUInt32.toInt32
theorem lo8_and (x : Int32) : (lo8 x &&& 255).toBitVec.toNat = x.toBitVec.toNat % 256 := by
  have h : (lo8 x).toBitVec = (x.toBitVec.signExtend 8).signExtend 32 := by rw [lo8, Int8.toBitVec_toInt32, Int32.toBitVec_toInt8]
  rw [Int32.toBitVec_and, BitVec.toNat_and, h]
  have e : ((x.toBitVec.signExtend 8).signExtend 32).toNat % 256 = x.toBitVec.toNat % 256 := by
    rw [BitVec.toNat_signExtend]
    have hlt := x.toBitVec.isLt
    simp only [BitVec.toNat_setWidth, BitVec.toNat_signExtend]
    split <;> split <;> omega
  rw [← e]
  exact Nat.and_two_pow_sub_one_eq_mod _ 8
theorem pair_says {c : Int32} (h0 : ¬ c < 0) (h1 : ¬ 65535 < c) : pairCh (lo8 c) (hi8 c) = c := by
  rw [Int32.lt_iff_toInt_lt] at h0 h1
  have e0 : (0 : Int32).toInt = 0 := rfl
  have e1 : (65535 : Int32).toInt = 65535 := rfl
  have hc : c.toInt = c.toBitVec.toNat := by
    have := c.toBitVec.isLt
    have e : c.toInt = c.toBitVec.toInt := rfl
    rw [e] at h0 h1
    rw [e]
    rw [BitVec.toInt_eq_toNat_cond] at h0 h1 ⊢
    split at h0 <;> split <;> omega
  have hn : c.toBitVec.toNat < 65536 := by omega
  have a1 := lo8_and c
  have a2 : (hi8 c &&& 255).toBitVec.toNat = c.toBitVec.toNat / 256 := by
    rw [hi8, lo8_and]
    have e : ((8 : Int32) &&& 31) = 8 := by decide
    rw [e, Int32.toBitVec_shiftRight]
    have e2 : ((8 : Int32).toBitVec.smod 32) = 8#32 := by decide
    rw [e2, BitVec.sshiftRight_eq', BitVec.toNat_sshiftRight_of_msb_false (by rw [BitVec.msb_eq_false_iff_two_mul_lt]; omega)]
    show c.toBitVec.toNat >>> 8 % 256 = _
    rw [Nat.shiftRight_eq_div_pow]
    omega
  unfold pairCh
  apply Int32.toBitVec_inj.mp
  apply BitVec.eq_of_toNat_eq
  have f0 : ((0 : Int32) &&& 31) = 0 := by decide
  have f8 : ((8 : Int32) &&& 31) = 8 := by decide
  rw [f0, f8]
  have g : (((lo8 c &&& 255) <<< (0 : Int32)) ||| ((hi8 c &&& 255) <<< (8 : Int32))).toBitVec.toNat = c.toBitVec.toNat := by
    rw [Int32.toBitVec_or, Int32.toBitVec_shiftLeft, Int32.toBitVec_shiftLeft]
    have s0 : ((0 : Int32).toBitVec.smod 32) = 0#32 := by decide
    have s8 : ((8 : Int32).toBitVec.smod 32) = 8#32 := by decide
    rw [s0, s8, BitVec.toNat_or]
    simp only [BitVec.shiftLeft_eq', BitVec.toNat_shiftLeft, a1, a2]
    show (c.toBitVec.toNat % 256) <<< 0 % 2 ^ 32 ||| (c.toBitVec.toNat / 256) <<< 8 % 2 ^ 32 = _
    rw [Nat.shiftLeft_zero, Nat.mod_eq_of_lt (show c.toBitVec.toNat % 256 < 2 ^ 32 by omega), Nat.mod_eq_of_lt (show (c.toBitVec.toNat / 256) <<< 8 < 2 ^ 32 by rw [Nat.shiftLeft_eq]; omega), Nat.or_comm, ← Nat.shiftLeft_add_eq_or_of_lt (by omega), Nat.shiftLeft_eq]
    omega
  show BitVec.toNat (((((lo8 c &&& 255) <<< (0 : Int32)) ||| ((hi8 c &&& 255) <<< (8 : Int32))).toBitVec.setWidth 16).setWidth 32) = _
  rw [BitVec.toNat_setWidth, BitVec.toNat_setWidth, g]
  omega
end StrChars
namespace StrChars
open Jvm Sem ClassFile Op Lib Jvm.Stand Jvm.Free.XT Jvm.Free.ALB Jvm.Free.JM Jvm.Free
open Jvm.Lib.Cold (StaticIs)
/-- the array's cell V codes the n chars f 0 .. f (n - 1) by the coder cd, as the JDK does: coder 1 just where some char is above 255 -/
def Cod (cd : Int32) (n : Nat) (f : Nat → Int32) (V : Cell) : Prop := (cd = 0 ∧ V.slots.size = n ∧ ∀ j, j < n → V.slots[j]? = some (.int (lo8 (f j))) ∧ ¬ 255 < f j) ∨ (cd = 1 ∧ V.slots.size = 2 * n ∧ (∀ j, j < n → V.slots[2 * j]? = some (.int (lo8 (f j))) ∧ V.slots[2 * j + 1]? = some (.int (hi8 (f j)))) ∧ ∃ j, j < n ∧ 255 < f j)
/-- **x is a String of the n chars f 0 .. f (n - 1)**, Latin-1 or UTF-16; its array at t has the cell V -/
def Txt (x t : Addr) (V : Cell) (cd : Int32) (n : Nat) (f : Nat → Int32) (U : State) : Prop := Exact "java/lang/String" x U ∧ Has x "java/lang/String" "value" "[B" (.ref t) U ∧ Has x "java/lang/String" "coder" "B" (.int cd) U ∧ XT.Arr .byte t V U ∧ Cod cd n f V ∧ ∀ j, j < n → ¬ f j < 0 ∧ ¬ 65535 < f j
theorem Txt.mv {x t : Addr} {V : Cell} {cd : Int32} {n : Nat} {f : Nat → Int32} {U U' : State} (h : Txt x t V cd n f U) (hal : U.vm.Alike U'.vm) (hh : U'.heap = U.heap) : Txt x t V cd n f U' := ⟨h.1.mv hal hh, h.2.1.mv hal hh, h.2.2.1.mv hal hh, h.2.2.2.1.mv hal hh, h.2.2.2.2⟩
end StrChars
namespace StrChars.Road
open Jvm Sem ClassFile Op Lib Jvm.Stand Jvm.Free Jvm.Free.XT
open Jvm.Lib.Cold (StaticIs)
theorem consq {a : Array Value} {s : State} {c : Jvm.Cond} {L : List Jvm.Cond} (h0 : c.before a s = true) (h : ∀ w ∈ L, w.before a s = true) : ∀ w ∈ c :: L, w.before a s = true := fun w hw => (List.mem_cons.mp hw).elim (fun e => e ▸ h0) (h w)
/-- the bytes of the chars cs, low before high -/
def wideBytes : List Int32 → List Value
  | [] => []
  | c :: cs => .int (lo8 c) :: .int (hi8 c) :: wideBytes cs
theorem wide_lo (d : Value) : ∀ (cs : List Int32) (j : Nat), j < cs.length → (wideBytes cs).getD (2 * j) d = .int (lo8 (cs.getD j 0))
  | [], j, h => absurd h (Nat.not_lt_zero j)
  | c :: cs, 0, _ => rfl
  | c :: cs, j + 1, h => by
    have q := wide_lo d cs j (by simpa using h)
    rw [show 2 * (j + 1) = 2 * j + 1 + 1 from by omega]
    simpa [wideBytes] using q
theorem wide_hi (d : Value) : ∀ (cs : List Int32) (j : Nat), j < cs.length → (wideBytes cs).getD (2 * j + 1) d = .int (hi8 (cs.getD j 0))
  | [], j, h => absurd h (Nat.not_lt_zero j)
  | c :: cs, 0, _ => rfl
  | c :: cs, j + 1, h => by
    have q := wide_hi d cs j (by simpa using h)
    rw [show 2 * (j + 1) + 1 = 2 * j + 1 + 1 + 1 from by omega]
    simpa [wideBytes] using q
theorem low_at (d : Value) (cs : List Int32) (j : Nat) (h : j < cs.length) : (cs.map fun c => Value.int (lo8 c)).getD j d = .int (lo8 (cs.getD j 0)) := by
  simp [List.getD_eq_getElem?_getD, h]
/-- an array of N2 bytes vs codes the chars cs by the coder cd -/
def CodA (cs : List Int32) (cd N2 : Int32) (vs : List Value) : Prop := (cd = 0 ∧ N2 = Int32.ofNat cs.length ∧ vs = (cs.map fun c => Value.int (lo8 c)) ∧ ∀ c ∈ cs, ¬ 255 < c) ∨ (cd = 1 ∧ N2 = Int32.ofNat (2 * cs.length) ∧ vs = wideBytes cs ∧ ∃ c ∈ cs, 255 < c)
theorem CodA.cod {cs : List Int32} {cd N2 : Int32} {vs : List Value} {V : Cell} (h : CodA cs cd N2 vs) (hn : 2 * cs.length < 2 ^ 31) (hs : V.slots.size = N2.toNatClampNeg) (hv : RoadKit.Has V vs (.int 0)) : Cod cd cs.length (fun j => cs.getD j 0) V := by
  rcases h with ⟨rfl, rfl, rfl, h⟩ | ⟨rfl, rfl, rfl, c, hc, hw⟩
  · rw [n32 (by omega)] at hs
    exact Or.inl ⟨rfl, hs, fun j hj => ⟨by rw [hv j (by omega), low_at _ _ _ hj], by
      have e : cs.getD j 0 = cs[j] := by simp [List.getD_eq_getElem?_getD, hj]
      show ¬ 255 < cs.getD j 0
      rw [e]; exact h _ (List.getElem_mem _)⟩⟩
  · rw [n32 (by omega)] at hs
    obtain ⟨j, hj, rfl⟩ := List.getElem_of_mem hc
    exact Or.inr ⟨rfl, hs, fun j hj => ⟨by rw [hv _ (by omega), wide_lo _ _ _ hj], by rw [hv _ (by omega), wide_hi _ _ _ hj]⟩, j, hj, by
      have e : cs.getD j 0 = cs[j] := by simp [List.getD_eq_getElem?_getD, hj]
      show 255 < cs.getD j 0
      rw [e]; exact hw⟩
/-- an object of exactly java/lang/String, its two fields found: as the laws ask it -/
theorem strObj {Z U : State} {a0 : Array Value} {kI : Nat} (wi : (Jvm.Cond.instantiable ST kI).before a0 Z = true) (al : Z.vm.Alike U.vm) {x : Addr} {v0 c0 : Value} (E : RoadKit.Exa Z U.heap x ST) (V : RoadKit.Fld Z U.heap x ST "value" "[B" v0) (C : RoadKit.Fld Z U.heap x ST "coder" "B" c0) :
    ∃ (D : Cell) (fV fC : Field), Blank ST x D U ∧ Found ST "value" "[B" fV U ∧ Found ST "coder" "B" fC U ∧ D.slots[fV.slot]? = some v0 ∧ D.slots[fC.slot]? = some c0 ∧ RoadKit.slotOf Z ST "value" "[B" = fV.slot ∧ RoadKit.slotOf Z ST "coder" "B" = fC.slot := by
  obtain ⟨D, cfV, kV, iV, fV, hD, gV, stV, knV, obV, asV, slV⟩ := V
  obtain ⟨D', cfC, kC, iC, fC, hD', gC, stC, -, -, asC, slC⟩ := C
  cases hD.symm.trans hD'
  obtain ⟨D2, kD, e1, e2, e3, e4, e5⟩ := E
  cases hD.symm.trans e1
  obtain ⟨c2, k2, i1, i2, i3, -⟩ := Cond.instantiable_spec wi
  cases e2.symm.trans i1
  cases e3.symm.trans i2
  obtain ⟨kU, u1, u2⟩ := al.2.2 _ _ e3
  exact ⟨D, fV, fC, ⟨hD, ⟨knV, fun q hq => by rw [hq] at obV; cases obV⟩, by rw [al.findClass]; exact e2, kU, u1, by rw [u2]; exact i3, by rw [u2]; exact e5 i3⟩, ⟨SBG.found_only al ⟨cfV, kV, iV, gV⟩, stV⟩, ⟨SBG.found_only al ⟨cfC, kC, iC, gC⟩, stC⟩, slV, slC, by simp [RoadKit.slotOf, gV], by simp [RoadKit.slotOf, gC]⟩
theorem sta_is {Z U : State} (al : Z.vm.Alike U.vm) {C n d : String} {v : Value} (S : RoadKit.Sta Z U.heap C n d v) : StaticIs U C n d v := by
  obtain ⟨cfS, iS, kS, fS, st, cS, t1, t2, t3, t4, t5, t6, t7⟩ := S
  exact StaticIs.there (s := { Z with heap := U.heap }) ⟨cfS, iS, kS, fS, st, cS, t1, t2, t3, t4, t5, (fun q => by rw [q] at t6; cases t6), t7⟩ al rfl
end StrChars.Road
namespace StrChars
open Jvm Sem ClassFile Op Lib Jvm.Stand Jvm.Free.XT Jvm.Free.ALB Jvm.Free.JM Jvm.Free
open Jvm.Lib.Cold (StaticIs)
namespace Emp
def yN : MethodName := ⟨"java/lang/String", "isEmpty", "()Z"⟩
abbrev yB : ByteArray := jdk_42_method_55_code
theorem d0 : decode yB 0 = .ok (.aload_n 0, 1) := by decide +kernel
theorem d1 : decode yB 1 = .ok (.getfield 9, 3) := by decide +kernel
theorem d4 : decode yB 4 = .ok (.arraylength, 1) := by decide +kernel
theorem d5 : decode yB 5 = .ok (.ifCond (.ne) 7, 3) := by decide +kernel
theorem d8 : decode yB 8 = .ok (.iconst 1, 1) := by decide +kernel
theorem d9 : decode yB 9 = .ok (.goto 4, 3) := by decide +kernel
theorem d12 : decode yB 12 = .ok (.iconst 0, 1) := by decide +kernel
theorem d13 : decode yB 13 = .ok (.ireturn, 1) := by decide +kernel
def site : List Cond := [.fieldLink "java/lang/String" 9 "java/lang/String" "value" "[B"]
def tab : Cond := tabOf yN yB 1 (some .boolean) site
def P (x t : Addr) (V : Cell) (cd : Int32) (n : Nat) (f : Nat → Int32) (args : Array Value) (s : State) : Prop := args = #[.ref x] ∧ Txt x t V cd n f s
def E (n : Nat) (r : Option Value) (s u : State) : Prop := XT.PureE (some (.int (if n = 0 then 1 else 0))) r s u
/-- isEmpty() of a String of n chars -/
theorem law (l : Launch) (x t : Addr) (V : Cell) (cd : Int32) (n : Nat) (f : Nat → Int32) : Law l yN 1 0 0 0 yB 1 (some .boolean) site (P x t V cd n f) (E n) [] 0 0 := by
  refine Law.of_walk (plainFor_of_name (by decide +kernel)) (by decide +kernel) (by decide +kernel) (by decide) (fun _ _ h => by rw [h.1]; rfl) (fun _ U U' hal hh h => ⟨h.1, h.2.mv hal hh⟩) (fun r U U' V V' h1 hal h2 h => XT.PureE.mv r U U' V V' h1 hal h2 h) ?_
  intro p e s m args below meth c s₁ X0 hexec hbytes hml hret hlk hnm hown hh0 W hP
  obtain ⟨rfl, hx⟩ := hP
  have v31 := hx.2.2.2.1.2.2.2
  have c1 : Steps p.tables e below (s₁.setTop (entryFrame m #[.ref x] 1)) (s₁.setTop (mkF m 1 #[.val (.ref x)] [.ref x])) := Steps.trans (entry rfl) (by
    show Steps p.tables e below (s₁.setTop (mkF m 0 #[.val (.ref x)] [])) _
    refine XS.aloadN X0.here hexec rfl (hb hbytes d0) rfl rfl ?_
    exact Steps.refl _)
  obtain ⟨T2, X2, q2, st2⟩ := X0.hget hexec hown (wk W (.fieldLink "java/lang/String" 9 "java/lang/String" "value" "[B")) (hx.mv X0.warmed.alike hh0).2.1 (g := (mkF m 1 #[.val (.ref x)] [.ref x])) rfl (rest := []) rfl (hb hbytes d1)
  have hh2 := q2.trans hh0
  have hx2 := hx.mv X2.warmed.alike hh2
  have c3 : Steps p.tables e below (s₁.setTop (entryFrame m #[.ref x] 1)) (T2.setTop (mkF m 5 #[.val (.ref x)] [.int (Int32.ofNat V.slots.size)])) := (c1.trans (st2 _ (Steps.refl _))).trans (by
    refine X2.alen hexec hx2.2.2.2.1 rfl rfl (hb hbytes d4) ?_
    exact Steps.refl _)
  have hz : V.slots.size = 0 ↔ n = 0 := by
    rcases hx.2.2.2.2.1 with ⟨-, q, -⟩ | ⟨-, q, -⟩ <;> omega
  by_cases h0 : n = 0
  · have c4 : Steps p.tables e below (s₁.setTop (entryFrame m #[.ref x] 1)) (T2.setTop (mkF m 13 #[.val (.ref x)] [.int 1])) := c3.trans (by
      refine XS.ifNo X2.here hexec rfl (hb hbytes d5) rfl (i0_ne_f (by rw [hz.mpr h0]; rfl)) ?_
      refine iconstV X2.here hexec rfl 1 (hb hbytes d8) (by decide) ?_
      refine XS.goto X2.here hexec rfl (pc0 := 9) rfl (hb hbytes d9) (by decide) rfl ?_
      exact Steps.refl _)
    exact ⟨T2, some (.int 1), _, _, _, X2, rfl, rfl, rfl, (fun h => by cases h), ⟨by rw [if_pos h0], hh2⟩, fun fs hl => c4.trans (X2.ireturnOut hexec hret rfl (Or.inr (Or.inl rfl)) (hb hbytes d13) hl)⟩
  · have c4 : Steps p.tables e below (s₁.setTop (entryFrame m #[.ref x] 1)) (T2.setTop (mkF m 13 #[.val (.ref x)] [.int 0])) := c3.trans (by
      refine XS.ifYes X2.here hexec rfl (pc0 := 5) rfl (hb hbytes d5) rfl (i0_ne_t (nz32 v31 (by omega))) (by decide) rfl ?_
      refine iconstV X2.here hexec rfl 0 (hb hbytes d12) (by decide) ?_
      exact Steps.refl _)
    exact ⟨T2, some (.int 0), _, _, _, X2, rfl, rfl, rfl, (fun h => by cases h), ⟨by rw [if_neg h0], hh2⟩, fun fs hl => c4.trans (X2.ireturnOut hexec hret rfl (Or.inr (Or.inl rfl)) (hb hbytes d13) hl)⟩
theorem pays {l : Launch} {R : Room} {p : Program} {e : Env} {below : List Frame} {s : State} {sargs : Array Value} {len W : Nat} (x t : Addr) (V : Cell) (cd : Int32) (n : Nat) (f : Nat → Int32) (htab : tab.before sargs s = true) (hfr : 1 ≤ R.frames) (hlo : W + 12 ≤ R.locals) :
    Back l R p e below s sargs yN len W (fun A₁ a₁ => A₁.cells + 0 ≤ R.cells ∧ A₁.slots + 0 ≤ R.slots ∧ P x t V cd n f a₁ A₁.U) (fun A₁ _ v₁ B₁ => E n v₁ A₁.U B₁.U ∧ B₁.locs = A₁.locs ++ [] ∧ B₁.cells = A₁.cells + 0 ∧ B₁.slots = A₁.slots + 0) :=
  (law l x t V cd n f).pays htab hfr (by omega)
end Emp
/-- what place i of a byte[]'s cell holds -/
def yv (A : Cell) (i : Nat) : Int32 := match A.slots[i]? with | some (.int x) => x | _ => 0
theorem yv_get {a : Addr} {A : Cell} {U : State} (h : XT.Arr .byte a A U) (ht : Typed .byte A) {i : Nat} (hi : i < A.slots.size) : A.slots[i]? = some (.int (yv A i)) := by
  have e := Array.getElem?_eq_getElem hi
  have f := ht i _ e
  unfold yv; rw [e]
  generalize A.slots[i] = v at f
  cases v <;> simp [fits] at f ⊢
/-- the two arrays are equal, place for place -/
def EqC (A B : Cell) : Prop := A.slots.size = B.slots.size ∧ ∀ i, i < A.slots.size → yv A i = yv B i
/-- a boolean that says whether p -/
def Says01 (q : Prop) (r : Option Value) (s u : State) : Prop := ∃ v : Int32, r = some (.int v) ∧ u.heap = s.heap ∧ ((v = 1 ∧ q) ∨ (v = 0 ∧ ¬ q))
theorem Says01.mv {q : Prop} : ∀ r (U U' V V' : State), U'.heap = U.heap → V.vm.Alike V'.vm → V'.heap = V.heap → Says01 q r U V → Says01 q r U' V' :=
  fun r U U' V V' h1 _ h2 ⟨v, a, b, c⟩ => ⟨v, a, by rw [h1, h2]; exact b, c⟩
namespace LEq
def yN : MethodName := ⟨"java/lang/StringLatin1", "equals", "([B[B)Z"⟩
abbrev yB : ByteArray := jdk_43_method_13_code
theorem d0 : decode yB 0 = .ok (.aload_n 0, 1) := by decide +kernel
theorem d1 : decode yB 1 = .ok (.arraylength, 1) := by decide +kernel
theorem d2 : decode yB 2 = .ok (.aload_n 1, 1) := by decide +kernel
theorem d3 : decode yB 3 = .ok (.arraylength, 1) := by decide +kernel
theorem d4 : decode yB 4 = .ok (.if_icmp (.ne) 30, 3) := by decide +kernel
theorem d7 : decode yB 7 = .ok (.iconst 0, 1) := by decide +kernel
theorem d8 : decode yB 8 = .ok (.istore_n 2, 1) := by decide +kernel
theorem d9 : decode yB 9 = .ok (.iload_n 2, 1) := by decide +kernel
theorem d10 : decode yB 10 = .ok (.aload_n 0, 1) := by decide +kernel
theorem d11 : decode yB 11 = .ok (.arraylength, 1) := by decide +kernel
theorem d12 : decode yB 12 = .ok (.if_icmp (.ge) 20, 3) := by decide +kernel
theorem d15 : decode yB 15 = .ok (.aload_n 0, 1) := by decide +kernel
theorem d16 : decode yB 16 = .ok (.iload_n 2, 1) := by decide +kernel
theorem d17 : decode yB 17 = .ok (.baload, 1) := by decide +kernel
theorem d18 : decode yB 18 = .ok (.aload_n 1, 1) := by decide +kernel
theorem d19 : decode yB 19 = .ok (.iload_n 2, 1) := by decide +kernel
theorem d20 : decode yB 20 = .ok (.baload, 1) := by decide +kernel
theorem d21 : decode yB 21 = .ok (.if_icmp (.eq) 5, 3) := by decide +kernel
theorem d24 : decode yB 24 = .ok (.iconst 0, 1) := by decide +kernel
theorem d25 : decode yB 25 = .ok (.ireturn, 1) := by decide +kernel
theorem d26 : decode yB 26 = .ok (.iinc 2 1, 3) := by decide +kernel
theorem d29 : decode yB 29 = .ok (.goto (-20), 3) := by decide +kernel
theorem d32 : decode yB 32 = .ok (.iconst 1, 1) := by decide +kernel
theorem d33 : decode yB 33 = .ok (.ireturn, 1) := by decide +kernel
theorem d34 : decode yB 34 = .ok (.iconst 0, 1) := by decide +kernel
theorem d35 : decode yB 35 = .ok (.ireturn, 1) := by decide +kernel
def site : List Cond := []
def tab : Cond := tabOf yN yB 3 (some .boolean) site
def P (a : Addr) (A : Cell) (b : Addr) (B : Cell) (args : Array Value) (s : State) : Prop := args = #[.ref a, .ref b] ∧ XT.Arr .byte a A s ∧ Typed .byte A ∧ XT.Arr .byte b B s ∧ Typed .byte B
/-- whether two byte[] are equal, place for place -/
theorem law (l : Launch) (a : Addr) (A : Cell) (b : Addr) (B : Cell) : Law l yN 2 2 0 0 yB 3 (some .boolean) site (P a A b B) (Says01 (EqC A B)) [] 0 0 := by
  refine Law.of_walk (plainFor_of_name (by decide +kernel)) (by decide +kernel) (by decide +kernel) (by decide) (fun _ _ h => by rw [h.1]; rfl) (fun _ U U' hal hh h => ⟨h.1, h.2.1.mv hal hh, h.2.2.1, h.2.2.2.1.mv hal hh, h.2.2.2.2⟩) (fun r U U' V V' h1 hal h2 h => Says01.mv r U U' V V' h1 hal h2 h) ?_
  intro p e s m args below meth c s₁ X0 hexec hbytes hml hret hlk hnm hown hh0 W hP
  obtain ⟨rfl, hA, tA, hB, tB⟩ := hP
  have a31 := hA.2.2.2
  have b31 := hB.2.2.2
  have hA0 := hA.mv X0.warmed.alike hh0
  have hB0 := hB.mv X0.warmed.alike hh0
  have c1 : Steps p.tables e below (s₁.setTop (entryFrame m #[.ref a, .ref b] 3)) (s₁.setTop (mkF m 0 #[.val (.ref a), .val (.ref b), .unset] [])) := entry rfl
  have c2 : Steps p.tables e below (s₁.setTop (entryFrame m #[.ref a, .ref b] 3)) (s₁.setTop (mkF m 4 #[.val (.ref a), .val (.ref b), .unset] [.int (Int32.ofNat B.slots.size), .int (Int32.ofNat A.slots.size)])) := c1.trans (by
    refine XS.aloadN X0.here hexec rfl (hb hbytes d0) rfl rfl ?_
    refine X0.alen hexec hA0 rfl rfl (hb hbytes d1) ?_
    refine XS.aloadN X0.here hexec rfl (hb hbytes d2) rfl rfl ?_
    refine X0.alen hexec hB0 rfl rfl (hb hbytes d3) ?_
    exact Steps.refl _)
  by_cases hs : A.slots.size = B.slots.size
  · have c3 : Steps p.tables e below (s₁.setTop (entryFrame m #[.ref a, .ref b] 3)) (s₁.setTop (mkF m 9 #[.val (.ref a), .val (.ref b), .val (.int 0)] [])) := c2.trans (by
      refine XS.icmpNo X0.here hexec rfl (hb hbytes d4) rfl (ii_ne_f (by rw [hs])) ?_
      refine iconstV X0.here hexec rfl 0 (hb hbytes d7) (by decide) ?_
      refine XS.istoreN X0.here hexec rfl (hb hbytes d8) rfl rfl ?_
      exact Steps.refl _)
    have loop : ∀ (r i : Nat), i + r = A.slots.size → (∀ j, j < i → yv A j = yv B j) → Steps p.tables e below (s₁.setTop (entryFrame m #[.ref a, .ref b] 3)) (s₁.setTop (mkF m 9 #[.val (.ref a), .val (.ref b), .val (.int (Int32.ofNat i))] [])) → ∃ (pc : Nat) (Ls : Array Slot) (v : Int32), (pc = 25 ∨ pc = 33) ∧ ((v = 1 ∧ EqC A B) ∨ (v = 0 ∧ ¬ EqC A B)) ∧ Steps p.tables e below (s₁.setTop (entryFrame m #[.ref a, .ref b] 3)) (s₁.setTop (mkF m pc Ls [.int v])) := by
      intro r
      induction r with
      | zero =>
        intro i hi he cl
        exact ⟨33, _, 1, Or.inr rfl, Or.inl ⟨rfl, hs, fun j hj => he j (by omega)⟩, cl.trans (by
          refine XS.iloadN X0.here hexec rfl (hb hbytes d9) rfl ?_
          refine XS.aloadN X0.here hexec rfl (hb hbytes d10) rfl rfl ?_
          refine X0.alen hexec hA0 rfl rfl (hb hbytes d11) ?_
          refine XS.icmpYes X0.here hexec rfl (pc0 := 12) rfl (hb hbytes d12) rfl (ii_ge_t (nlt32 (by omega) (by omega))) (by decide) rfl ?_
          refine iconstV X0.here hexec rfl 1 (hb hbytes d32) (by decide) ?_
          exact Steps.refl _)⟩
      | succ r ih =>
        intro i hi he cl
        have c4 : Steps p.tables e below (s₁.setTop (entryFrame m #[.ref a, .ref b] 3)) (s₁.setTop (mkF m 21 #[.val (.ref a), .val (.ref b), .val (.int (Int32.ofNat i))] [.int (yv B i), .int (yv A i)])) := cl.trans (by
          refine XS.iloadN X0.here hexec rfl (hb hbytes d9) rfl ?_
          refine XS.aloadN X0.here hexec rfl (hb hbytes d10) rfl rfl ?_
          refine X0.alen hexec hA0 rfl rfl (hb hbytes d11) ?_
          refine XS.icmpNo X0.here hexec rfl (hb hbytes d12) rfl (ii_ge_f (lt32 (by omega) (by omega))) ?_
          refine XS.aloadN X0.here hexec rfl (hb hbytes d15) rfl rfl ?_
          refine XS.iloadN X0.here hexec rfl (hb hbytes d16) rfl ?_
          refine X0.aget hexec hA0 rfl (yv_get hA tA (i := i) (by omega)) rfl rfl (hb hbytes d17) ?_
          refine XS.aloadN X0.here hexec rfl (hb hbytes d18) rfl rfl ?_
          refine XS.iloadN X0.here hexec rfl (hb hbytes d19) rfl ?_
          refine X0.aget hexec hB0 rfl (yv_get hB tB (i := i) (by omega)) rfl rfl (hb hbytes d20) ?_
          exact Steps.refl _)
        by_cases hv : yv A i = yv B i
        · have c5 : Steps p.tables e below (s₁.setTop (entryFrame m #[.ref a, .ref b] 3)) (s₁.setTop (mkF m 9 #[.val (.ref a), .val (.ref b), .val (.int (Int32.ofNat i + 1))] [])) := c4.trans (by
            refine XS.icmpYes X0.here hexec rfl (pc0 := 21) rfl (hb hbytes d21) rfl (ii_eq_t hv) (by decide) rfl ?_
            refine iincV X0.here hexec rfl 1 (hb hbytes d26) (by decide) rfl rfl ?_
            refine XS.goto X0.here hexec rfl (pc0 := 29) rfl (hb hbytes d29) (by decide) rfl ?_
            exact Steps.refl _)
          rw [succ32] at c5
          exact ih (i + 1) (by omega) (fun j hj => by
            by_cases e : j = i
            · rw [e]; exact hv
            · exact he j (by omega)) c5
        · exact ⟨25, _, 0, Or.inl rfl, Or.inr ⟨rfl, fun q => hv (q.2 i (by omega))⟩, c4.trans (by
            refine XS.icmpNo X0.here hexec rfl (hb hbytes d21) rfl (ii_eq_f hv) ?_
            refine iconstV X0.here hexec rfl 0 (hb hbytes d24) (by decide) ?_
            exact Steps.refl _)⟩
    obtain ⟨pc, Ls, v, hpc, hv, cz⟩ := loop A.slots.size 0 (by omega) (fun j hj => absurd hj (Nat.not_lt_zero j)) c3
    have nv : narrow .boolean (.int v) = .int v := by rcases hv with ⟨rfl, -⟩ | ⟨rfl, -⟩ <;> rfl
    rcases hpc with rfl | rfl
    · exact ⟨s₁, some (.int v), _, _, _, X0, rfl, rfl, rfl, (fun h => by cases h), ⟨v, rfl, hh0, hv⟩, fun fs hl => cz.trans (X0.ireturnOut hexec hret nv (Or.inr (Or.inl rfl)) (hb hbytes d25) hl)⟩
    · exact ⟨s₁, some (.int v), _, _, _, X0, rfl, rfl, rfl, (fun h => by cases h), ⟨v, rfl, hh0, hv⟩, fun fs hl => cz.trans (X0.ireturnOut hexec hret nv (Or.inr (Or.inl rfl)) (hb hbytes d33) hl)⟩
  · have c3 : Steps p.tables e below (s₁.setTop (entryFrame m #[.ref a, .ref b] 3)) (s₁.setTop (mkF m 35 #[.val (.ref a), .val (.ref b), .unset] [.int 0])) := c2.trans (by
      refine XS.icmpYes X0.here hexec rfl (pc0 := 4) rfl (hb hbytes d4) rfl (ii_ne_t (ne32 a31 b31 hs)) (by decide) rfl ?_
      refine iconstV X0.here hexec rfl 0 (hb hbytes d34) (by decide) ?_
      exact Steps.refl _)
    exact ⟨s₁, some (.int 0), _, _, _, X0, rfl, rfl, rfl, (fun h => by cases h), ⟨0, rfl, hh0, Or.inr ⟨rfl, fun q => hs q.1⟩⟩, fun fs hl => c3.trans (X0.ireturnOut hexec hret rfl (Or.inr (Or.inl rfl)) (hb hbytes d35) hl)⟩
end LEq
theorem Cod.ty {cd : Int32} {n : Nat} {f : Nat → Int32} {V : Cell} (h : Cod cd n f V) : Typed .byte V := fun i v hv => by
  have hi : i < V.slots.size := (Array.getElem?_eq_some_iff.mp hv).1
  rcases h with ⟨-, k1, k2⟩ | ⟨-, k1, k2, -⟩
  · rw [(k2 i (by omega)).1] at hv; cases hv; exact fits_lo8 _
  · rcases Nat.mod_two_eq_zero_or_one i with e | e
    · obtain ⟨j, rfl⟩ : ∃ j, i = 2 * j := ⟨i / 2, by omega⟩
      rw [(k2 j (by omega)).1] at hv; cases hv; exact fits_lo8 _
    · obtain ⟨j, rfl⟩ : ∃ j, i = 2 * j + 1 := ⟨i / 2, by omega⟩
      rw [(k2 j (by omega)).2] at hv; cases hv; exact fits_lo8 _
/-- the same text -/
def SameT (n : Nat) (f : Nat → Int32) (k : Nat) (g : Nat → Int32) : Prop := n = k ∧ ∀ j, j < n → f j = g j
theorem lo8_inj {x y : Int32} (h0 : ¬ x < 0) (h1 : ¬ 255 < x) (k0 : ¬ y < 0) (k1 : ¬ 255 < y) (h : lo8 x = lo8 y) : x = y := by
  rw [← lo8_mask h0 h1, ← lo8_mask k0 k1, h]
/-- arrays coded by one coder are equal just where the texts are -/
theorem Cod.eqv {cd : Int32} {n k : Nat} {f g : Nat → Int32} {V V' : Cell} (h : Cod cd n f V) (h' : Cod cd k g V') (hf : ∀ j, j < n → ¬ f j < 0 ∧ ¬ 65535 < f j) (hg : ∀ j, j < k → ¬ g j < 0 ∧ ¬ 65535 < g j) : EqC V V' ↔ SameT n f k g := by
  have yvv : ∀ {W : Cell} {i : Nat} {x : Int32}, W.slots[i]? = some (.int x) → yv W i = x := fun q => by unfold yv; rw [q]
  rcases h with ⟨rfl, k1, k2⟩ | ⟨rfl, k1, k2, -⟩
  · rcases h' with ⟨-, m1, m2⟩ | ⟨e, -⟩
    · constructor
      · rintro ⟨e1, e2⟩
        refine ⟨by omega, fun j hj => ?_⟩
        have q := e2 j (by omega)
        rw [yvv (k2 j hj).1, yvv (m2 j (by omega)).1] at q
        exact lo8_inj (hf j hj).1 (k2 j hj).2 (hg j (by omega)).1 (m2 j (by omega)).2 q
      · rintro ⟨rfl, e2⟩
        refine ⟨by omega, fun j hj => ?_⟩
        rw [yvv (k2 j (by omega)).1, yvv (m2 j (by omega)).1, e2 j (by omega)]
    · exact absurd e (by decide)
  · rcases h' with ⟨e, -⟩ | ⟨-, m1, m2, -⟩
    · exact absurd e (by decide)
    · constructor
      · rintro ⟨e1, e2⟩
        refine ⟨by omega, fun j hj => ?_⟩
        have q1 := e2 (2 * j) (by omega)
        have q2 := e2 (2 * j + 1) (by omega)
        rw [yvv (k2 j hj).1, yvv (m2 j (by omega)).1] at q1
        rw [yvv (k2 j hj).2, yvv (m2 j (by omega)).2] at q2
        rw [← pair_says (hf j hj).1 (hf j hj).2, ← pair_says (hg j (by omega)).1 (hg j (by omega)).2, q1, q2]
      · rintro ⟨rfl, e2⟩
        refine ⟨by omega, fun i hi => ?_⟩
        rcases Nat.mod_two_eq_zero_or_one i with e | e
        · obtain ⟨j, rfl⟩ : ∃ j, i = 2 * j := ⟨i / 2, by omega⟩
          rw [yvv (k2 j (by omega)).1, yvv (m2 j (by omega)).1, e2 j (by omega)]
        · obtain ⟨j, rfl⟩ : ∃ j, i = 2 * j + 1 := ⟨i / 2, by omega⟩
          rw [yvv (k2 j (by omega)).2, yvv (m2 j (by omega)).2, e2 j (by omega)]
/-- two codings differ: so do the texts -/
theorem Cod.dif {cd cd' : Int32} {n k : Nat} {f g : Nat → Int32} {V V' : Cell} (h : Cod cd n f V) (h' : Cod cd' k g V') (hne : ¬ cd = cd') : ¬ SameT n f k g := by
  rintro ⟨rfl, e⟩
  rcases h with ⟨rfl, -, k2⟩ | ⟨rfl, -, -, j, hj, hw⟩
  · rcases h' with ⟨rfl, -⟩ | ⟨-, -, -, j, hj, hw⟩
    · exact hne rfl
    · exact (k2 j hj).2 (by rw [e j hj]; exact hw)
  · rcases h' with ⟨-, -, m2⟩ | ⟨rfl, -⟩
    · exact (m2 j hj).2 (by rw [← e j hj]; exact hw)
    · exact hne rfl
/-- an object of exactly C is an instance of C -/
theorem cinst {p : Program} {l : Launch} {e : Env} {R : Room} {s : State} {m : MethodId} {args : Array Value} {below : List Frame} {meth : Method} {c : Code} {T : State} {locs : List Loc} {cells slots : Nat} (X : Stand p l e R s m args below meth c T locs cells slots) (hexec : p.tables.exec = Jvm.exec) {own C : String} {index : Nat} (hown : s.vm.findClass own = some m.cls) (hlink : (Cond.classLink own index C).before args s = true) {a : Addr} (hE : Exact C a T)
    {g : JFrame} (hg : g.method = m) {rest : List Value} (hstack : g.stack = .ref a :: rest) (hdg : decode c.code g.pc = .ok (.instanceof index, 3)) :
    ∃ T', Stand p l e R s m args below meth c T' locs cells slots ∧ T'.heap = T.heap ∧ ∀ target, Steps p.tables e below (T'.setTop { g with pc := g.pc + 3, stack := .int 1 :: rest }) target → Steps p.tables e below (T.setTop g) target := by
  obtain ⟨cB, h1, D, h2, h3, h4⟩ := hE
  have h1' : s.vm.findClass C = some cB := by rw [← X.warmed.alike.findClass]; exact h1
  obtain ⟨vm', X', st⟩ := X.instanceofYes hexec hown hlink h2 h4 h1' (by rw [h3]; exact Jvm.Free.SB.assignable_self _ _) hg hstack hdg
  exact ⟨_, X', rfl, st⟩
theorem cself {p : Program} {l : Launch} {e : Env} {R : Room} {s : State} {m : MethodId} {args : Array Value} {below : List Frame} {meth : Method} {c : Code} {T : State} {locs : List Loc} {cells slots : Nat} (X : Stand p l e R s m args below meth c T locs cells slots) (hexec : p.tables.exec = Jvm.exec) {own C : String} {index : Nat} (hown : s.vm.findClass own = some m.cls) (hlink : (Cond.classLink own index C).before args s = true) {a : Addr} (hE : Exact C a T)
    {g : JFrame} (hg : g.method = m) {rest : List Value} (hstack : g.stack = .ref a :: rest) (hdg : decode c.code g.pc = .ok (.checkcast index, 3)) :
    ∃ T', Stand p l e R s m args below meth c T' locs cells slots ∧ T'.heap = T.heap ∧ ∀ target, Steps p.tables e below (T'.setTop { g with pc := g.pc + 3, stack := .ref a :: rest }) target → Steps p.tables e below (T.setTop g) target := by
  obtain ⟨cB, h1, D, h2, h3, h4⟩ := hE
  have h1' : s.vm.findClass C = some cB := by rw [← X.warmed.alike.findClass]; exact h1
  obtain ⟨vm', X', st⟩ := X.checkcastYes hexec hown hlink h2 h4 h1' (by rw [h3]; exact Jvm.Free.SB.assignable_self _ _) hg hstack hdg
  exact ⟨_, X', rfl, fun t h => st t (by rw [← hstack] at h; exact h)⟩
namespace SEq
def yN : MethodName := ⟨"java/lang/String", "equals", "(Ljava/lang/Object;)Z"⟩
abbrev yB : ByteArray := jdk_42_method_66_code
theorem d0 : decode yB 0 = .ok (.aload_n 0, 1) := by decide +kernel
theorem d1 : decode yB 1 = .ok (.aload_n 1, 1) := by decide +kernel
theorem d2 : decode yB 2 = .ok (.if_acmp (.ne) 5, 3) := by decide +kernel
theorem d5 : decode yB 5 = .ok (.iconst 1, 1) := by decide +kernel
theorem d6 : decode yB 6 = .ok (.ireturn, 1) := by decide +kernel
theorem d7 : decode yB 7 = .ok (.aload_n 1, 1) := by decide +kernel
theorem d8 : decode yB 8 = .ok (.instanceof 10, 3) := by decide +kernel
theorem d11 : decode yB 11 = .ok (.ifCond (.eq) 43, 3) := by decide +kernel
theorem d14 : decode yB 14 = .ok (.aload_n 1, 1) := by decide +kernel
theorem d15 : decode yB 15 = .ok (.checkcast 10, 3) := by decide +kernel
theorem d18 : decode yB 18 = .ok (.astore_n 2, 1) := by decide +kernel
theorem d19 : decode yB 19 = .ok (.getstatic 38, 3) := by decide +kernel
theorem d22 : decode yB 22 = .ok (.ifCond (.eq) 14, 3) := by decide +kernel
theorem d25 : decode yB 25 = .ok (.aload_n 0, 1) := by decide +kernel
theorem d26 : decode yB 26 = .ok (.getfield 15, 3) := by decide +kernel
theorem d29 : decode yB 29 = .ok (.aload_n 2, 1) := by decide +kernel
theorem d30 : decode yB 30 = .ok (.getfield 15, 3) := by decide +kernel
theorem d33 : decode yB 33 = .ok (.if_icmp (.ne) 21, 3) := by decide +kernel
theorem d36 : decode yB 36 = .ok (.aload_n 0, 1) := by decide +kernel
theorem d37 : decode yB 37 = .ok (.getfield 9, 3) := by decide +kernel
theorem d40 : decode yB 40 = .ok (.aload_n 2, 1) := by decide +kernel
theorem d41 : decode yB 41 = .ok (.getfield 9, 3) := by decide +kernel
theorem d44 : decode yB 44 = .ok (.invokestatic 541, 3) := by decide +kernel
theorem d47 : decode yB 47 = .ok (.ifCond (.eq) 7, 3) := by decide +kernel
theorem d50 : decode yB 50 = .ok (.iconst 1, 1) := by decide +kernel
theorem d51 : decode yB 51 = .ok (.goto 4, 3) := by decide +kernel
theorem d54 : decode yB 54 = .ok (.iconst 0, 1) := by decide +kernel
theorem d55 : decode yB 55 = .ok (.ireturn, 1) := by decide +kernel
def site : List Cond := [.classLink "java/lang/String" 10 "java/lang/String", .fieldLink "java/lang/String" 38 "java/lang/String" "COMPACT_STRINGS" "Z", .fieldLink "java/lang/String" 15 "java/lang/String" "coder" "B", .fieldLink "java/lang/String" 9 "java/lang/String" "value" "[B", LEq.tab] ++ staticW "java/lang/String" 541 LEq.yN
def tab : Cond := tabOf yN yB 3 (some .boolean) site
def P (x t : Addr) (V : Cell) (cd : Int32) (n : Nat) (f : Nat → Int32) (y t' : Addr) (V' : Cell) (cd' : Int32) (k : Nat) (g : Nat → Int32) (z : Int32) (args : Array Value) (s : State) : Prop := args = #[.ref x, .ref y] ∧ Txt x t V cd n f s ∧ Txt y t' V' cd' k g s ∧ StaticIs s "java/lang/String" "COMPACT_STRINGS" "Z" (.int z) ∧ ¬ z = 0
/-- equals(Object) of two Strings: whether the texts are the same -/
theorem law (l : Launch) (x t : Addr) (V : Cell) (cd : Int32) (n : Nat) (f : Nat → Int32) (y t' : Addr) (V' : Cell) (cd' : Int32) (k : Nat) (g : Nat → Int32) (z : Int32) : Law l yN 2 1 1 14 yB 3 (some .boolean) site (P x t V cd n f y t' V' cd' k g z) (Says01 (SameT n f k g)) [] 0 0 := by
  refine Law.of_walk (plainFor_of_name (by decide +kernel)) (by decide +kernel) (by decide +kernel) (by decide) (fun _ _ h => by rw [h.1]; rfl) (fun _ U U' hal hh h => ⟨h.1, h.2.1.mv hal hh, h.2.2.1.mv hal hh, h.2.2.2.1.there hal hh, h.2.2.2.2⟩) (fun r U U' V V' h1 hal h2 h => Says01.mv r U U' V V' h1 hal h2 h) ?_
  intro p e s m args below meth c s₁ X0 hexec hbytes hml hret hlk hnm hown hh0 W hP
  obtain ⟨rfl, hx, hy, s1, hz⟩ := hP
  have c1 : Steps p.tables e below (s₁.setTop (entryFrame m #[.ref x, .ref y] 3)) (s₁.setTop (mkF m 2 #[.val (.ref x), .val (.ref y), .unset] [.ref y, .ref x])) := Steps.trans (entry rfl) (by
    show Steps p.tables e below (s₁.setTop (mkF m 0 #[.val (.ref x), .val (.ref y), .unset] [])) _
    refine XS.aloadN X0.here hexec rfl (hb hbytes d0) rfl rfl ?_
    refine XS.aloadN X0.here hexec rfl (hb hbytes d1) rfl rfl ?_
    exact Steps.refl _)
  by_cases hxy : x = y
  · have c2 : Steps p.tables e below (s₁.setTop (entryFrame m #[.ref x, .ref y] 3)) (s₁.setTop (mkF m 6 #[.val (.ref x), .val (.ref y), .unset] [.int 1])) := c1.trans (by
      refine acmpNo X0.here hexec rfl (hb hbytes d2) rfl rfl rfl (by simp [acmp, hxy]) ?_
      refine iconstV X0.here hexec rfl 1 (hb hbytes d5) (by decide) ?_
      exact Steps.refl _)
    subst hxy
    have ec : cd = cd' := by
      obtain ⟨D, fd, a1, a2, a3⟩ := hx.2.2.1
      obtain ⟨D', fd', b1, b2, b3⟩ := hy.2.2.1
      cases a1.symm.trans b1
      obtain ⟨q1, q2, q3, q4⟩ := a2.1
      obtain ⟨r1, r2, r3, r4⟩ := b2.1
      cases q4.symm.trans r4
      cases a3.symm.trans b3; rfl
    have et : t = t' := by
      obtain ⟨D, fd, a1, a2, a3⟩ := hx.2.1
      obtain ⟨D', fd', b1, b2, b3⟩ := hy.2.1
      cases a1.symm.trans b1
      obtain ⟨q1, q2, q3, q4⟩ := a2.1
      obtain ⟨r1, r2, r3, r4⟩ := b2.1
      cases q4.symm.trans r4
      cases a3.symm.trans b3; rfl
    subst ec et
    have ev : V = V' := by cases hx.2.2.2.1.1.symm.trans hy.2.2.2.1.1; rfl
    subst ev
    have hs : SameT n f k g := (Cod.eqv hx.2.2.2.2.1 hy.2.2.2.2.1 hx.2.2.2.2.2 hy.2.2.2.2.2).mp ⟨rfl, fun _ _ => rfl⟩
    exact ⟨s₁, some (.int 1), _, _, _, X0, rfl, rfl, rfl, (fun h => by cases h), ⟨1, rfl, hh0, Or.inl ⟨rfl, hs⟩⟩, fun fs hl => c2.trans (X0.ireturnOut hexec hret rfl (Or.inr (Or.inl rfl)) (hb hbytes d6) hl)⟩
  · have c2 : Steps p.tables e below (s₁.setTop (entryFrame m #[.ref x, .ref y] 3)) (s₁.setTop (mkF m 8 #[.val (.ref x), .val (.ref y), .unset] [.ref y])) := c1.trans (by
      refine acmpYes X0.here hexec rfl (pc0 := 2) rfl (hb hbytes d2) rfl rfl rfl (by simp [acmp, hxy]) (by decide) rfl ?_
      refine XS.aloadN X0.here hexec rfl (hb hbytes d7) rfl rfl ?_
      exact Steps.refl _)
    obtain ⟨T3, X3, q3, st3⟩ := cinst X0 hexec hown (wk W (.classLink "java/lang/String" 10 "java/lang/String")) (hy.mv X0.warmed.alike hh0).1 (g := (mkF m 8 #[.val (.ref x), .val (.ref y), .unset] [.ref y])) rfl (rest := []) rfl (hb hbytes d8)
    have hh3 := q3.trans hh0
    have c4 : Steps p.tables e below (s₁.setTop (entryFrame m #[.ref x, .ref y] 3)) (T3.setTop (mkF m 15 #[.val (.ref x), .val (.ref y), .unset] [.ref y])) := (c2.trans (st3 _ (Steps.refl _))).trans (by
      refine XS.ifNo X3.here hexec rfl (hb hbytes d11) rfl (i0_eq_f (by decide)) ?_
      refine XS.aloadN X3.here hexec rfl (hb hbytes d14) rfl rfl ?_
      exact Steps.refl _)
    obtain ⟨T5, X5, q5, st5⟩ := cself X3 hexec hown (wk W (.classLink "java/lang/String" 10 "java/lang/String")) (hy.mv X3.warmed.alike hh3).1 (g := (mkF m 15 #[.val (.ref x), .val (.ref y), .unset] [.ref y])) rfl (rest := []) rfl (hb hbytes d15)
    have hh5 := q5.trans hh3
    have c6 : Steps p.tables e below (s₁.setTop (entryFrame m #[.ref x, .ref y] 3)) (T5.setTop (mkF m 19 #[.val (.ref x), .val (.ref y), .val (.ref y)] [])) := (c4.trans (st5 _ (Steps.refl _))).trans (by
      refine XS.astoreN X5.here hexec rfl (hb hbytes d18) rfl rfl rfl ?_
      exact Steps.refl _)
    obtain ⟨T7, X7, q7, st7⟩ := X5.sget hexec hown (wk W (.fieldLink "java/lang/String" 38 "java/lang/String" "COMPACT_STRINGS" "Z")) s1 (fun _ _ h => by rw [hh5]; exact h) (g := (mkF m 19 #[.val (.ref x), .val (.ref y), .val (.ref y)] [])) rfl (hb hbytes d19)
    have hh7 := q7.trans hh5
    have c8 : Steps p.tables e below (s₁.setTop (entryFrame m #[.ref x, .ref y] 3)) (T7.setTop (mkF m 26 #[.val (.ref x), .val (.ref y), .val (.ref y)] [.ref x])) := (c6.trans (st7 _ (Steps.refl _))).trans (by
      refine XS.ifNo X7.here hexec rfl (hb hbytes d22) rfl (i0_eq_f hz) ?_
      refine XS.aloadN X7.here hexec rfl (hb hbytes d25) rfl rfl ?_
      exact Steps.refl _)
    obtain ⟨T9, X9, q9, st9⟩ := X7.hget hexec hown (wk W (.fieldLink "java/lang/String" 15 "java/lang/String" "coder" "B")) (hx.mv X7.warmed.alike hh7).2.2.1 (g := (mkF m 26 #[.val (.ref x), .val (.ref y), .val (.ref y)] [.ref x])) rfl (rest := []) rfl (hb hbytes d26)
    have hh9 := q9.trans hh7
    have c10 : Steps p.tables e below (s₁.setTop (entryFrame m #[.ref x, .ref y] 3)) (T9.setTop (mkF m 30 #[.val (.ref x), .val (.ref y), .val (.ref y)] [.ref y, .int cd])) := (c8.trans (st9 _ (Steps.refl _))).trans (by
      refine XS.aloadN X9.here hexec rfl (hb hbytes d29) rfl rfl ?_
      exact Steps.refl _)
    obtain ⟨T11, X11, q11, st11⟩ := X9.hget hexec hown (wk W (.fieldLink "java/lang/String" 15 "java/lang/String" "coder" "B")) (hy.mv X9.warmed.alike hh9).2.2.1 (g := (mkF m 30 #[.val (.ref x), .val (.ref y), .val (.ref y)] [.ref y, .int cd])) rfl (rest := [.int cd]) rfl (hb hbytes d30)
    have hh11 := q11.trans hh9
    have c12 : Steps p.tables e below (s₁.setTop (entryFrame m #[.ref x, .ref y] 3)) (T11.setTop (mkF m 33 #[.val (.ref x), .val (.ref y), .val (.ref y)] [.int cd', .int cd])) := c10.trans (st11 _ (Steps.refl _))
    by_cases hcd : cd = cd'
    · subst hcd
      have c13 : Steps p.tables e below (s₁.setTop (entryFrame m #[.ref x, .ref y] 3)) (T11.setTop (mkF m 37 #[.val (.ref x), .val (.ref y), .val (.ref y)] [.ref x])) := c12.trans (by
        refine XS.icmpNo X11.here hexec rfl (hb hbytes d33) rfl (ii_ne_f rfl) ?_
        refine XS.aloadN X11.here hexec rfl (hb hbytes d36) rfl rfl ?_
        exact Steps.refl _)
      obtain ⟨T14, X14, q14, st14⟩ := X11.hget hexec hown (wk W (.fieldLink "java/lang/String" 9 "java/lang/String" "value" "[B")) (hx.mv X11.warmed.alike hh11).2.1 (g := (mkF m 37 #[.val (.ref x), .val (.ref y), .val (.ref y)] [.ref x])) rfl (rest := []) rfl (hb hbytes d37)
      have hh14 := q14.trans hh11
      have c15 : Steps p.tables e below (s₁.setTop (entryFrame m #[.ref x, .ref y] 3)) (T14.setTop (mkF m 41 #[.val (.ref x), .val (.ref y), .val (.ref y)] [.ref y, .ref t])) := (c13.trans (st14 _ (Steps.refl _))).trans (by
        refine XS.aloadN X14.here hexec rfl (hb hbytes d40) rfl rfl ?_
        exact Steps.refl _)
      obtain ⟨T16, X16, q16, st16⟩ := X14.hget hexec hown (wk W (.fieldLink "java/lang/String" 9 "java/lang/String" "value" "[B")) (hy.mv X14.warmed.alike hh14).2.1 (g := (mkF m 41 #[.val (.ref x), .val (.ref y), .val (.ref y)] [.ref y, .ref t])) rfl (rest := [.ref t]) rfl (hb hbytes d41)
      have hh16 := q16.trans hh14
      have c17 : Steps p.tables e below (s₁.setTop (entryFrame m #[.ref x, .ref y] 3)) (T16.setTop (mkF m 44 #[.val (.ref x), .val (.ref y), .val (.ref y)] [.ref t', .ref t])) := c15.trans (st16 _ (Steps.refl _))
      obtain ⟨v18, T18, X18, E18, g18⟩ := X16.callS hexec (LEq.law l t V t' V') hown (wks W (staticW "java/lang/String" 541 LEq.yN)) (wk W LEq.tab) (W := 0) (Nat.le_of_ble_eq_true rfl) (Nat.le_of_ble_eq_true rfl) (Nat.le_refl _) (Nat.le_refl _) (g := (mkF m 44 #[.val (.ref x), .val (.ref y), .val (.ref y)] [.ref t', .ref t])) rfl (by rw [hml]; rfl) c17 (argsL := [.ref t, .ref t']) (rest := []) rfl rfl (by show 2 * 0 + 0 ≤ _; decide) (hb hbytes d44) (⟨rfl, hx.2.2.2.1.mv X16.warmed.alike hh16, hx.2.2.2.2.1.ty, hy.2.2.2.1.mv X16.warmed.alike hh16, hy.2.2.2.2.1.ty⟩)
      obtain ⟨v, rfl, q18, hv⟩ := E18
      have iff := Cod.eqv hx.2.2.2.2.1 hy.2.2.2.2.1 hx.2.2.2.2.2 hy.2.2.2.2.2
      rcases hv with ⟨rfl, he⟩ | ⟨rfl, he⟩
      · have c19 : Steps p.tables e below (s₁.setTop (entryFrame m #[.ref x, .ref y] 3)) (T18.setTop (mkF m 55 #[.val (.ref x), .val (.ref y), .val (.ref y)] [.int 1])) := Steps.trans g18 (by
          refine XS.ifNo X18.here hexec rfl (hb hbytes d47) rfl (i0_eq_f (by decide)) ?_
          refine iconstV X18.here hexec rfl 1 (hb hbytes d50) (by decide) ?_
          refine XS.goto X18.here hexec rfl (pc0 := 51) rfl (hb hbytes d51) (by decide) rfl ?_
          exact Steps.refl _)
        exact ⟨T18, some (.int 1), _, _, _, X18, rfl, rfl, rfl, (fun h => by cases h), ⟨1, rfl, q18.trans hh16, Or.inl ⟨rfl, iff.mp he⟩⟩, fun fs hl => c19.trans (X18.ireturnOut hexec hret rfl (Or.inr (Or.inl rfl)) (hb hbytes d55) hl)⟩
      · have c19 : Steps p.tables e below (s₁.setTop (entryFrame m #[.ref x, .ref y] 3)) (T18.setTop (mkF m 55 #[.val (.ref x), .val (.ref y), .val (.ref y)] [.int 0])) := Steps.trans g18 (by
          refine XS.ifYes X18.here hexec rfl (pc0 := 47) rfl (hb hbytes d47) rfl (i0_eq_t rfl) (by decide) rfl ?_
          refine iconstV X18.here hexec rfl 0 (hb hbytes d54) (by decide) ?_
          exact Steps.refl _)
        exact ⟨T18, some (.int 0), _, _, _, X18, rfl, rfl, rfl, (fun h => by cases h), ⟨0, rfl, q18.trans hh16, Or.inr ⟨rfl, fun q => he (iff.mpr q)⟩⟩, fun fs hl => c19.trans (X18.ireturnOut hexec hret rfl (Or.inr (Or.inl rfl)) (hb hbytes d55) hl)⟩
    · have c13 : Steps p.tables e below (s₁.setTop (entryFrame m #[.ref x, .ref y] 3)) (T11.setTop (mkF m 55 #[.val (.ref x), .val (.ref y), .val (.ref y)] [.int 0])) := c12.trans (by
        refine XS.icmpYes X11.here hexec rfl (pc0 := 33) rfl (hb hbytes d33) rfl (ii_ne_t hcd) (by decide) rfl ?_
        refine iconstV X11.here hexec rfl 0 (hb hbytes d54) (by decide) ?_
        exact Steps.refl _)
      exact ⟨T11, some (.int 0), _, _, _, X11, rfl, rfl, rfl, (fun h => by cases h), ⟨0, rfl, hh11, Or.inr ⟨rfl, Cod.dif hx.2.2.2.2.1 hy.2.2.2.2.1 hcd⟩⟩, fun fs hl => c13.trans (X11.ireturnOut hexec hret rfl (Or.inr (Or.inl rfl)) (hb hbytes d55) hl)⟩
theorem pays {l : Launch} {R : Room} {p : Program} {e : Env} {below : List Frame} {s : State} {sargs : Array Value} {len W : Nat} (x t : Addr) (V : Cell) (cd : Int32) (n : Nat) (f : Nat → Int32) (y t' : Addr) (V' : Cell) (cd' : Int32) (k : Nat) (g : Nat → Int32) (z : Int32) (htab : tab.before sargs s = true) (hfr : 2 ≤ R.frames) (hlo : W + 28 ≤ R.locals) :
    Back l R p e below s sargs yN len W (fun A₁ a₁ => A₁.cells + 0 ≤ R.cells ∧ A₁.slots + 0 ≤ R.slots ∧ P x t V cd n f y t' V' cd' k g z a₁ A₁.U) (fun A₁ _ v₁ B₁ => Says01 (SameT n f k g) v₁ A₁.U B₁.U ∧ B₁.locs = A₁.locs ++ [] ∧ B₁.cells = A₁.cells + 0 ∧ B₁.slots = A₁.slots + 0) :=
  (law l x t V cd n f y t' V' cd' k g z).pays htab hfr (by omega)
end SEq
end StrChars
namespace StrChars.Road
open Jvm Sem ClassFile Op Lib Jvm.Stand Jvm.Free Jvm.Free.XT
open Jvm.Lib.Cold (StaticIs)
/-- the words of String.isEmpty() -/
abbrev wordsEmp : List Jvm.Cond := [.code Emp.yN Emp.yB 1 (some .boolean), .initialized ST, .fieldLink ST 9 ST "value" "[B"]
theorem tabEmp_of {a : Array Value} {s : State} (h : ∀ w ∈ wordsEmp, w.before a s = true) : Emp.tab.before a s = true := unparts (wk h (.code Emp.yN Emp.yB 1 (some .boolean))) (wks h (.initialized Emp.yN.cls :: Emp.site))
theorem movedEmp {Z s : State} {a0 args : Array Value} (hZ : Z.Warmed39 s.vm) (hw : ∀ d ∈ wordsEmp, d.before a0 Z = true) : ∀ d ∈ wordsEmp, d.before args s = true := fun d hd => by
  have t : ∀ d ∈ wordsEmp, (d.onTables && d.keepsFace) = true := by decide +kernel
  exact RoadKit.mv hZ (hw d hd) (t d hd)
/-- the words of String.equals(Object) -/
abbrev wordsEq : List Jvm.Cond := [.code SEq.yN SEq.yB 3 (some .boolean), .initialized ST, .classLink ST 10 ST, .fieldLink ST 38 ST "COMPACT_STRINGS" "Z", .fieldLink ST 15 ST "coder" "B", .fieldLink ST 9 ST "value" "[B", .methodLink ST 541 LEq.yN, .static LEq.yN, .code LEq.yN LEq.yB 3 (some .boolean), .initialized "java/lang/StringLatin1"]
theorem tabEq_of {a : Array Value} {s : State} (h : ∀ w ∈ wordsEq, w.before a s = true) : SEq.tab.before a s = true := by
  have hl : LEq.tab.before a s = true := unparts (wk h (.code LEq.yN LEq.yB 3 (some .boolean))) (wks h (.initialized LEq.yN.cls :: LEq.site))
  have q := consq hl h
  exact unparts (wk q (.code SEq.yN SEq.yB 3 (some .boolean))) (wks q (.initialized SEq.yN.cls :: SEq.site))
theorem movedEq {Z s : State} {a0 args : Array Value} (hZ : Z.Warmed39 s.vm) (hw : ∀ d ∈ wordsEq, d.before a0 Z = true) : ∀ d ∈ wordsEq, d.before args s = true := fun d hd => by
  have t : ∀ d ∈ wordsEq, (d.onTables && d.keepsFace) = true := by decide +kernel
  exact RoadKit.mv hZ (hw d hd) (t d hd)
/-- the road's facts of a String, as the laws ask it -/
theorem txt_of {Z U : State} {a0 : Array Value} {kI : Nat} (wi : (Jvm.Cond.instantiable ST kI).before a0 Z = true) (al : Z.vm.Alike U.vm) {x t : Addr} {kb : ClassId} {cs : List Int32} {cd N2 : Int32} {vs : List Value} (E : RoadKit.Exa Z U.heap x ST) (V : RoadKit.Fld Z U.heap x ST "value" "[B" (.ref t)) (C : RoadKit.Fld Z U.heap x ST "coder" "B" (.int cd)) (K : RoadKit.Arv Z U.heap t kb .byte N2 vs (.int 0)) (hc : CodA cs cd N2 vs) (hb : ∀ c ∈ cs, ¬ c < 0 ∧ ¬ (65535 : Int32) < c) (l2 : cs.length ≤ 4000) :
    ∃ A, Txt x t A cd cs.length (fun j => cs.getD j 0) U := by
  obtain ⟨A, K1, K2, K3, K4, K5, K6⟩ := K
  have hcod := hc.cod (by omega) K3 K5
  obtain ⟨D, fV, fC, hB, F1, F2, g1, g2, -, -⟩ := strObj wi al E V C
  exact ⟨A, ⟨_, hB.2.2.1, D, hB.1, rfl, by cases q : D.vm <;> first | rfl | exact absurd q (hB.2.1.2 _)⟩, Has.of hB F1 g1, Has.of hB F2 g2, ⟨K1.1, State.isArrayOf_alike al K1.2.1, K1.2.2, by rcases hcod with ⟨-, q, -⟩ | ⟨-, q, -⟩ <;> omega⟩, hcod, fun j hj => by
    have e : cs.getD j 0 = cs[j] := by simp [List.getD_eq_getElem?_getD, hj]
    show ¬ cs.getD j 0 < 0 ∧ ¬ 65535 < cs.getD j 0
    rw [e]; exact hb _ (List.getElem_mem _)⟩
theorem same_list (cs ds : List Int32) : SameT cs.length (fun j => cs.getD j 0) ds.length (fun j => ds.getD j 0) ↔ cs = ds := by
  constructor
  · rintro ⟨e, q⟩
    refine List.ext_getElem e fun j h1 h2 => ?_
    have := q j h1
    simpa [List.getD_eq_getElem?_getD, h1, h2] using this
  · rintro rfl
    exact ⟨rfl, fun _ _ => rfl⟩
/-- **isEmpty() OF SUCH A STRING** -/
theorem empW {p : Program} {l : Launch} {e : Env} {R : Room} {s : State} {args : Array Value} {below : List Frame} {len W : Nat} {Z : State} {a0 : Array Value} {h : Heap} (hZ : Z.Warmed39 s.vm) (hw : ∀ d ∈ wordsEmp, d.before a0 Z = true) {kI : Nat} (wi : (Jvm.Cond.instantiable ST kI).before a0 Z = true)
    {x t : Addr} {kb : ClassId} {cs : List Int32} {cd N2 : Int32} {vs : List Value} (E : RoadKit.Exa Z h x ST) (V : RoadKit.Fld Z h x ST "value" "[B" (.ref t)) (C : RoadKit.Fld Z h x ST "coder" "B" (.int cd)) (K : RoadKit.Arv Z h t kb .byte N2 vs (.int 0)) (hc : CodA cs cd N2 vs) (hb : ∀ c ∈ cs, ¬ c < 0 ∧ ¬ (65535 : Int32) < c) (l2 : cs.length ≤ 4000) (hfr : 1 ≤ R.frames) (hlo : W + 12 ≤ R.locals) :
    Back l R p e below s args (⟨"java/lang/String", "isEmpty", "()Z"⟩ : MethodName) len W (fun P a => a = #[.ref x] ∧ P.U.heap = h ∧ P.cells + 0 ≤ R.cells ∧ P.slots + 0 ≤ R.slots)
      (fun P _ v B => ∃ L, (v = some (.int (if cs.length = 0 then 1 else 0)) ∧ L = [] ∧ B.U.heap = h) ∧ B.locs = P.locs ++ L ∧ B.cells = P.cells + 0 ∧ B.slots = P.slots + 0) := by
  intro m meth c P g ig mk a X hg hsize hdg hW hn hp'
  obtain ⟨rfl, rfl, r1, r2⟩ := hp'
  have al : Z.vm.Alike P.U.vm := hZ.alike.trans X.warmed.alike
  obtain ⟨A, hx⟩ := txt_of wi al E V C K hc hb l2
  obtain ⟨v, B, X', ⟨⟨hv, hh⟩, hl, hk, hs⟩, st⟩ := Emp.pays x t A cd cs.length (fun j => cs.getD j 0) (tabEmp_of (movedEmp hZ hw)) hfr hlo m meth c P g ig mk _ X hg hsize hdg hW hn ⟨r1, r2, rfl, hx⟩
  exact ⟨v, B, X', ⟨[], ⟨hv, rfl, hh⟩, hl, hk, hs⟩, st⟩
/-- **equals(Object) OF TWO SUCH STRINGS**: 1 just where the chars are the same -/
theorem eqW {p : Program} {l : Launch} {e : Env} {R : Room} {s : State} {args : Array Value} {below : List Frame} {len W : Nat} {Z : State} {a0 : Array Value} {h : Heap} (hZ : Z.Warmed39 s.vm) (hw : ∀ d ∈ wordsEq, d.before a0 Z = true) {kI : Nat} (wi : (Jvm.Cond.instantiable ST kI).before a0 Z = true)
    {x t : Addr} {kb : ClassId} {cs : List Int32} {cd N2 : Int32} {vs : List Value} (E : RoadKit.Exa Z h x ST) (V : RoadKit.Fld Z h x ST "value" "[B" (.ref t)) (C : RoadKit.Fld Z h x ST "coder" "B" (.int cd)) (K : RoadKit.Arv Z h t kb .byte N2 vs (.int 0)) (hc : CodA cs cd N2 vs) (hb : ∀ c ∈ cs, ¬ c < 0 ∧ ¬ (65535 : Int32) < c) (l2 : cs.length ≤ 4000)
    {y t' : Addr} {kb' : ClassId} {ds : List Int32} {cd' N2' : Int32} {vs' : List Value} (E' : RoadKit.Exa Z h y ST) (V' : RoadKit.Fld Z h y ST "value" "[B" (.ref t')) (C' : RoadKit.Fld Z h y ST "coder" "B" (.int cd')) (K' : RoadKit.Arv Z h t' kb' .byte N2' vs' (.int 0)) (hc' : CodA ds cd' N2' vs') (hb' : ∀ c ∈ ds, ¬ c < 0 ∧ ¬ (65535 : Int32) < c) (l2' : ds.length ≤ 4000)
    {z : Int32} (S : RoadKit.Sta Z h ST "COMPACT_STRINGS" "Z" (.int z)) (hz : ¬ z = 0) (hfr : 2 ≤ R.frames) (hlo : W + 28 ≤ R.locals) :
    Back l R p e below s args (⟨"java/lang/String", "equals", "(Ljava/lang/Object;)Z"⟩ : MethodName) len W (fun P a => a = #[.ref x, .ref y] ∧ P.U.heap = h ∧ P.cells + 0 ≤ R.cells ∧ P.slots + 0 ≤ R.slots)
      (fun P _ v B => ∃ L, (((v = some (.int 1) ∧ cs = ds) ∨ (v = some (.int 0) ∧ ¬ cs = ds)) ∧ L = [] ∧ B.U.heap = h) ∧ B.locs = P.locs ++ L ∧ B.cells = P.cells + 0 ∧ B.slots = P.slots + 0) := by
  intro m meth c P g ig mk a X hg hsize hdg hW hn hp'
  obtain ⟨rfl, rfl, r1, r2⟩ := hp'
  have al : Z.vm.Alike P.U.vm := hZ.alike.trans X.warmed.alike
  obtain ⟨A, hx⟩ := txt_of wi al E V C K hc hb l2
  obtain ⟨A', hy⟩ := txt_of wi al E' V' C' K' hc' hb' l2'
  obtain ⟨v, B, X', ⟨⟨w, hv, hh, hq⟩, hl, hk, hs⟩, st⟩ := SEq.pays x t A cd cs.length (fun j => cs.getD j 0) y t' A' cd' ds.length (fun j => ds.getD j 0) z (tabEq_of (movedEq hZ hw)) hfr hlo m meth c P g ig mk _ X hg hsize hdg hW hn ⟨r1, r2, rfl, hx, hy, sta_is al S, hz⟩
  refine ⟨v, B, X', ⟨[], ⟨?_, rfl, hh⟩, hl, hk, hs⟩, st⟩
  rcases hq with ⟨rfl, q⟩ | ⟨rfl, q⟩
  · exact Or.inl ⟨hv, (same_list cs ds).mp q⟩
  · exact Or.inr ⟨hv, fun e => q ((same_list cs ds).mpr e)⟩
end StrChars.Road
end Jvm.Pilot.@@N@@
namespace Jvm.Pilot.@@N@@
open Jvm Jvm.ClassFile Sem Op Lib Jvm.Free Jvm.Stand Jvm.LawKit Jvm.RoadKit Bundle Jvm.Pilot.@@N@@.Jvm.D
section OwnStr
variable {p : Program} {l : Launch} {e : Env} {R : Room} {args : Array Value} {below : List Frame} {Z : State} {a0 : Array Value} {h h' : Heap} {ws : List Addr} {a t : Addr} {cs ds : List Int32}
/-- the object at a is a String of the chars cs; its bytes lie at t -/
def Str (Z : State) (h : Heap) (a t : Addr) (cs : List Int32) : Prop := (∀ c ∈ cs, ¬ c < 0 ∧ ¬ (65535 : Int32) < c) ∧ cs.length ≤ 4000 ∧ Exa Z h a "java/lang/String" ∧ Fld Z h a "java/lang/String" "value" "[B" (.ref t) ∧
  ∃ (cd N2 : Int32) (vs : List Value) (kb : ClassId), Fld Z h a "java/lang/String" "coder" "B" (.int cd) ∧ Arv Z h t kb .byte N2 vs (.int 0) ∧ StrChars.Road.CodA cs cd N2 vs
theorem Str.exa (F : Str Z h a t cs) : Exa Z h a "java/lang/String" := F.2.2.1
theorem Str.lt (F : Str Z h a t cs) : a < h.size := F.2.2.1.lt
theorem Str.ltt (F : Str Z h a t cs) : t < h.size := by obtain ⟨_, _, _, _, _, _, _, _, _, A, _⟩ := F; exact A.lt
theorem Str.keep (F : Str Z h a t cs) (K : Keep h h' ws) (q : a ∉ ws) (r : t ∉ ws) : Str Z h' a t cs := by
  obtain ⟨h1, h2, h3, h4, cd, N2, vs, kb, h5, h6, h7⟩ := F
  exact ⟨h1, h2, h3.keep K, h4.keep K q, cd, N2, vs, kb, h5.keep K q, h6.keep K r, h7⟩
theorem Str.ext (F : Str Z h a t cs) (E : Ext h h') : Str Z h' a t cs := by
  obtain ⟨h1, h2, h3, h4, cd, N2, vs, kb, h5, h6, h7⟩ := F
  exact ⟨h1, h2, h3.ext E, h4.ext E, cd, N2, vs, kb, h5.ext E, h6.ext E, h7⟩
theorem up255 (h : ∀ c ∈ cs, ¬ c < 0 ∧ ¬ (255 : Int32) < c) : ∀ c ∈ cs, ¬ c < 0 ∧ ¬ (65535 : Int32) < c := fun c hc => ⟨(h c hc).1, fun q => (h c hc).2 (by rw [Int32.lt_iff_toInt_lt] at q ⊢; have e1 : (65535 : Int32).toInt = 65535 := rfl; have e2 : (255 : Int32).toInt = 255 := rfl; omega)⟩
/-- what backArv leaves is such a String -/
theorem str_of {kb : ClassId} (hp : ∀ c ∈ cs, ¬ c < 0 ∧ ¬ (255 : Int32) < c) (l2 : cs.length ≤ 4000) (E : Exa Z h a "java/lang/String") (F : Fld Z h a "java/lang/String" "value" "[B" (.ref t)) (C : Fld Z h a "java/lang/String" "coder" "B" (.int 0)) {zn : Int32} (hz : zn = Int32.ofNat cs.length) {vs : List Value} (hv : vs = cs.map fun c => Value.int (StrChars.lo8 c)) (A : Arv Z h t kb .byte zn vs (.int 0)) : Str Z h a t cs :=
  ⟨up255 hp, l2, E, F, 0, zn, vs, kb, C, A, Or.inl ⟨rfl, hz, hv, fun c hc => (hp c hc).2⟩⟩
theorem lat_and (x : Int32) : ¬ (x &&& (255 : Int32)) < 0 ∧ ¬ (255 : Int32) < (x &&& (255 : Int32)) := by
  have q := c_and x 255 (by decide)
  have e : (255 : Int32).toInt = 255 := rfl
  have z : (0 : Int32).toInt = 0 := rfl
  rw [Int32.lt_iff_toInt_lt, Int32.lt_iff_toInt_lt]; omega
theorem nar_id {c : Int32} (h0 : ¬ c < 0) (h1 : ¬ (65535 : Int32) < c) : nar .char c = c := by
  have q := c_i2c c
  have e1 : (65535 : Int32).toInt = 65535 := rfl
  have e2 : (0 : Int32).toInt = 0 := rfl
  rw [Int32.lt_iff_toInt_lt] at h0 h1
  apply Int32.toInt_inj.mp
  show c.toUInt32.toUInt16.toUInt32.toInt32.toInt = c.toInt
  omega
theorem lat_nar {c : Int32} (q : ¬ c < 0 ∧ ¬ (255 : Int32) < c) : ¬ nar .char c < 0 ∧ ¬ (255 : Int32) < nar .char c := by
  rw [nar_id q.1 (fun r => q.2 (by rw [Int32.lt_iff_toInt_lt] at r ⊢; have e1 : (65535 : Int32).toInt = 65535 := rfl; have e2 : (255 : Int32).toInt = 255 := rfl; omega))]; exact q
theorem mem2 {P : Int32 → Prop} {x : Int32} {L : List Int32} (q : P x) (r : ∀ c ∈ L, P c) : ∀ c ∈ x :: L, P c := fun c hc => (List.mem_cons.mp hc).elim (fun u => u ▸ q) (r c)
theorem mem0 {P : Int32 → Prop} : ∀ c ∈ ([] : List Int32), P c := fun _ q => nomatch q
/-- new String(char[]), 1 to 4,000 chars, each 0 to 255 -/
theorem payNew {W n : Nat} (hws : ∀ d ∈ StrChars.Road.words, d.before a0 Z = true) (wi : (Jvm.Cond.instantiable "java/lang/String" 4).before a0 Z = true) {x b : Addr} {kC : ClassId} {dv v0 c0 : Value} {z N : Int32} (E : Exa Z h x "java/lang/String") (V : Fld Z h x "java/lang/String" "value" "[B" v0) (C : Fld Z h x "java/lang/String" "coder" "B" c0) (K : Arv Z h b kC .char N (cs.map Value.int) dv)
    (S : Sta Z h "java/lang/String" "COMPACT_STRINGS" "Z" (.int z)) (hz : ¬ z = 0) (hn : cs.length = n) (hN : N = Int32.ofNat n) (l0 : 0 < n) (l2 : n ≤ 4000) (hp : ∀ c ∈ cs, ¬ c < 0 ∧ ¬ (255 : Int32) < c) (hfr : 4 ≤ R.frames) (hlo : W + 65 ≤ R.locals) :
    PayN l R p e below args Z (⟨"java/lang/String", "<init>", "([C)V"⟩ : MethodName) W #[.ref x, .ref b] h 1 n [x] (fun v h' => v = none ∧ ∃ t, @Eq Nat t h.size ∧ h'.size > t ∧ Str Z h' x t cs) := fun s hZ => by
  subst hn hN
  refine Back.mono (StrChars.Road.backArv hZ hws wi E V C K S hz (Int32.toNatClampNeg_ofNat_of_lt (by omega)) l0 (by omega) (fun c hc => (hp c hc).2) hfr hlo) (fun P a hp => hp) (fun P a v B hp' hq => ?_)
  obtain ⟨L, ⟨q1, q2, q3, q4, q5, q6, q7, ⟨kb, v1, v2⟩, q9⟩, hl, hc, hs⟩ := hq
  exact ⟨L, ⟨⟨q1, h.size, rfl, (by show h.size < _; omega), str_of hp l2 q5 q6 q7 rfl rfl v2⟩, fun y hy => Or.inl (by rw [q2 y hy]; exact List.mem_singleton.mpr rfl), q3⟩, hl, hc, hs⟩
theorem payEmp {W : Nat} (hws : ∀ d ∈ StrChars.Road.wordsEmp, d.before a0 Z = true) (wi : (Jvm.Cond.instantiable "java/lang/String" 4).before a0 Z = true) {x : Addr} (F : Str Z h x t cs) (hfr : 1 ≤ R.frames) (hlo : W + 12 ≤ R.locals) :
    PayN l R p e below args Z (⟨"java/lang/String", "isEmpty", "()Z"⟩ : MethodName) W #[.ref x] h 0 0 [] (fun v h' => v = some (.int (if cs.length = 0 then 1 else 0)) ∧ h = h') := fun s hZ => by
  obtain ⟨h1, h2, h3, h4, cd, N2, vs, kb, h5, h6, h7⟩ := F
  refine Back.mono (StrChars.Road.empW hZ hws wi h3 h4 h5 h6 h7 h1 h2 hfr hlo) (fun P a hp => hp) (fun P a v B hp' hq => ?_)
  obtain ⟨L, ⟨q1, rfl, q3⟩, hl, hc, hs⟩ := hq
  exact ⟨[], ⟨⟨q1, q3.symm⟩, (fun y hy => nomatch hy), by rw [q3]; exact Keep.refl _ _⟩, hl, hc, hs⟩
theorem payEq {W : Nat} (hws : ∀ d ∈ StrChars.Road.wordsEq, d.before a0 Z = true) (wi : (Jvm.Cond.instantiable "java/lang/String" 4).before a0 Z = true) {x y t' : Addr} {z : Int32} (F : Str Z h x t cs) (G : Str Z h y t' ds) (S : Sta Z h "java/lang/String" "COMPACT_STRINGS" "Z" (.int z)) (hz : ¬ z = 0) (hfr : 2 ≤ R.frames) (hlo : W + 28 ≤ R.locals) :
    PayN l R p e below args Z (⟨"java/lang/String", "equals", "(Ljava/lang/Object;)Z"⟩ : MethodName) W #[.ref x, .ref y] h 0 0 [] (fun v h' => v = some (.int (if cs = ds then 1 else 0)) ∧ h = h') := fun s hZ => by
  obtain ⟨h1, h2, h3, h4, cd, N2, vs, kb, h5, h6, h7⟩ := F
  obtain ⟨g1, g2, g3, g4, cd', N2', vs', kb', g5, g6, g7⟩ := G
  refine Back.mono (StrChars.Road.eqW hZ hws wi h3 h4 h5 h6 h7 h1 h2 g3 g4 g5 g6 g7 g1 g2 S hz hfr hlo) (fun P a hp => hp) (fun P a v B hp' hq => ?_)
  obtain ⟨L, ⟨q1, rfl, q3⟩, hl, hc, hs⟩ := hq
  refine ⟨[], ⟨⟨?_, q3.symm⟩, (fun y hy => nomatch hy), by rw [q3]; exact Keep.refl _ _⟩, hl, hc, hs⟩
  rcases q1 with ⟨q, r⟩ | ⟨q, r⟩
  · rw [if_pos r]; exact q
  · rw [if_neg r]; exact q
theorem payEqY {W : Nat} (q : cs = ds) (hws : ∀ d ∈ StrChars.Road.wordsEq, d.before a0 Z = true) (wi : (Jvm.Cond.instantiable "java/lang/String" 4).before a0 Z = true) {x y t' : Addr} {z : Int32} (F : Str Z h x t cs) (G : Str Z h y t' ds) (S : Sta Z h "java/lang/String" "COMPACT_STRINGS" "Z" (.int z)) (hz : ¬ z = 0) (hfr : 2 ≤ R.frames) (hlo : W + 28 ≤ R.locals) :
    PayN l R p e below args Z (⟨"java/lang/String", "equals", "(Ljava/lang/Object;)Z"⟩ : MethodName) W #[.ref x, .ref y] h 0 0 [] (fun v h' => v = some (.int 1) ∧ h = h') := by
  have := payEq (l := l) (p := p) (e := e) (below := below) (args := args) hws wi F G S hz hfr hlo
  rw [if_pos q] at this; exact this
theorem payEqN {W : Nat} (q : ¬ cs = ds) (hws : ∀ d ∈ StrChars.Road.wordsEq, d.before a0 Z = true) (wi : (Jvm.Cond.instantiable "java/lang/String" 4).before a0 Z = true) {x y t' : Addr} {z : Int32} (F : Str Z h x t cs) (G : Str Z h y t' ds) (S : Sta Z h "java/lang/String" "COMPACT_STRINGS" "Z" (.int z)) (hz : ¬ z = 0) (hfr : 2 ≤ R.frames) (hlo : W + 28 ≤ R.locals) :
    PayN l R p e below args Z (⟨"java/lang/String", "equals", "(Ljava/lang/Object;)Z"⟩ : MethodName) W #[.ref x, .ref y] h 0 0 [] (fun v h' => v = some (.int 0) ∧ h = h') := by
  have := payEq (l := l) (p := p) (e := e) (below := below) (args := args) hws wi F G S hz hfr hlo
  rw [if_neg q] at this; exact this
end OwnStr
end Jvm.Pilot.@@N@@
namespace Jvm.Pilot.@@N@@
open Jvm Jvm.ClassFile Sem Op Lib Jvm.Free Jvm.Stand Jvm.LawKit Jvm.RoadKit Bundle Jvm.Pilot.@@N@@.Jvm.D
section OwnStart
variable {args : Array Value} {s : State} {t u : Term} {a : Addr}
theorem ev_int {n : Int32} (q : (Jvm.Cond.eq t (.int n)).value args s none s [] = some true) : t.eval args s none [] s = some (.int n) := by
  obtain ⟨x, y, h1, h2, k1, k2⟩ := cmp_v (Or.inl q)
  cases h2.symm.trans (Term.int_eval n)
  obtain ⟨z, rfl⟩ := k2
  have := gotT (Cond.eq_ints h1 (Term.int_eval n)) q
  rw [h1, this]
theorem ev_ref {y : Addr} (q : (Jvm.Cond.eq t u).value args s none s [] = some true) (hu : u.eval args s none [] s = some (.ref y)) : t.eval args s none [] s = some (.ref y) := by
  obtain ⟨x, y', h1, h2, k1, k2⟩ := cmp_v (Or.inl q)
  cases hu.symm.trans h2
  have hx : x.isRef = true := k2.2
  have := gotT (eq_R h1 hu hx rfl) q
  rw [h1, this]
theorem fld_start {C n d : String} {v : Value} (ev : t.eval args s none [] s = some (.ref a)) (q : (Term.field t C n d).eval args s none [] s = some v) : Fld s s.heap a C n d v := Fld.start ((fld_at ev).symm.trans q)
theorem hasL_of {cl : Cell} {dv : Value} : ∀ (vs : List Value) (i : Nat), (∀ j, j < vs.length → cl.slots[i + j]? = some (vs.getD j dv)) → HasL cl i vs
  | [], _, _ => trivial
  | v :: r, i, H => ⟨by have := H 0 (by simp); simpa using this, hasL_of r (i + 1) fun j hj => by
      have := H (j + 1) (by simpa using hj)
      rw [show i + 1 + j = i + (j + 1) by omega]; simpa using this⟩
theorem arr_start {ty : FieldType} {n : Int32} {vs : List Value} {dv : Value} (hfit : Fit s) (ev : t.eval args s none [] s = some (.ref a)) (q1 : (Jvm.Cond.arrayOf t ty).value args s none s [] = some true) (q2 : (Jvm.Cond.eq (.length t) (.int n)).value args s none s [] = some true) (hn : ¬ n < 0) (hl : n.toNatClampNeg = vs.length)
    (q3 : ∀ j, j < vs.length → (Term.elem t (.int (Int32.ofNat j))).eval args s none [] s = some (vs.getD j dv)) : ∃ k, Arv s s.heap a k ty n vs dv := by
  obtain ⟨cl, A⟩ := Arr.start ev q1
  have hat : s.arrayAt? a = some cl := A.fin (Vm.Alike.refl _)
  have hlen := ev_int q2
  have h31 := Jvm.Free.SBG.length_lt ev hat hlen
  have e := len_f ev hat h31
  have e2 : cl.slots.size.toInt32 = n := by
    have q := Option.some.inj (e.symm.trans hlen)
    injection q
  have hsz : vs.length < 2 ^ 31 := by
    rw [← hl]; have := Int32.toInt_lt n; simp only [Int32.toNatClampNeg]; omega
  refine ⟨cl.cls, Arv.start hfit A h31 e2 hn hl (hasL_of (dv := dv) vs 0 fun j hj => ?_)⟩
  have q := (elem_in (q3 j hj) ev (Term.int_eval _) A.1).2
  rw [Int32.toNatClampNeg_ofNat_of_lt (Nat.lt_trans hj hsz)] at q
  rw [Nat.zero_add]; exact q
theorem str_start {cs : List Int32} (hfit : Fit s) (ev : t.eval args s none [] s = some (.ref a)) (q1 : (Jvm.Cond.exactly t "java/lang/String").value args s none s [] = some true) (q2 : (Jvm.Cond.eq (.field t "java/lang/String" "coder" "B") (.int 0)).value args s none s [] = some true) (q3 : (Jvm.Cond.arrayOf (.field t "java/lang/String" "value" "[B") .byte).value args s none s [] = some true)
    (q4 : (Jvm.Cond.eq (.length (.field t "java/lang/String" "value" "[B")) (.int (Int32.ofNat cs.length))).value args s none s [] = some true) (hp : ∀ c ∈ cs, ¬ c < 0 ∧ ¬ (255 : Int32) < c) (l2 : cs.length ≤ 4000)
    (q5 : ∀ j, j < cs.length → (Term.elem (.field t "java/lang/String" "value" "[B") (.int (Int32.ofNat j))).eval args s none [] s = some ((cs.map fun c => Value.int (StrChars.lo8 c)).getD j (.int 0))) : ∃ b, Str s s.heap a b cs := by
  obtain ⟨b, eb⟩ := arr_v q3
  have hz : ¬ (Int32.ofNat cs.length) < 0 := by
    rw [Int32.lt_iff_toInt_lt, len_toInt (n := cs.length) (by omega)]; show ¬ ((cs.length : Int) < 0); omega
  obtain ⟨k, A⟩ := arr_start (dv := .int 0) hfit eb q3 q4 hz (by rw [List.length_map]; exact Int32.toNatClampNeg_ofNat_of_lt (by omega)) (fun j hj => q5 j (by simpa using hj))
  exact ⟨b, str_of hp l2 (Exa.start ev q1) (fld_start ev eb) (fld_start ev (ev_int q2)) rfl rfl A⟩
end OwnStart
end Jvm.Pilot.@@N@@
namespace Jvm.Pilot.@@N@@
open Jvm Jvm.ClassFile Sem Op Lib Jvm.Free Jvm.Stand Jvm.LawKit Jvm.RoadKit Bundle Jvm.Pilot.@@N@@.Jvm.D
theorem hws_new {Z : State} {a0 : Array Value} (hw : ∀ d ∈ tables_1, d.before a0 Z = true) : ∀ d ∈ StrChars.Road.words, d.before a0 Z = true := fun d hd => hw d ((by decide +kernel : ∀ d ∈ StrChars.Road.words, d ∈ tables_1) d hd)
theorem hws_eq {Z : State} {a0 : Array Value} (hw : ∀ d ∈ tables_1, d.before a0 Z = true) : ∀ d ∈ StrChars.Road.wordsEq, d.before a0 Z = true := fun d hd => hw d ((by decide +kernel : ∀ d ∈ StrChars.Road.wordsEq, d ∈ tables_1) d hd)
theorem hws_emp {Z : State} {a0 : Array Value} (hw : ∀ d ∈ tables_1, d.before a0 Z = true) : ∀ d ∈ StrChars.Road.wordsEmp, d.before a0 Z = true := fun d hd => hw d ((by decide +kernel : ∀ d ∈ StrChars.Road.wordsEmp, d ∈ tables_1) d hd)
theorem hws_sa {Z : State} {a0 : Array Value} (hw : ∀ d ∈ tables_1, d.before a0 Z = true) : ∀ d ∈ Bundle.stringAtoms, d.before a0 Z = true := fun d hd => hw d ((by decide +kernel : ∀ d ∈ Bundle.stringAtoms, d ∈ tables_1) d hd)
def own_bit (x i : Int32) : Int32 := if (XT.ushr x i &&& (1 : Int32)) = 0 then 0 else 1
def own_byte (x i : Int32) : Int32 := (XT.ushr x ((8 : Int32) * i)) &&& (255 : Int32)
def own_rc1 (p q mode i : Int32) : Int32 := if own_bit mode i = 0 then own_byte p i else own_byte q i
def own_rc2 (s t mode i : Int32) : Int32 := if own_bit mode ((4 : Int32) + i) = 0 then own_byte s i else own_byte t i
def own_rtwo (mode i : Int32) : Int32 := if own_bit mode ((12 : Int32) + i) = 0 then own_bit mode ((8 : Int32) + i) else own_bit mode ((16 : Int32) + i)
def own_str (c1 c2 b : Int32) : List Int32 := if b = 0 then [c1] else [c1, c2]
def own_left (p s mode i : Int32) : List Int32 := own_str (own_byte p i) (own_byte s i) (own_bit mode ((8 : Int32) + i))
def own_right (p q s t mode i : Int32) : List Int32 := own_str (own_rc1 p q mode i) (own_rc2 s t mode i) (own_rtwo mode i)
theorem own_up {c : Int32} (h : ¬ (255 : Int32) < c) : ¬ (65535 : Int32) < c := fun r => h (by rw [Int32.lt_iff_toInt_lt] at r ⊢; have e1 : (65535 : Int32).toInt = 65535 := rfl; have e2 : (255 : Int32).toInt = 255 := rfl; omega)
theorem own_id {c : Int32} (q : ¬ c < 0 ∧ ¬ (255 : Int32) < c) : nar .char (nar .char c) = c := by
  rw [nar_id q.1 (own_up q.2), nar_id q.1 (own_up q.2)]
theorem own_bit01 (x i : Int32) : own_bit x i = 0 ∨ own_bit x i = 1 := by unfold own_bit; split <;> simp
theorem own_rtwo01 (x i : Int32) : own_rtwo x i = 0 ∨ own_rtwo x i = 1 := by unfold own_rtwo; split <;> exact own_bit01 _ _
theorem own_nar {b : Int32} (r : b = 0 ∨ b = 1) : nar .boolean b = b := by rcases r with rfl | rfl <;> rfl
theorem own_byte_lat (x i : Int32) : ¬ own_byte x i < 0 ∧ ¬ (255 : Int32) < own_byte x i := lat_and _
theorem own_rc1_lat (p q mode i : Int32) : ¬ own_rc1 p q mode i < 0 ∧ ¬ (255 : Int32) < own_rc1 p q mode i := by unfold own_rc1; split <;> exact own_byte_lat _ _
theorem own_rc2_lat (p q mode i : Int32) : ¬ own_rc2 p q mode i < 0 ∧ ¬ (255 : Int32) < own_rc2 p q mode i := by unfold own_rc2; split <;> exact own_byte_lat _ _
theorem own_str_len (a b c : Int32) : ¬ (own_str a b c).length = 0 := by unfold own_str; split <;> simp
theorem own_seq {c1 c2 d1 d2 a b : Int32} (e : a = b) (f : c1 = d1) (g : a = 0 ∨ c2 = d2) : own_str c1 c2 a = own_str d1 d2 b := by
  subst e f
  unfold own_str
  split
  · rfl
  · rename_i h; rcases g with g | g
    · exact absurd g h
    · rw [g]
theorem own_sne1 {c1 c2 d1 d2 a b : Int32} (ra : a = 0 ∨ a = 1) (rb : b = 0 ∨ b = 1) (e : ¬ a = b) : ¬ own_str c1 c2 a = own_str d1 d2 b := fun h => by
  have h := congrArg List.length h
  rcases ra with rfl | rfl <;> rcases rb with rfl | rfl <;> first | exact absurd rfl e | exact absurd h (by simp [own_str])
theorem own_sne2 {c1 c2 d1 d2 a b : Int32} (f : ¬ c1 = d1) : ¬ own_str c1 c2 a = own_str d1 d2 b := fun h => by
  apply f
  unfold own_str at h
  split at h <;> split at h <;> exact (List.cons.inj h).1
theorem own_sne3 {c1 c2 d1 d2 a b : Int32} (e : a = b) (n : ¬ a = 0) (f : ¬ c2 = d2) : ¬ own_str c1 c2 a = own_str d1 d2 b := fun h => by
  subst e
  unfold own_str at h
  rw [if_neg n, if_neg n] at h
  exact f (List.cons.inj (List.cons.inj h).2).1
def Base (Z : State) (a0 : Array Value) (zc : Int32) : Prop := (∀ d ∈ tables_1, d.before a0 Z = true) ∧ (Sta Z Z.heap "java/lang/String" "COMPACT_STRINGS" "Z" (.int zc)) ∧ (¬ zc = 0)
theorem ef_c_req (m : MethodId) (x0 : Addr) (x1 : Addr) : entryFrame m #[(.ref x0), (.ref x1)] 2 = mkF m 0 #[.val (.ref x0), .val (.ref x1)] [] := by first | (simp [entryFrame, mkF, argsToLocals, Value.category]; done) | rfl
theorem pn_com_example_timely_errand_timelyerrand_engine_JobCollectionId : plainName "com/example/timely_errand/timelyerrand/engine/JobCollectionId" = true := by first | (simp [plainName, overriddenIn]; done) | decide +kernel
theorem d_prog_18_m9_0 : decode prog_18_method_9_code 0 = .ok (.aload_n 0, 1) := by decide +kernel
theorem d_prog_18_m9_1 : decode prog_18_method_9_code 1 = .ok (.invokevirtual 46, 3) := by decide +kernel
theorem pd___Z : parseMethodDescriptor "()Z" = some ⟨[], some .boolean⟩ := by decide +kernel
theorem d_prog_18_m9_4 : decode prog_18_method_9_code 4 = .ok (.ifCond .eq 17, 3) := by decide +kernel
theorem d_prog_18_m9_21 : decode prog_18_method_9_code 21 = .ok (.aload_n 0, 1) := by decide +kernel
theorem d_prog_18_m9_22 : decode prog_18_method_9_code 22 = .ok (.areturn, 1) := by decide +kernel
theorem ef_c_init (m : MethodId) (x0 : Addr) (x1 : Addr) (x2 : Addr) (x3 : Addr) : entryFrame m #[(.ref x0), (.ref x1), (.ref x2), (.ref x3)] 4 = mkF m 0 #[.val (.ref x0), .val (.ref x1), .val (.ref x2), .val (.ref x3)] [] := by first | (simp [entryFrame, mkF, argsToLocals, Value.category]; done) | rfl
theorem d_prog_18_m1_0 : decode prog_18_method_1_code 0 = .ok (.aload_n 0, 1) := by decide +kernel
theorem d_prog_18_m1_1 : decode prog_18_method_1_code 1 = .ok (.invokespecial 1, 3) := by decide +kernel
theorem d_prog_18_m1_4 : decode prog_18_method_1_code 4 = .ok (.aload_n 0, 1) := by decide +kernel
theorem d_prog_18_m1_5 : decode prog_18_method_1_code 5 = .ok (.aload_n 1, 1) := by decide +kernel
theorem d_prog_18_m1_6 : decode prog_18_method_1_code 6 = .ok (.ldc 7, 2) := by decide +kernel
theorem d_prog_18_m1_8 : decode prog_18_method_1_code 8 = .ok (.invokestatic 9, 3) := by decide +kernel
theorem pd__Ljava_lang_String_Ljava_lang_String__Ljava_lang_String_ : parseMethodDescriptor "(Ljava/lang/String;Ljava/lang/String;)Ljava/lang/String;" = some ⟨[(.object "java/lang/String"), (.object "java/lang/String")], some (.object "java/lang/String")⟩ := by decide +kernel
theorem d_prog_18_m1_11 : decode prog_18_method_1_code 11 = .ok (.putfield 15, 3) := by decide +kernel
theorem d_prog_18_m1_14 : decode prog_18_method_1_code 14 = .ok (.aload_n 0, 1) := by decide +kernel
theorem d_prog_18_m1_15 : decode prog_18_method_1_code 15 = .ok (.aload_n 2, 1) := by decide +kernel
theorem d_prog_18_m1_16 : decode prog_18_method_1_code 16 = .ok (.ldc 18, 2) := by decide +kernel
theorem d_prog_18_m1_18 : decode prog_18_method_1_code 18 = .ok (.invokestatic 9, 3) := by decide +kernel
theorem d_prog_18_m1_21 : decode prog_18_method_1_code 21 = .ok (.putfield 20, 3) := by decide +kernel
theorem d_prog_18_m1_24 : decode prog_18_method_1_code 24 = .ok (.aload_n 0, 1) := by decide +kernel
theorem d_prog_18_m1_25 : decode prog_18_method_1_code 25 = .ok (.aload_n 3, 1) := by decide +kernel
theorem d_prog_18_m1_26 : decode prog_18_method_1_code 26 = .ok (.ldc 22, 2) := by decide +kernel
theorem d_prog_18_m1_28 : decode prog_18_method_1_code 28 = .ok (.invokestatic 9, 3) := by decide +kernel
theorem d_prog_18_m1_31 : decode prog_18_method_1_code 31 = .ok (.putfield 24, 3) := by decide +kernel
theorem d_prog_18_m1_34 : decode prog_18_method_1_code 34 = .ok (.return_, 1) := by decide +kernel
theorem ef_c_eq (m : MethodId) (x0 : Addr) (x1 : Addr) : entryFrame m #[(.ref x0), (.ref x1)] 3 = mkF m 0 #[.val (.ref x0), .val (.ref x1), .unset] [] := by first | (simp [entryFrame, mkF, argsToLocals, Value.category]; done) | rfl
theorem d_prog_18_m6_0 : decode prog_18_method_6_code 0 = .ok (.aload_n 1, 1) := by decide +kernel
theorem d_prog_18_m6_1 : decode prog_18_method_6_code 1 = .ok (.instanceof 10, 3) := by decide +kernel
theorem d_prog_18_m6_4 : decode prog_18_method_6_code 4 = .ok (.ifCond .eq 54, 3) := by decide +kernel
theorem d_prog_18_m6_7 : decode prog_18_method_6_code 7 = .ok (.aload_n 1, 1) := by decide +kernel
theorem d_prog_18_m6_8 : decode prog_18_method_6_code 8 = .ok (.checkcast 10, 3) := by decide +kernel
theorem d_prog_18_m6_11 : decode prog_18_method_6_code 11 = .ok (.astore_n 2, 1) := by decide +kernel
theorem d_prog_18_m6_12 : decode prog_18_method_6_code 12 = .ok (.aload_n 0, 1) := by decide +kernel
theorem d_prog_18_m6_13 : decode prog_18_method_6_code 13 = .ok (.getfield 15, 3) := by decide +kernel
theorem d_prog_18_m6_16 : decode prog_18_method_6_code 16 = .ok (.aload_n 2, 1) := by decide +kernel
theorem d_prog_18_m6_17 : decode prog_18_method_6_code 17 = .ok (.getfield 15, 3) := by decide +kernel
theorem d_prog_18_m6_20 : decode prog_18_method_6_code 20 = .ok (.invokevirtual 30, 3) := by decide +kernel
theorem pd__Ljava_lang_Object__Z : parseMethodDescriptor "(Ljava/lang/Object;)Z" = some ⟨[(.object "java/lang/Object")], some .boolean⟩ := by decide +kernel
theorem d_prog_18_m6_23 : decode prog_18_method_6_code 23 = .ok (.ifCond .eq 35, 3) := by decide +kernel
theorem d_prog_18_m6_26 : decode prog_18_method_6_code 26 = .ok (.aload_n 0, 1) := by decide +kernel
theorem d_prog_18_m6_27 : decode prog_18_method_6_code 27 = .ok (.getfield 20, 3) := by decide +kernel
theorem d_prog_18_m6_30 : decode prog_18_method_6_code 30 = .ok (.aload_n 2, 1) := by decide +kernel
theorem d_prog_18_m6_31 : decode prog_18_method_6_code 31 = .ok (.getfield 20, 3) := by decide +kernel
theorem d_prog_18_m6_34 : decode prog_18_method_6_code 34 = .ok (.invokevirtual 30, 3) := by decide +kernel
theorem d_prog_18_m6_37 : decode prog_18_method_6_code 37 = .ok (.ifCond .eq 21, 3) := by decide +kernel
theorem d_prog_18_m6_40 : decode prog_18_method_6_code 40 = .ok (.aload_n 0, 1) := by decide +kernel
theorem d_prog_18_m6_41 : decode prog_18_method_6_code 41 = .ok (.getfield 24, 3) := by decide +kernel
theorem d_prog_18_m6_44 : decode prog_18_method_6_code 44 = .ok (.aload_n 2, 1) := by decide +kernel
theorem d_prog_18_m6_45 : decode prog_18_method_6_code 45 = .ok (.getfield 24, 3) := by decide +kernel
theorem d_prog_18_m6_48 : decode prog_18_method_6_code 48 = .ok (.invokevirtual 30, 3) := by decide +kernel
theorem d_prog_18_m6_51 : decode prog_18_method_6_code 51 = .ok (.ifCond .eq 7, 3) := by decide +kernel
theorem d_prog_18_m6_54 : decode prog_18_method_6_code 54 = .ok (.iconst 1, 1) := by decide +kernel
theorem d_prog_18_m6_55 : decode prog_18_method_6_code 55 = .ok (.goto 4, 3) := by decide +kernel
theorem d_prog_18_m6_59 : decode prog_18_method_6_code 59 = .ok (.ireturn, 1) := by decide +kernel
theorem d_prog_18_m6_58 : decode prog_18_method_6_code 58 = .ok (.iconst 0, 1) := by decide +kernel
theorem ef_c_eq0 (m : MethodId) (x0 : Addr) : entryFrame m #[(.ref x0), .null] 3 = mkF m 0 #[.val (.ref x0), .val .null, .unset] [] := by first | (simp [entryFrame, mkF, argsToLocals, Value.category]; done) | rfl
theorem ef_c_bit (m : MethodId) (x0 : Int32) (x1 : Int32) : entryFrame m #[(.int x0), (.int x1)] 2 = mkF m 0 #[.val (.int x0), .val (.int x1)] [] := by first | (simp [entryFrame, mkF, argsToLocals, Value.category]; done) | rfl
theorem pn_com_example_timely_errand_timelyerrand_engine_JobIdEqualsPinLaw : plainName "com/example/timely_errand/timelyerrand/engine/JobIdEqualsPinLaw" = true := by first | (simp [plainName, overriddenIn]; done) | decide +kernel
theorem d_m3_0 : decode method_3_code 0 = .ok (.iload_n 0, 1) := by decide +kernel
theorem d_m3_1 : decode method_3_code 1 = .ok (.iload_n 1, 1) := by decide +kernel
theorem d_m3_2 : decode method_3_code 2 = .ok (.iushr, 1) := by decide +kernel
theorem d_m3_3 : decode method_3_code 3 = .ok (.iconst 1, 1) := by decide +kernel
theorem d_m3_4 : decode method_3_code 4 = .ok (.iand, 1) := by decide +kernel
theorem d_m3_5 : decode method_3_code 5 = .ok (.ifCond .eq 7, 3) := by decide +kernel
theorem d_m3_12 : decode method_3_code 12 = .ok (.iconst 0, 1) := by decide +kernel
theorem d_m3_13 : decode method_3_code 13 = .ok (.ireturn, 1) := by decide +kernel
theorem d_m3_8 : decode method_3_code 8 = .ok (.iconst 1, 1) := by decide +kernel
theorem d_m3_9 : decode method_3_code 9 = .ok (.goto 4, 3) := by decide +kernel
theorem ef_c_byte (m : MethodId) (x0 : Int32) (x1 : Int32) : entryFrame m #[(.int x0), (.int x1)] 2 = mkF m 0 #[.val (.int x0), .val (.int x1)] [] := by first | (simp [entryFrame, mkF, argsToLocals, Value.category]; done) | rfl
theorem d_m2_0 : decode method_2_code 0 = .ok (.iload_n 0, 1) := by decide +kernel
theorem d_m2_1 : decode method_2_code 1 = .ok (.bipush 8, 2) := by decide +kernel
theorem d_m2_3 : decode method_2_code 3 = .ok (.iload_n 1, 1) := by decide +kernel
theorem d_m2_4 : decode method_2_code 4 = .ok (.imul, 1) := by decide +kernel
theorem d_m2_5 : decode method_2_code 5 = .ok (.iushr, 1) := by decide +kernel
theorem d_m2_6 : decode method_2_code 6 = .ok (.sipush 255, 3) := by decide +kernel
theorem d_m2_9 : decode method_2_code 9 = .ok (.iand, 1) := by decide +kernel
theorem d_m2_10 : decode method_2_code 10 = .ok (.ireturn, 1) := by decide +kernel
theorem ef_c_rc1 (m : MethodId) (x0 : Int32) (x1 : Int32) (x2 : Int32) (x3 : Int32) : entryFrame m #[(.int x0), (.int x1), (.int x2), (.int x3)] 4 = mkF m 0 #[.val (.int x0), .val (.int x1), .val (.int x2), .val (.int x3)] [] := by first | (simp [entryFrame, mkF, argsToLocals, Value.category]; done) | rfl
theorem d_m5_0 : decode method_5_code 0 = .ok (.iload_n 2, 1) := by decide +kernel
theorem d_m5_1 : decode method_5_code 1 = .ok (.iload_n 3, 1) := by decide +kernel
theorem d_m5_2 : decode method_5_code 2 = .ok (.invokestatic 12, 3) := by decide +kernel
theorem pd__II_Z : parseMethodDescriptor "(II)Z" = some ⟨[.int, .int], some .boolean⟩ := by decide +kernel
theorem d_m5_5 : decode method_5_code 5 = .ok (.ifCond .eq 11, 3) := by decide +kernel
theorem d_m5_16 : decode method_5_code 16 = .ok (.iload_n 0, 1) := by decide +kernel
theorem d_m5_17 : decode method_5_code 17 = .ok (.iload_n 3, 1) := by decide +kernel
theorem d_m5_18 : decode method_5_code 18 = .ok (.invokestatic 18, 3) := by decide +kernel
theorem pd__II_I : parseMethodDescriptor "(II)I" = some ⟨[.int, .int], some .int⟩ := by decide +kernel
theorem d_m5_21 : decode method_5_code 21 = .ok (.ireturn, 1) := by decide +kernel
theorem d_m5_8 : decode method_5_code 8 = .ok (.iload_n 1, 1) := by decide +kernel
theorem d_m5_9 : decode method_5_code 9 = .ok (.iload_n 3, 1) := by decide +kernel
theorem d_m5_10 : decode method_5_code 10 = .ok (.invokestatic 18, 3) := by decide +kernel
theorem d_m5_13 : decode method_5_code 13 = .ok (.goto 8, 3) := by decide +kernel
theorem ef_c_rc2 (m : MethodId) (x0 : Int32) (x1 : Int32) (x2 : Int32) (x3 : Int32) : entryFrame m #[(.int x0), (.int x1), (.int x2), (.int x3)] 4 = mkF m 0 #[.val (.int x0), .val (.int x1), .val (.int x2), .val (.int x3)] [] := by first | (simp [entryFrame, mkF, argsToLocals, Value.category]; done) | rfl
theorem d_m6_0 : decode method_6_code 0 = .ok (.iload_n 2, 1) := by decide +kernel
theorem d_m6_1 : decode method_6_code 1 = .ok (.iconst 4, 1) := by decide +kernel
theorem d_m6_2 : decode method_6_code 2 = .ok (.iload_n 3, 1) := by decide +kernel
theorem d_m6_3 : decode method_6_code 3 = .ok (.iadd, 1) := by decide +kernel
theorem d_m6_4 : decode method_6_code 4 = .ok (.invokestatic 12, 3) := by decide +kernel
theorem d_m6_7 : decode method_6_code 7 = .ok (.ifCond .eq 11, 3) := by decide +kernel
theorem d_m6_18 : decode method_6_code 18 = .ok (.iload_n 0, 1) := by decide +kernel
theorem d_m6_19 : decode method_6_code 19 = .ok (.iload_n 3, 1) := by decide +kernel
theorem d_m6_20 : decode method_6_code 20 = .ok (.invokestatic 18, 3) := by decide +kernel
theorem d_m6_23 : decode method_6_code 23 = .ok (.ireturn, 1) := by decide +kernel
theorem d_m6_10 : decode method_6_code 10 = .ok (.iload_n 1, 1) := by decide +kernel
theorem d_m6_11 : decode method_6_code 11 = .ok (.iload_n 3, 1) := by decide +kernel
theorem d_m6_12 : decode method_6_code 12 = .ok (.invokestatic 18, 3) := by decide +kernel
theorem d_m6_15 : decode method_6_code 15 = .ok (.goto 8, 3) := by decide +kernel
theorem ef_c_rtwo (m : MethodId) (x0 : Int32) (x1 : Int32) : entryFrame m #[(.int x0), (.int x1)] 2 = mkF m 0 #[.val (.int x0), .val (.int x1)] [] := by first | (simp [entryFrame, mkF, argsToLocals, Value.category]; done) | rfl
theorem d_m7_0 : decode method_7_code 0 = .ok (.iload_n 0, 1) := by decide +kernel
theorem d_m7_1 : decode method_7_code 1 = .ok (.bipush 12, 2) := by decide +kernel
theorem d_m7_3 : decode method_7_code 3 = .ok (.iload_n 1, 1) := by decide +kernel
theorem d_m7_4 : decode method_7_code 4 = .ok (.iadd, 1) := by decide +kernel
theorem d_m7_5 : decode method_7_code 5 = .ok (.invokestatic 12, 3) := by decide +kernel
theorem d_m7_8 : decode method_7_code 8 = .ok (.ifCond .eq 14, 3) := by decide +kernel
theorem d_m7_22 : decode method_7_code 22 = .ok (.iload_n 0, 1) := by decide +kernel
theorem d_m7_23 : decode method_7_code 23 = .ok (.bipush 8, 2) := by decide +kernel
theorem d_m7_25 : decode method_7_code 25 = .ok (.iload_n 1, 1) := by decide +kernel
theorem d_m7_26 : decode method_7_code 26 = .ok (.iadd, 1) := by decide +kernel
theorem d_m7_27 : decode method_7_code 27 = .ok (.invokestatic 12, 3) := by decide +kernel
theorem d_m7_30 : decode method_7_code 30 = .ok (.ireturn, 1) := by decide +kernel
theorem d_m7_11 : decode method_7_code 11 = .ok (.iload_n 0, 1) := by decide +kernel
theorem d_m7_12 : decode method_7_code 12 = .ok (.bipush 16, 2) := by decide +kernel
theorem d_m7_14 : decode method_7_code 14 = .ok (.iload_n 1, 1) := by decide +kernel
theorem d_m7_15 : decode method_7_code 15 = .ok (.iadd, 1) := by decide +kernel
theorem d_m7_16 : decode method_7_code 16 = .ok (.invokestatic 12, 3) := by decide +kernel
theorem d_m7_19 : decode method_7_code 19 = .ok (.goto 11, 3) := by decide +kernel
theorem ef_c_str (m : MethodId) (x0 : Int32) (x1 : Int32) (x2 : Int32) : entryFrame m #[(.int x0), (.int x1), (.int x2)] 3 = mkF m 0 #[.val (.int x0), .val (.int x1), .val (.int x2)] [] := by first | (simp [entryFrame, mkF, argsToLocals, Value.category]; done) | rfl
theorem d_m4_0 : decode method_4_code 0 = .ok (.iload_n 2, 1) := by decide +kernel
theorem d_m4_1 : decode method_4_code 1 = .ok (.ifCond .eq 24, 3) := by decide +kernel
theorem d_m4_25 : decode method_4_code 25 = .ok (.new 7, 3) := by decide +kernel
theorem d_m4_28 : decode method_4_code 28 = .ok (.dup, 1) := by decide +kernel
theorem d_m4_29 : decode method_4_code 29 = .ok (.iconst 1, 1) := by decide +kernel
theorem d_m4_30 : decode method_4_code 30 = .ok (.newarray .char, 2) := by decide +kernel
theorem d_m4_32 : decode method_4_code 32 = .ok (.dup, 1) := by decide +kernel
theorem d_m4_33 : decode method_4_code 33 = .ok (.iconst 0, 1) := by decide +kernel
theorem d_m4_34 : decode method_4_code 34 = .ok (.iload_n 0, 1) := by decide +kernel
theorem d_m4_35 : decode method_4_code 35 = .ok (.i2c, 1) := by decide +kernel
theorem d_m4_36 : decode method_4_code 36 = .ok (.castore, 1) := by decide +kernel
theorem d_m4_37 : decode method_4_code 37 = .ok (.invokespecial 9, 3) := by decide +kernel
theorem pd__AC_V : parseMethodDescriptor "([C)V" = some ⟨[(.array .char)], none⟩ := by decide +kernel
theorem d_m4_40 : decode method_4_code 40 = .ok (.areturn, 1) := by decide +kernel
theorem d_m4_4 : decode method_4_code 4 = .ok (.new 7, 3) := by decide +kernel
theorem d_m4_7 : decode method_4_code 7 = .ok (.dup, 1) := by decide +kernel
theorem d_m4_8 : decode method_4_code 8 = .ok (.iconst 2, 1) := by decide +kernel
theorem d_m4_9 : decode method_4_code 9 = .ok (.newarray .char, 2) := by decide +kernel
theorem d_m4_11 : decode method_4_code 11 = .ok (.dup, 1) := by decide +kernel
theorem d_m4_12 : decode method_4_code 12 = .ok (.iconst 0, 1) := by decide +kernel
theorem d_m4_13 : decode method_4_code 13 = .ok (.iload_n 0, 1) := by decide +kernel
theorem d_m4_14 : decode method_4_code 14 = .ok (.i2c, 1) := by decide +kernel
theorem d_m4_15 : decode method_4_code 15 = .ok (.castore, 1) := by decide +kernel
theorem d_m4_16 : decode method_4_code 16 = .ok (.dup, 1) := by decide +kernel
theorem d_m4_17 : decode method_4_code 17 = .ok (.iconst 1, 1) := by decide +kernel
theorem d_m4_18 : decode method_4_code 18 = .ok (.iload_n 1, 1) := by decide +kernel
theorem d_m4_19 : decode method_4_code 19 = .ok (.i2c, 1) := by decide +kernel
theorem d_m4_20 : decode method_4_code 20 = .ok (.castore, 1) := by decide +kernel
theorem d_m4_21 : decode method_4_code 21 = .ok (.invokespecial 9, 3) := by decide +kernel
theorem d_m4_24 : decode method_4_code 24 = .ok (.areturn, 1) := by decide +kernel
theorem ef_c_left (m : MethodId) (x0 : Int32) (x1 : Int32) (x2 : Int32) (x3 : Int32) : entryFrame m #[(.int x0), (.int x1), (.int x2), (.int x3)] 4 = mkF m 0 #[.val (.int x0), .val (.int x1), .val (.int x2), .val (.int x3)] [] := by first | (simp [entryFrame, mkF, argsToLocals, Value.category]; done) | rfl
theorem d_m8_0 : decode method_8_code 0 = .ok (.iload_n 0, 1) := by decide +kernel
theorem d_m8_1 : decode method_8_code 1 = .ok (.iload_n 3, 1) := by decide +kernel
theorem d_m8_2 : decode method_8_code 2 = .ok (.invokestatic 18, 3) := by decide +kernel
theorem d_m8_5 : decode method_8_code 5 = .ok (.iload_n 1, 1) := by decide +kernel
theorem d_m8_6 : decode method_8_code 6 = .ok (.iload_n 3, 1) := by decide +kernel
theorem d_m8_7 : decode method_8_code 7 = .ok (.invokestatic 18, 3) := by decide +kernel
theorem d_m8_10 : decode method_8_code 10 = .ok (.iload_n 2, 1) := by decide +kernel
theorem d_m8_11 : decode method_8_code 11 = .ok (.bipush 8, 2) := by decide +kernel
theorem d_m8_13 : decode method_8_code 13 = .ok (.iload_n 3, 1) := by decide +kernel
theorem d_m8_14 : decode method_8_code 14 = .ok (.iadd, 1) := by decide +kernel
theorem d_m8_15 : decode method_8_code 15 = .ok (.invokestatic 12, 3) := by decide +kernel
theorem d_m8_18 : decode method_8_code 18 = .ok (.invokestatic 22, 3) := by decide +kernel
theorem pd__IIZ_Ljava_lang_String_ : parseMethodDescriptor "(IIZ)Ljava/lang/String;" = some ⟨[.int, .int, .boolean], some (.object "java/lang/String")⟩ := by decide +kernel
theorem d_m8_21 : decode method_8_code 21 = .ok (.areturn, 1) := by decide +kernel
theorem ef_c_right (m : MethodId) (x0 : Int32) (x1 : Int32) (x2 : Int32) (x3 : Int32) (x4 : Int32) (x5 : Int32) : entryFrame m #[(.int x0), (.int x1), (.int x2), (.int x3), (.int x4), (.int x5)] 6 = mkF m 0 #[.val (.int x0), .val (.int x1), .val (.int x2), .val (.int x3), .val (.int x4), .val (.int x5)] [] := by first | (simp [entryFrame, mkF, argsToLocals, Value.category]; done) | rfl
theorem d_m9_0 : decode method_9_code 0 = .ok (.iload_n 0, 1) := by decide +kernel
theorem d_m9_1 : decode method_9_code 1 = .ok (.iload_n 1, 1) := by decide +kernel
theorem d_m9_2 : decode method_9_code 2 = .ok (.iload 4, 2) := by decide +kernel
theorem d_m9_4 : decode method_9_code 4 = .ok (.iload 5, 2) := by decide +kernel
theorem d_m9_6 : decode method_9_code 6 = .ok (.invokestatic 26, 3) := by decide +kernel
theorem pd__IIII_I : parseMethodDescriptor "(IIII)I" = some ⟨[.int, .int, .int, .int], some .int⟩ := by decide +kernel
theorem d_m9_9 : decode method_9_code 9 = .ok (.iload_n 2, 1) := by decide +kernel
theorem d_m9_10 : decode method_9_code 10 = .ok (.iload_n 3, 1) := by decide +kernel
theorem d_m9_11 : decode method_9_code 11 = .ok (.iload 4, 2) := by decide +kernel
theorem d_m9_13 : decode method_9_code 13 = .ok (.iload 5, 2) := by decide +kernel
theorem d_m9_15 : decode method_9_code 15 = .ok (.invokestatic 30, 3) := by decide +kernel
theorem d_m9_18 : decode method_9_code 18 = .ok (.iload 4, 2) := by decide +kernel
theorem d_m9_20 : decode method_9_code 20 = .ok (.iload 5, 2) := by decide +kernel
theorem d_m9_22 : decode method_9_code 22 = .ok (.invokestatic 33, 3) := by decide +kernel
theorem d_m9_25 : decode method_9_code 25 = .ok (.invokestatic 22, 3) := by decide +kernel
theorem d_m9_28 : decode method_9_code 28 = .ok (.areturn, 1) := by decide +kernel
theorem ef_c_sm (m : MethodId) (x0 : Int32) (x1 : Int32) (x2 : Int32) (x3 : Int32) (x4 : Int32) (x5 : Int32) : entryFrame m #[(.int x0), (.int x1), (.int x2), (.int x3), (.int x4), (.int x5)] 8 = mkF m 0 #[.val (.int x0), .val (.int x1), .val (.int x2), .val (.int x3), .val (.int x4), .val (.int x5), .unset, .unset] [] := by first | (simp [entryFrame, mkF, argsToLocals, Value.category]; done) | rfl
theorem d_m10_0 : decode method_10_code 0 = .ok (.iload 4, 2) := by decide +kernel
theorem d_m10_2 : decode method_10_code 2 = .ok (.bipush 8, 2) := by decide +kernel
theorem d_m10_4 : decode method_10_code 4 = .ok (.iload 5, 2) := by decide +kernel
theorem d_m10_6 : decode method_10_code 6 = .ok (.iadd, 1) := by decide +kernel
theorem d_m10_7 : decode method_10_code 7 = .ok (.invokestatic 12, 3) := by decide +kernel
theorem d_m10_10 : decode method_10_code 10 = .ok (.istore 6, 2) := by decide +kernel
theorem d_m10_12 : decode method_10_code 12 = .ok (.iload 4, 2) := by decide +kernel
theorem d_m10_14 : decode method_10_code 14 = .ok (.iload 5, 2) := by decide +kernel
theorem d_m10_16 : decode method_10_code 16 = .ok (.invokestatic 33, 3) := by decide +kernel
theorem d_m10_19 : decode method_10_code 19 = .ok (.istore 7, 2) := by decide +kernel
theorem d_m10_21 : decode method_10_code 21 = .ok (.iload 6, 2) := by decide +kernel
theorem d_m10_23 : decode method_10_code 23 = .ok (.iload 7, 2) := by decide +kernel
theorem d_m10_25 : decode method_10_code 25 = .ok (.if_icmp .eq 5, 3) := by decide +kernel
theorem d_m10_30 : decode method_10_code 30 = .ok (.iload_n 0, 1) := by decide +kernel
theorem d_m10_31 : decode method_10_code 31 = .ok (.iload 5, 2) := by decide +kernel
theorem d_m10_33 : decode method_10_code 33 = .ok (.invokestatic 18, 3) := by decide +kernel
theorem d_m10_36 : decode method_10_code 36 = .ok (.iload_n 0, 1) := by decide +kernel
theorem d_m10_37 : decode method_10_code 37 = .ok (.iload_n 1, 1) := by decide +kernel
theorem d_m10_38 : decode method_10_code 38 = .ok (.iload 4, 2) := by decide +kernel
theorem d_m10_40 : decode method_10_code 40 = .ok (.iload 5, 2) := by decide +kernel
theorem d_m10_42 : decode method_10_code 42 = .ok (.invokestatic 26, 3) := by decide +kernel
theorem d_m10_45 : decode method_10_code 45 = .ok (.if_icmp .eq 5, 3) := by decide +kernel
theorem d_m10_50 : decode method_10_code 50 = .ok (.iload 6, 2) := by decide +kernel
theorem d_m10_52 : decode method_10_code 52 = .ok (.ifCond .ne 5, 3) := by decide +kernel
theorem d_m10_55 : decode method_10_code 55 = .ok (.iconst 1, 1) := by decide +kernel
theorem d_m10_56 : decode method_10_code 56 = .ok (.ireturn, 1) := by decide +kernel
theorem d_m10_57 : decode method_10_code 57 = .ok (.iload_n 2, 1) := by decide +kernel
theorem d_m10_58 : decode method_10_code 58 = .ok (.iload 5, 2) := by decide +kernel
theorem d_m10_60 : decode method_10_code 60 = .ok (.invokestatic 18, 3) := by decide +kernel
theorem d_m10_63 : decode method_10_code 63 = .ok (.iload_n 2, 1) := by decide +kernel
theorem d_m10_64 : decode method_10_code 64 = .ok (.iload_n 3, 1) := by decide +kernel
theorem d_m10_65 : decode method_10_code 65 = .ok (.iload 4, 2) := by decide +kernel
theorem d_m10_67 : decode method_10_code 67 = .ok (.iload 5, 2) := by decide +kernel
theorem d_m10_69 : decode method_10_code 69 = .ok (.invokestatic 30, 3) := by decide +kernel
theorem d_m10_72 : decode method_10_code 72 = .ok (.if_icmp .ne 7, 3) := by decide +kernel
theorem d_m10_75 : decode method_10_code 75 = .ok (.iconst 1, 1) := by decide +kernel
theorem d_m10_76 : decode method_10_code 76 = .ok (.goto 4, 3) := by decide +kernel
theorem d_m10_80 : decode method_10_code 80 = .ok (.ireturn, 1) := by decide +kernel
theorem d_m10_79 : decode method_10_code 79 = .ok (.iconst 0, 1) := by decide +kernel
theorem d_m10_48 : decode method_10_code 48 = .ok (.iconst 0, 1) := by decide +kernel
theorem d_m10_49 : decode method_10_code 49 = .ok (.ireturn, 1) := by decide +kernel
theorem d_m10_28 : decode method_10_code 28 = .ok (.iconst 0, 1) := by decide +kernel
theorem d_m10_29 : decode method_10_code 29 = .ok (.ireturn, 1) := by decide +kernel
theorem ef_c_rnn (m : MethodId) (x0 : Addr) (x1 : Addr) : entryFrame m #[(.ref x0), (.ref x1)] 2 = mkF m 0 #[.val (.ref x0), .val (.ref x1)] [] := by first | (simp [entryFrame, mkF, argsToLocals, Value.category]; done) | rfl
theorem pn_java_util_Objects : plainName "java/util/Objects" = true := by first | (simp [plainName, overriddenIn]; done) | decide +kernel
theorem d_jdk_31_m11_0 : decode jdk_31_method_11_code 0 = .ok (.aload_n 0, 1) := by decide +kernel
theorem d_jdk_31_m11_1 : decode jdk_31_method_11_code 1 = .ok (.ifnonnull 12, 3) := by decide +kernel
theorem d_jdk_31_m11_13 : decode jdk_31_method_11_code 13 = .ok (.aload_n 0, 1) := by decide +kernel
theorem d_jdk_31_m11_14 : decode jdk_31_method_11_code 14 = .ok (.areturn, 1) := by decide +kernel
theorem ef_c_ji (m : MethodId) (x0 : Addr) (x1 : Addr) (x2 : Addr) : entryFrame m #[(.ref x0), (.ref x1), (.ref x2)] 3 = mkF m 0 #[.val (.ref x0), .val (.ref x1), .val (.ref x2)] [] := by first | (simp [entryFrame, mkF, argsToLocals, Value.category]; done) | rfl
theorem pn_com_example_timely_errand_timelyerrand_engine_JobId : plainName "com/example/timely_errand/timelyerrand/engine/JobId" = true := by first | (simp [plainName, overriddenIn]; done) | decide +kernel
theorem d_prog_19_m1_0 : decode prog_19_method_1_code 0 = .ok (.aload_n 0, 1) := by decide +kernel
theorem d_prog_19_m1_1 : decode prog_19_method_1_code 1 = .ok (.invokespecial 1, 3) := by decide +kernel
theorem d_prog_19_m1_4 : decode prog_19_method_1_code 4 = .ok (.aload_n 0, 1) := by decide +kernel
theorem d_prog_19_m1_5 : decode prog_19_method_1_code 5 = .ok (.aload_n 1, 1) := by decide +kernel
theorem d_prog_19_m1_6 : decode prog_19_method_1_code 6 = .ok (.ldc 7, 2) := by decide +kernel
theorem d_prog_19_m1_8 : decode prog_19_method_1_code 8 = .ok (.invokestatic 9, 3) := by decide +kernel
theorem pd__Ljava_lang_Object_Ljava_lang_String__Ljava_lang_Object_ : parseMethodDescriptor "(Ljava/lang/Object;Ljava/lang/String;)Ljava/lang/Object;" = some ⟨[(.object "java/lang/Object"), (.object "java/lang/String")], some (.object "java/lang/Object")⟩ := by decide +kernel
theorem d_prog_19_m1_11 : decode prog_19_method_1_code 11 = .ok (.checkcast 15, 3) := by decide +kernel
theorem d_prog_19_m1_14 : decode prog_19_method_1_code 14 = .ok (.putfield 17, 3) := by decide +kernel
theorem d_prog_19_m1_17 : decode prog_19_method_1_code 17 = .ok (.aload_n 0, 1) := by decide +kernel
theorem d_prog_19_m1_18 : decode prog_19_method_1_code 18 = .ok (.aload_n 2, 1) := by decide +kernel
theorem d_prog_19_m1_19 : decode prog_19_method_1_code 19 = .ok (.ldc 22, 2) := by decide +kernel
theorem d_prog_19_m1_21 : decode prog_19_method_1_code 21 = .ok (.invokestatic 24, 3) := by decide +kernel
theorem d_prog_19_m1_24 : decode prog_19_method_1_code 24 = .ok (.putfield 28, 3) := by decide +kernel
theorem d_prog_19_m1_27 : decode prog_19_method_1_code 27 = .ok (.return_, 1) := by decide +kernel
theorem ef_c_jeq (m : MethodId) (x0 : Addr) (x1 : Addr) : entryFrame m #[(.ref x0), (.ref x1)] 3 = mkF m 0 #[.val (.ref x0), .val (.ref x1), .unset] [] := by first | (simp [entryFrame, mkF, argsToLocals, Value.category]; done) | rfl
theorem d_prog_19_m5_0 : decode prog_19_method_5_code 0 = .ok (.aload_n 1, 1) := by decide +kernel
theorem d_prog_19_m5_1 : decode prog_19_method_5_code 1 = .ok (.instanceof 18, 3) := by decide +kernel
theorem d_prog_19_m5_4 : decode prog_19_method_5_code 4 = .ok (.ifCond .eq 40, 3) := by decide +kernel
theorem d_prog_19_m5_7 : decode prog_19_method_5_code 7 = .ok (.aload_n 1, 1) := by decide +kernel
theorem d_prog_19_m5_8 : decode prog_19_method_5_code 8 = .ok (.checkcast 18, 3) := by decide +kernel
theorem d_prog_19_m5_11 : decode prog_19_method_5_code 11 = .ok (.astore_n 2, 1) := by decide +kernel
theorem d_prog_19_m5_12 : decode prog_19_method_5_code 12 = .ok (.aload_n 0, 1) := by decide +kernel
theorem d_prog_19_m5_13 : decode prog_19_method_5_code 13 = .ok (.getfield 17, 3) := by decide +kernel
theorem d_prog_19_m5_16 : decode prog_19_method_5_code 16 = .ok (.aload_n 2, 1) := by decide +kernel
theorem d_prog_19_m5_17 : decode prog_19_method_5_code 17 = .ok (.getfield 17, 3) := by decide +kernel
theorem d_prog_19_m5_20 : decode prog_19_method_5_code 20 = .ok (.invokevirtual 38, 3) := by decide +kernel
theorem d_prog_19_m5_23 : decode prog_19_method_5_code 23 = .ok (.ifCond .eq 21, 3) := by decide +kernel
theorem d_prog_19_m5_26 : decode prog_19_method_5_code 26 = .ok (.aload_n 0, 1) := by decide +kernel
theorem d_prog_19_m5_27 : decode prog_19_method_5_code 27 = .ok (.getfield 28, 3) := by decide +kernel
theorem d_prog_19_m5_30 : decode prog_19_method_5_code 30 = .ok (.aload_n 2, 1) := by decide +kernel
theorem d_prog_19_m5_31 : decode prog_19_method_5_code 31 = .ok (.getfield 28, 3) := by decide +kernel
theorem d_prog_19_m5_34 : decode prog_19_method_5_code 34 = .ok (.invokevirtual 42, 3) := by decide +kernel
theorem d_prog_19_m5_37 : decode prog_19_method_5_code 37 = .ok (.ifCond .eq 7, 3) := by decide +kernel
theorem d_prog_19_m5_40 : decode prog_19_method_5_code 40 = .ok (.iconst 1, 1) := by decide +kernel
theorem d_prog_19_m5_41 : decode prog_19_method_5_code 41 = .ok (.goto 4, 3) := by decide +kernel
theorem d_prog_19_m5_45 : decode prog_19_method_5_code 45 = .ok (.ireturn, 1) := by decide +kernel
theorem d_prog_19_m5_44 : decode prog_19_method_5_code 44 = .ok (.iconst 0, 1) := by decide +kernel
theorem ef_c_jeqC (m : MethodId) (x0 : Addr) (x1 : Addr) : entryFrame m #[(.ref x0), (.ref x1)] 3 = mkF m 0 #[.val (.ref x0), .val (.ref x1), .unset] [] := by first | (simp [entryFrame, mkF, argsToLocals, Value.category]; done) | rfl
theorem ef_c_jeq0 (m : MethodId) (x0 : Addr) : entryFrame m #[(.ref x0), .null] 3 = mkF m 0 #[.val (.ref x0), .val .null, .unset] [] := by first | (simp [entryFrame, mkF, argsToLocals, Value.category]; done) | rfl
theorem ef_c_law (m : MethodId) (x0 : Int32) (x1 : Int32) (x2 : Int32) (x3 : Int32) (x4 : Int32) : entryFrame m #[(.int x0), (.int x1), (.int x2), (.int x3), (.int x4)] maxLocals = mkF m 0 #[.val (.int x0), .val (.int x1), .val (.int x2), .val (.int x3), .val (.int x4), .unset, .unset, .unset, .unset, .unset, .unset] [] := by first | (simp [entryFrame, mkF, argsToLocals, Value.category, maxLocals]; done) | rfl
theorem pd__IIII_Ljava_lang_String_ : parseMethodDescriptor "(IIII)Ljava/lang/String;" = some ⟨[.int, .int, .int, .int], some (.object "java/lang/String")⟩ := by decide +kernel
theorem pd__Ljava_lang_String_Ljava_lang_String_Ljava_lang_String__V : parseMethodDescriptor "(Ljava/lang/String;Ljava/lang/String;Ljava/lang/String;)V" = some ⟨[(.object "java/lang/String"), (.object "java/lang/String"), (.object "java/lang/String")], none⟩ := by decide +kernel
theorem pd__Lcom_example_timely_errand_timelyerrand_engine_JobCollectionId_Ljava_lang_Strin : parseMethodDescriptor "(Lcom/example/timely_errand/timelyerrand/engine/JobCollectionId;Ljava/lang/String;)V" = some ⟨[(.object "com/example/timely_errand/timelyerrand/engine/JobCollectionId"), (.object "java/lang/String")], none⟩ := by decide +kernel
theorem pd__IIIIII_Ljava_lang_String_ : parseMethodDescriptor "(IIIIII)Ljava/lang/String;" = some ⟨[.int, .int, .int, .int, .int, .int], some (.object "java/lang/String")⟩ := by decide +kernel
theorem pd__IIIIII_Z : parseMethodDescriptor "(IIIIII)Z" = some ⟨[.int, .int, .int, .int, .int, .int], some .boolean⟩ := by decide +kernel
set_option maxRecDepth 65536 in
set_option maxHeartbeats 40000000 in
theorem c_req (l : Launch) {Z : State} {a0 : Array Value} {zc : Int32} (B : Base Z a0 zc) (x y t : Addr) (cs : List Int32) (h0 : Heap) (O : Ext Z.heap h0) (F : Str Z h0 x t cs) (hne : ¬ cs.length = 0) :
    MetN l Z (⟨"com/example/timely_errand/timelyerrand/engine/JobCollectionId", "requireNonEmpty", "(Ljava/lang/String;Ljava/lang/String;)Ljava/lang/String;"⟩ : MethodName) prog_18_method_9_code 2 (some (.object "java/lang/String")) [] ({ frames := 1, cells := 0, slots := 0, locals := 12 } : Room) #[(.ref x), (.ref y)] h0 [] (fun v h => v = some (.ref x) ∧ h0 = h) := by
  obtain ⟨hw, S0, hz0⟩ := B
  refine MetN.mk (plainFor_of_name pn_com_example_timely_errand_timelyerrand_engine_JobCollectionId) (fun m => ef_c_req m x y) O ?_
  intro p e s m below meth c T0 hx hby hml hret hlk hnm hsh H0
  have zs : s.heap.size = h0.size := by rw [hsh]
  refine Rn.pu (T' := T0) (g' := (mkF m 1 #[.val (.ref x), .val (.ref y)] [(.ref x)])) ?_ fun _ zk => XS.aloadN H0.here hx rfl (hb hby d_prog_18_m9_0) rfl rfl zk
  obtain ⟨_, T1, h1, H1, ⟨rfl, rfl⟩, -, st1⟩ := H0.callV (C := "java/lang/String") (hw _ (List.mem_of_getElem? (i := 65) rfl)) (hw _ (List.mem_of_getElem? (i := 66) rfl)) (hw _ (List.mem_of_getElem? (i := 68) rfl)) (hw _ (List.mem_of_getElem? (i := 67) rfl)) (by decide) (payEmp (W := 0) (hws_emp hw) (hw _ (List.mem_of_getElem? (i := 26) rfl)) F (by decide) (by decide)) F.exa (g := (mkF m 1 #[.val (.ref x), .val (.ref y)] [(.ref x)])) rfl (by rw [hml]; rfl) (argsL := []) (rest := []) (lenOf pd___Z rfl) rfl rfl (Nat.le_of_eq rfl) (hb hby d_prog_18_m9_1) (by decide) (by decide) all0
  refine Rn.pu (g' := (mkF m 4 #[.val (.ref x), .val (.ref y)] [(.int (if (cs).length = 0 then 1 else 0))])) ?_ st1
  refine Rn.pu (T' := T1) (g' := (mkF m 21 #[.val (.ref x), .val (.ref y)] [])) ?_ fun _ zk => XS.ifYes H1.here hx rfl (pc0 := 4) (pc' := 21) rfl (hb hby d_prog_18_m9_4) rfl (z_eq_t (if_neg hne)) (by decide) (by decide) zk
  refine Rn.pu (T' := T1) (g' := (mkF m 22 #[.val (.ref x), .val (.ref y)] [(.ref x)])) ?_ fun _ zk => XS.aloadN H1.here hx rfl (hb hby d_prog_18_m9_21) rfl rfl zk
  exact H1.retA ends_N hlk hret rfl rfl rfl (hb hby d_prog_18_m9_22) (by decide) (by decide) (fun _ q => nomatch q) ⟨rfl, rfl⟩
set_option maxRecDepth 65536 in
set_option maxHeartbeats 40000000 in
theorem c_init (l : Launch) {Z : State} {a0 : Array Value} {zc : Int32} (B : Base Z a0 zc) (x s0 s1 s2 t0 t1 t2 : Addr) (cs0 cs1 cs2 : List Int32) (h0 : Heap) (O : Ext Z.heap h0) (E : Exa Z h0 x "com/example/timely_errand/timelyerrand/engine/JobCollectionId") (G0 : Fld Z h0 x "com/example/timely_errand/timelyerrand/engine/JobCollectionId" "subscriptionId" "Ljava/lang/String;" .null) (G1 : Fld Z h0 x "com/example/timely_errand/timelyerrand/engine/JobCollectionId" "resourceGroupName" "Ljava/lang/String;" .null) (G2 : Fld Z h0 x "com/example/timely_errand/timelyerrand/engine/JobCollectionId" "name" "Ljava/lang/String;" .null) (F0 : Str Z h0 s0 t0 cs0) (n0 : ¬ cs0.length = 0) (F1 : Str Z h0 s1 t1 cs1) (n1 : ¬ cs1.length = 0) (F2 : Str Z h0 s2 t2 cs2) (n2 : ¬ cs2.length = 0) (gx : Z.heap.size ≤ x) (ne : @Ne Nat x s0 ∧ @Ne Nat x t0 ∧ @Ne Nat x s1 ∧ @Ne Nat x t1 ∧ @Ne Nat x s2 ∧ @Ne Nat x t2) :
    MetW l Z (⟨"com/example/timely_errand/timelyerrand/engine/JobCollectionId", "<init>", "(Ljava/lang/String;Ljava/lang/String;Ljava/lang/String;)V"⟩ : MethodName) prog_18_method_1_code 4 none [] ({ frames := 2, cells := 6, slots := 152, locals := 26 } : Room) #[(.ref x), (.ref s0), (.ref s1), (.ref s2)] h0 [x] ((fun _ => True)) (fun v vm h => v = none ∧ Exa Z h x "com/example/timely_errand/timelyerrand/engine/JobCollectionId" ∧ Fld Z h x "com/example/timely_errand/timelyerrand/engine/JobCollectionId" "subscriptionId" "Ljava/lang/String;" (.ref s0) ∧ Fld Z h x "com/example/timely_errand/timelyerrand/engine/JobCollectionId" "resourceGroupName" "Ljava/lang/String;" (.ref s1) ∧ Fld Z h x "com/example/timely_errand/timelyerrand/engine/JobCollectionId" "name" "Ljava/lang/String;" (.ref s2)) := by
  obtain ⟨hw, S0, hz0⟩ := B
  refine MetW.mk (plainFor_of_name pn_com_example_timely_errand_timelyerrand_engine_JobCollectionId) (fun m => ef_c_init m x s0 s1 s2) O ?_
  intro p e s m below meth c T0 hx hby hml hret hlk hnm hsh H0
  have zs : s.heap.size = h0.size := by rw [hsh]
  have lx := natlt (E).lt
  obtain ⟨ne0, ne1, ne2, ne3, ne4, ne5⟩ := ne
  have H0 := H0.weak (ws' := [x]) (fun _ q => nomatch q) (allS gx all0)
  have u0 := natlt (F0).lt
  have v0 := natlt (F0).ltt
  have u1 := natlt (F1).lt
  have v1 := natlt (F1).ltt
  have u2 := natlt (F2).lt
  have v2 := natlt (F2).ltt
  refine Rn.pu (T' := T0) (g' := (mkF m 1 #[.val (.ref x), .val (.ref s0), .val (.ref s1), .val (.ref s2)] [(.ref x)])) ?_ fun _ zk => XS.aloadN H0.here hx rfl (hb hby d_prog_18_m1_0) rfl rfl zk
  obtain ⟨T1, H1, st1⟩ := H0.initO (hw _ (List.mem_of_getElem? (i := 58) rfl)) (hw _ (List.mem_of_getElem? (i := 37) rfl)) (hw _ (List.mem_of_getElem? (i := 38) rfl)) (g := (mkF m 1 #[.val (.ref x), .val (.ref s0), .val (.ref s1), .val (.ref s2)] [(.ref x)])) rfl (by rw [hml]; rfl) rfl (hb hby d_prog_18_m1_1) (by decide) (W := 0) (Nat.le_of_eq rfl) (by decide)
  refine Rn.pu (g' := (mkF m 4 #[.val (.ref x), .val (.ref s0), .val (.ref s1), .val (.ref s2)] [])) ?_ st1
  refine Rn.pu (T' := T1) (g' := (mkF m 5 #[.val (.ref x), .val (.ref s0), .val (.ref s1), .val (.ref s2)] [(.ref x)])) ?_ fun _ zk => XS.aloadN H1.here hx rfl (hb hby d_prog_18_m1_4) rfl rfl zk
  refine Rn.pu (T' := T1) (g' := (mkF m 6 #[.val (.ref x), .val (.ref s0), .val (.ref s1), .val (.ref s2)] [(.ref s0), (.ref x)])) ?_ fun _ zk => XS.aloadN H1.here hx rfl (hb hby d_prog_18_m1_5) rfl rfl zk
  obtain ⟨a2, T2, h2, H2, K2, st2⟩ := H1.ldcS (hw _ (List.mem_of_getElem? (i := 59) rfl)) (hws_sa hw) (g := (mkF m 6 #[.val (.ref x), .val (.ref s0), .val (.ref s1), .val (.ref s2)] [(.ref s0), (.ref x)])) rfl (hb hby d_prog_18_m1_6) (n := 56) (by decide) (by decide) (by decide) (by decide)
  have zh2 := K2.1
  refine Rn.pu (g' := (mkF m 8 #[.val (.ref x), .val (.ref s0), .val (.ref s1), .val (.ref s2)] [(.ref a2), (.ref s0), (.ref x)])) ?_ st2
  obtain ⟨_, T3, h3, H3, ⟨rfl, rfl⟩, -, st3⟩ := H2.callS (hw _ (List.mem_of_getElem? (i := 62) rfl)) (hw _ (List.mem_of_getElem? (i := 63) rfl)) (hw _ (List.mem_of_getElem? (i := 18) rfl)) (hw _ (List.mem_of_getElem? (i := 64) rfl)) (by decide) (MetN.pay (W := 1) (c_req l ⟨hw, S0, hz0⟩ s0 a2 t0 cs0 h2 H2.old (F0.keep K2 nin0 nin0) n0) (hw _ (List.mem_of_getElem? (i := 64) rfl)) (hw _ (List.mem_of_getElem? (i := 18) rfl)) (by decide) (by decide)) (g := (mkF m 8 #[.val (.ref x), .val (.ref s0), .val (.ref s1), .val (.ref s2)] [(.ref a2), (.ref s0), (.ref x)])) rfl (by rw [hml]; rfl) (argsL := [(.ref s0), (.ref a2)]) (rest := [(.ref x)]) (lenOf pd__Ljava_lang_String_Ljava_lang_String__Ljava_lang_String_ rfl) rfl rfl (Nat.le_of_eq rfl) (hb hby d_prog_18_m1_8) (by decide) (by decide) all0
  refine Rn.pu (g' := (mkF m 11 #[.val (.ref x), .val (.ref s0), .val (.ref s1), .val (.ref s2)] [(.ref s0), (.ref x)])) ?_ st3
  obtain ⟨T4, h4, H4, K4, W4, st4⟩ := H3.putF (host := "") (Or.inl (hw _ (List.mem_of_getElem? (i := 70) rfl))) Via.refl (G0.keep K2 nin0) (E.keep K2) (Or.inr ⟨(hw _ (List.mem_of_getElem? (i := 71) rfl)), rfl, hnm⟩) (hw _ (List.mem_of_getElem? (i := 17) rfl)) (ty := (.object "java/lang/String")) (by decide) rfl rfl (Or.inl (List.mem_singleton.mpr rfl)) (g := (mkF m 11 #[.val (.ref x), .val (.ref s0), .val (.ref s1), .val (.ref s2)] [(.ref s0), (.ref x)])) rfl rfl (hb hby d_prog_18_m1_11)
  have zh4 := K4.1
  have F4_subscriptionId : Fld Z h4 x "com/example/timely_errand/timelyerrand/engine/JobCollectionId" "subscriptionId" "Ljava/lang/String;" (.ref s0) := (G0.keep K2 nin0).same W4
  have E4 := (E.keep K2).keep K4
  have F4_resourceGroupName : Fld Z h4 x "com/example/timely_errand/timelyerrand/engine/JobCollectionId" "resourceGroupName" "Ljava/lang/String;" .null := (G1.keep K2 nin0).other W4 (Or.inr (slot_ne (Or.inr (hw _ (List.mem_of_getElem? (i := 74) rfl))) (Or.inr (hw _ (List.mem_of_getElem? (i := 71) rfl))) (by decide) (t := (.object "java/lang/String")) (t' := (.object "java/lang/String")) (by decide) (by decide)))
  have F4_name : Fld Z h4 x "com/example/timely_errand/timelyerrand/engine/JobCollectionId" "name" "Ljava/lang/String;" .null := (G2.keep K2 nin0).other W4 (Or.inr (slot_ne (Or.inr (hw _ (List.mem_of_getElem? (i := 77) rfl))) (Or.inr (hw _ (List.mem_of_getElem? (i := 71) rfl))) (by decide) (t := (.object "java/lang/String")) (t' := (.object "java/lang/String")) (by decide) (by decide)))
  refine Rn.pu (g' := (mkF m 14 #[.val (.ref x), .val (.ref s0), .val (.ref s1), .val (.ref s2)] [])) ?_ st4
  refine Rn.pu (T' := T4) (g' := (mkF m 15 #[.val (.ref x), .val (.ref s0), .val (.ref s1), .val (.ref s2)] [(.ref x)])) ?_ fun _ zk => XS.aloadN H4.here hx rfl (hb hby d_prog_18_m1_14) rfl rfl zk
  refine Rn.pu (T' := T4) (g' := (mkF m 16 #[.val (.ref x), .val (.ref s0), .val (.ref s1), .val (.ref s2)] [(.ref s1), (.ref x)])) ?_ fun _ zk => XS.aloadN H4.here hx rfl (hb hby d_prog_18_m1_15) rfl rfl zk
  obtain ⟨a5, T5, h5, H5, K5, st5⟩ := H4.ldcS (hw _ (List.mem_of_getElem? (i := 72) rfl)) (hws_sa hw) (g := (mkF m 16 #[.val (.ref x), .val (.ref s0), .val (.ref s1), .val (.ref s2)] [(.ref s1), (.ref x)])) rfl (hb hby d_prog_18_m1_16) (n := 68) (by decide) (by decide) (by decide) (by decide)
  have zh5 := K5.1
  refine Rn.pu (g' := (mkF m 18 #[.val (.ref x), .val (.ref s0), .val (.ref s1), .val (.ref s2)] [(.ref a5), (.ref s1), (.ref x)])) ?_ st5
  obtain ⟨_, T6, h6, H6, ⟨rfl, rfl⟩, -, st6⟩ := H5.callS (hw _ (List.mem_of_getElem? (i := 62) rfl)) (hw _ (List.mem_of_getElem? (i := 63) rfl)) (hw _ (List.mem_of_getElem? (i := 18) rfl)) (hw _ (List.mem_of_getElem? (i := 64) rfl)) (by decide) (MetN.pay (W := 1) (c_req l ⟨hw, S0, hz0⟩ s1 a5 t1 cs1 h5 H5.old (((F1.keep K2 nin0 nin0).keep K4 (ninS (adne (by omega)) nin0) (ninS (adne (by omega)) nin0)).keep K5 nin0 nin0) n1) (hw _ (List.mem_of_getElem? (i := 64) rfl)) (hw _ (List.mem_of_getElem? (i := 18) rfl)) (by decide) (by decide)) (g := (mkF m 18 #[.val (.ref x), .val (.ref s0), .val (.ref s1), .val (.ref s2)] [(.ref a5), (.ref s1), (.ref x)])) rfl (by rw [hml]; rfl) (argsL := [(.ref s1), (.ref a5)]) (rest := [(.ref x)]) (lenOf pd__Ljava_lang_String_Ljava_lang_String__Ljava_lang_String_ rfl) rfl rfl (Nat.le_of_eq rfl) (hb hby d_prog_18_m1_18) (by decide) (by decide) all0
  refine Rn.pu (g' := (mkF m 21 #[.val (.ref x), .val (.ref s0), .val (.ref s1), .val (.ref s2)] [(.ref s1), (.ref x)])) ?_ st6
  obtain ⟨T7, h7, H7, K7, W7, st7⟩ := H6.putF (host := "") (Or.inl (hw _ (List.mem_of_getElem? (i := 73) rfl))) Via.refl (F4_resourceGroupName.keep K5 nin0) (E4.keep K5) (Or.inr ⟨(hw _ (List.mem_of_getElem? (i := 74) rfl)), rfl, hnm⟩) (hw _ (List.mem_of_getElem? (i := 17) rfl)) (ty := (.object "java/lang/String")) (by decide) rfl rfl (Or.inl (List.mem_singleton.mpr rfl)) (g := (mkF m 21 #[.val (.ref x), .val (.ref s0), .val (.ref s1), .val (.ref s2)] [(.ref s1), (.ref x)])) rfl rfl (hb hby d_prog_18_m1_21)
  have zh7 := K7.1
  have F7_resourceGroupName : Fld Z h7 x "com/example/timely_errand/timelyerrand/engine/JobCollectionId" "resourceGroupName" "Ljava/lang/String;" (.ref s1) := (F4_resourceGroupName.keep K5 nin0).same W7
  have E7 := (E4.keep K5).keep K7
  have F7_subscriptionId : Fld Z h7 x "com/example/timely_errand/timelyerrand/engine/JobCollectionId" "subscriptionId" "Ljava/lang/String;" (.ref s0) := (F4_subscriptionId.keep K5 nin0).other W7 (Or.inr (slot_ne (Or.inr (hw _ (List.mem_of_getElem? (i := 71) rfl))) (Or.inr (hw _ (List.mem_of_getElem? (i := 74) rfl))) (by decide) (t := (.object "java/lang/String")) (t' := (.object "java/lang/String")) (by decide) (by decide)))
  have F7_name : Fld Z h7 x "com/example/timely_errand/timelyerrand/engine/JobCollectionId" "name" "Ljava/lang/String;" .null := (F4_name.keep K5 nin0).other W7 (Or.inr (slot_ne (Or.inr (hw _ (List.mem_of_getElem? (i := 77) rfl))) (Or.inr (hw _ (List.mem_of_getElem? (i := 74) rfl))) (by decide) (t := (.object "java/lang/String")) (t' := (.object "java/lang/String")) (by decide) (by decide)))
  refine Rn.pu (g' := (mkF m 24 #[.val (.ref x), .val (.ref s0), .val (.ref s1), .val (.ref s2)] [])) ?_ st7
  refine Rn.pu (T' := T7) (g' := (mkF m 25 #[.val (.ref x), .val (.ref s0), .val (.ref s1), .val (.ref s2)] [(.ref x)])) ?_ fun _ zk => XS.aloadN H7.here hx rfl (hb hby d_prog_18_m1_24) rfl rfl zk
  refine Rn.pu (T' := T7) (g' := (mkF m 26 #[.val (.ref x), .val (.ref s0), .val (.ref s1), .val (.ref s2)] [(.ref s2), (.ref x)])) ?_ fun _ zk => XS.aloadN H7.here hx rfl (hb hby d_prog_18_m1_25) rfl rfl zk
  obtain ⟨a8, T8, h8, H8, K8, st8⟩ := H7.ldcS (hw _ (List.mem_of_getElem? (i := 75) rfl)) (hws_sa hw) (g := (mkF m 26 #[.val (.ref x), .val (.ref s0), .val (.ref s1), .val (.ref s2)] [(.ref s2), (.ref x)])) rfl (hb hby d_prog_18_m1_26) (n := 16) (by decide) (by decide) (by decide) (by decide)
  have zh8 := K8.1
  refine Rn.pu (g' := (mkF m 28 #[.val (.ref x), .val (.ref s0), .val (.ref s1), .val (.ref s2)] [(.ref a8), (.ref s2), (.ref x)])) ?_ st8
  obtain ⟨_, T9, h9, H9, ⟨rfl, rfl⟩, -, st9⟩ := H8.callS (hw _ (List.mem_of_getElem? (i := 62) rfl)) (hw _ (List.mem_of_getElem? (i := 63) rfl)) (hw _ (List.mem_of_getElem? (i := 18) rfl)) (hw _ (List.mem_of_getElem? (i := 64) rfl)) (by decide) (MetN.pay (W := 1) (c_req l ⟨hw, S0, hz0⟩ s2 a8 t2 cs2 h8 H8.old (((((F2.keep K2 nin0 nin0).keep K4 (ninS (adne (by omega)) nin0) (ninS (adne (by omega)) nin0)).keep K5 nin0 nin0).keep K7 (ninS (adne (by omega)) nin0) (ninS (adne (by omega)) nin0)).keep K8 nin0 nin0) n2) (hw _ (List.mem_of_getElem? (i := 64) rfl)) (hw _ (List.mem_of_getElem? (i := 18) rfl)) (by decide) (by decide)) (g := (mkF m 28 #[.val (.ref x), .val (.ref s0), .val (.ref s1), .val (.ref s2)] [(.ref a8), (.ref s2), (.ref x)])) rfl (by rw [hml]; rfl) (argsL := [(.ref s2), (.ref a8)]) (rest := [(.ref x)]) (lenOf pd__Ljava_lang_String_Ljava_lang_String__Ljava_lang_String_ rfl) rfl rfl (Nat.le_of_eq rfl) (hb hby d_prog_18_m1_28) (by decide) (by decide) all0
  refine Rn.pu (g' := (mkF m 31 #[.val (.ref x), .val (.ref s0), .val (.ref s1), .val (.ref s2)] [(.ref s2), (.ref x)])) ?_ st9
  obtain ⟨T10, h10, H10, K10, W10, st10⟩ := H9.putF (host := "") (Or.inl (hw _ (List.mem_of_getElem? (i := 76) rfl))) Via.refl (F7_name.keep K8 nin0) (E7.keep K8) (Or.inr ⟨(hw _ (List.mem_of_getElem? (i := 77) rfl)), rfl, hnm⟩) (hw _ (List.mem_of_getElem? (i := 17) rfl)) (ty := (.object "java/lang/String")) (by decide) rfl rfl (Or.inl (List.mem_singleton.mpr rfl)) (g := (mkF m 31 #[.val (.ref x), .val (.ref s0), .val (.ref s1), .val (.ref s2)] [(.ref s2), (.ref x)])) rfl rfl (hb hby d_prog_18_m1_31)
  have zh10 := K10.1
  have F10_name : Fld Z h10 x "com/example/timely_errand/timelyerrand/engine/JobCollectionId" "name" "Ljava/lang/String;" (.ref s2) := (F7_name.keep K8 nin0).same W10
  have E10 := (E7.keep K8).keep K10
  have F10_subscriptionId : Fld Z h10 x "com/example/timely_errand/timelyerrand/engine/JobCollectionId" "subscriptionId" "Ljava/lang/String;" (.ref s0) := (F7_subscriptionId.keep K8 nin0).other W10 (Or.inr (slot_ne (Or.inr (hw _ (List.mem_of_getElem? (i := 71) rfl))) (Or.inr (hw _ (List.mem_of_getElem? (i := 77) rfl))) (by decide) (t := (.object "java/lang/String")) (t' := (.object "java/lang/String")) (by decide) (by decide)))
  have F10_resourceGroupName : Fld Z h10 x "com/example/timely_errand/timelyerrand/engine/JobCollectionId" "resourceGroupName" "Ljava/lang/String;" (.ref s1) := (F7_resourceGroupName.keep K8 nin0).other W10 (Or.inr (slot_ne (Or.inr (hw _ (List.mem_of_getElem? (i := 74) rfl))) (Or.inr (hw _ (List.mem_of_getElem? (i := 77) rfl))) (by decide) (t := (.object "java/lang/String")) (t' := (.object "java/lang/String")) (by decide) (by decide)))
  refine Rn.pu (g' := (mkF m 34 #[.val (.ref x), .val (.ref s0), .val (.ref s1), .val (.ref s2)] [])) ?_ st10
  exact H10.retV ends_W hlk hret (hb hby d_prog_18_m1_34) (by decide) (by decide) (fun _ q => q) ⟨rfl, E10, F10_subscriptionId, F10_resourceGroupName, F10_name⟩
set_option maxRecDepth 65536 in
set_option maxHeartbeats 40000000 in
theorem c_eq (l : Launch) {Z : State} {a0 : Array Value} {zc : Int32} (B : Base Z a0 zc) (x y s0 s1 s2 t0 t1 t2 u0 u1 u2 v0 v1 v2 : Addr) (cs0 cs1 cs2 ds0 ds1 ds2 : List Int32) (h0 : Heap) (O : Ext Z.heap h0) (E : Exa Z h0 x "com/example/timely_errand/timelyerrand/engine/JobCollectionId") (E' : Exa Z h0 y "com/example/timely_errand/timelyerrand/engine/JobCollectionId") (G0 : Fld Z h0 x "com/example/timely_errand/timelyerrand/engine/JobCollectionId" "subscriptionId" "Ljava/lang/String;" (.ref s0)) (G'0 : Fld Z h0 y "com/example/timely_errand/timelyerrand/engine/JobCollectionId" "subscriptionId" "Ljava/lang/String;" (.ref u0)) (G1 : Fld Z h0 x "com/example/timely_errand/timelyerrand/engine/JobCollectionId" "resourceGroupName" "Ljava/lang/String;" (.ref s1)) (G'1 : Fld Z h0 y "com/example/timely_errand/timelyerrand/engine/JobCollectionId" "resourceGroupName" "Ljava/lang/String;" (.ref u1)) (G2 : Fld Z h0 x "com/example/timely_errand/timelyerrand/engine/JobCollectionId" "name" "Ljava/lang/String;" (.ref s2)) (G'2 : Fld Z h0 y "com/example/timely_errand/timelyerrand/engine/JobCollectionId" "name" "Ljava/lang/String;" (.ref u2)) (F0 : Str Z h0 s0 t0 cs0) (F'0 : Str Z h0 u0 v0 ds0) (F1 : Str Z h0 s1 t1 cs1) (F'1 : Str Z h0 u1 v1 ds1) (F2 : Str Z h0 s2 t2 cs2) (F'2 : Str Z h0 u2 v2 ds2) :
    MetN l Z (⟨"com/example/timely_errand/timelyerrand/engine/JobCollectionId", "equals", "(Ljava/lang/Object;)Z"⟩ : MethodName) prog_18_method_6_code 3 (some .boolean) [] ({ frames := 3, cells := 0, slots := 0, locals := 28 } : Room) #[(.ref x), (.ref y)] h0 [] (fun v h => v = some (.int (if cs0 = ds0 ∧ cs1 = ds1 ∧ cs2 = ds2 then 1 else 0)) ∧ h0 = h) := by
  obtain ⟨hw, S0, hz0⟩ := B
  refine MetN.mk (plainFor_of_name pn_com_example_timely_errand_timelyerrand_engine_JobCollectionId) (fun m => ef_c_eq m x y) O ?_
  intro p e s m below meth c T0 hx hby hml hret hlk hnm hsh H0
  have zs : s.heap.size = h0.size := by rw [hsh]
  refine Rn.pu (T' := T0) (g' := (mkF m 1 #[.val (.ref x), .val (.ref y), .unset] [(.ref y)])) ?_ fun _ zk => XS.aloadN H0.here hx rfl (hb hby d_prog_18_m6_0) rfl rfl zk
  obtain ⟨T1, H1, st1⟩ := H0.instY (hw _ (List.mem_of_getElem? (i := 116) rfl)) (Ins.self E') (g := (mkF m 1 #[.val (.ref x), .val (.ref y), .unset] [(.ref y)])) rfl rfl (hb hby d_prog_18_m6_1)
  refine Rn.pu (g' := (mkF m 4 #[.val (.ref x), .val (.ref y), .unset] [(.int (1 : Int32))])) ?_ st1
  refine Rn.pu (T' := T1) (g' := (mkF m 7 #[.val (.ref x), .val (.ref y), .unset] [])) ?_ fun _ zk => XS.ifNo H1.here hx rfl (hb hby d_prog_18_m6_4) rfl (z_eq_f (by decide)) zk
  refine Rn.pu (T' := T1) (g' := (mkF m 8 #[.val (.ref x), .val (.ref y), .unset] [(.ref y)])) ?_ fun _ zk => XS.aloadN H1.here hx rfl (hb hby d_prog_18_m6_7) rfl rfl zk
  obtain ⟨T2, H2, st2⟩ := H1.castY (hw _ (List.mem_of_getElem? (i := 116) rfl)) (Ins.self E') (g := (mkF m 8 #[.val (.ref x), .val (.ref y), .unset] [(.ref y)])) rfl rfl (hb hby d_prog_18_m6_8)
  refine Rn.pu (g' := (mkF m 11 #[.val (.ref x), .val (.ref y), .unset] [(.ref y)])) ?_ st2
  refine Rn.pu (T' := T2) (g' := (mkF m 12 #[.val (.ref x), .val (.ref y), .val (.ref y)] [])) ?_ fun _ zk => XS.astoreN H2.here hx rfl (hb hby d_prog_18_m6_11) rfl rfl (l' := #[.val (.ref x), .val (.ref y), .val (.ref y)]) rfl zk
  refine Rn.pu (T' := T2) (g' := (mkF m 13 #[.val (.ref x), .val (.ref y), .val (.ref y)] [(.ref x)])) ?_ fun _ zk => XS.aloadN H2.here hx rfl (hb hby d_prog_18_m6_12) rfl rfl zk
  obtain ⟨T3, H3, st3⟩ := H2.getF (host := "") (Or.inl (hw _ (List.mem_of_getElem? (i := 70) rfl))) Via.refl G0 (g := (mkF m 13 #[.val (.ref x), .val (.ref y), .val (.ref y)] [(.ref x)])) rfl rfl (hb hby d_prog_18_m6_13)
  refine Rn.pu (g' := (mkF m 16 #[.val (.ref x), .val (.ref y), .val (.ref y)] [(.ref s0)])) ?_ st3
  refine Rn.pu (T' := T3) (g' := (mkF m 17 #[.val (.ref x), .val (.ref y), .val (.ref y)] [(.ref y), (.ref s0)])) ?_ fun _ zk => XS.aloadN H3.here hx rfl (hb hby d_prog_18_m6_16) rfl rfl zk
  obtain ⟨T4, H4, st4⟩ := H3.getF (host := "") (Or.inl (hw _ (List.mem_of_getElem? (i := 70) rfl))) Via.refl G'0 (g := (mkF m 17 #[.val (.ref x), .val (.ref y), .val (.ref y)] [(.ref y), (.ref s0)])) rfl rfl (hb hby d_prog_18_m6_17)
  refine Rn.pu (g' := (mkF m 20 #[.val (.ref x), .val (.ref y), .val (.ref y)] [(.ref u0), (.ref s0)])) ?_ st4
  by_cases q20_5 : cs0 = ds0
  ·
    obtain ⟨_, T6, h6, H6, ⟨rfl, rfl⟩, -, st6⟩ := H4.callV (C := "java/lang/String") (hw _ (List.mem_of_getElem? (i := 117) rfl)) (hw _ (List.mem_of_getElem? (i := 118) rfl)) (hw _ (List.mem_of_getElem? (i := 120) rfl)) (hw _ (List.mem_of_getElem? (i := 119) rfl)) (by decide) (payEqY (W := 0) q20_5 (hws_eq hw) (hw _ (List.mem_of_getElem? (i := 26) rfl)) F0 F'0 (S0.ext H4.old) hz0 (by decide) (by decide)) F0.exa (g := (mkF m 20 #[.val (.ref x), .val (.ref y), .val (.ref y)] [(.ref u0), (.ref s0)])) rfl (by rw [hml]; rfl) (argsL := [(.ref u0)]) (rest := []) (lenOf pd__Ljava_lang_Object__Z rfl) rfl rfl (Nat.le_of_eq rfl) (hb hby d_prog_18_m6_20) (by decide) (by decide) all0
    refine Rn.pu (g' := (mkF m 23 #[.val (.ref x), .val (.ref y), .val (.ref y)] [(.int (1 : Int32))])) ?_ st6
    refine Rn.pu (T' := T6) (g' := (mkF m 26 #[.val (.ref x), .val (.ref y), .val (.ref y)] [])) ?_ fun _ zk => XS.ifNo H6.here hx rfl (hb hby d_prog_18_m6_23) rfl (z_eq_f (by decide)) zk
    refine Rn.pu (T' := T6) (g' := (mkF m 27 #[.val (.ref x), .val (.ref y), .val (.ref y)] [(.ref x)])) ?_ fun _ zk => XS.aloadN H6.here hx rfl (hb hby d_prog_18_m6_26) rfl rfl zk
    obtain ⟨T7, H7, st7⟩ := H6.getF (host := "") (Or.inl (hw _ (List.mem_of_getElem? (i := 73) rfl))) Via.refl G1 (g := (mkF m 27 #[.val (.ref x), .val (.ref y), .val (.ref y)] [(.ref x)])) rfl rfl (hb hby d_prog_18_m6_27)
    refine Rn.pu (g' := (mkF m 30 #[.val (.ref x), .val (.ref y), .val (.ref y)] [(.ref s1)])) ?_ st7
    refine Rn.pu (T' := T7) (g' := (mkF m 31 #[.val (.ref x), .val (.ref y), .val (.ref y)] [(.ref y), (.ref s1)])) ?_ fun _ zk => XS.aloadN H7.here hx rfl (hb hby d_prog_18_m6_30) rfl rfl zk
    obtain ⟨T8, H8, st8⟩ := H7.getF (host := "") (Or.inl (hw _ (List.mem_of_getElem? (i := 73) rfl))) Via.refl G'1 (g := (mkF m 31 #[.val (.ref x), .val (.ref y), .val (.ref y)] [(.ref y), (.ref s1)])) rfl rfl (hb hby d_prog_18_m6_31)
    refine Rn.pu (g' := (mkF m 34 #[.val (.ref x), .val (.ref y), .val (.ref y)] [(.ref u1), (.ref s1)])) ?_ st8
    by_cases q34_9 : cs1 = ds1
    ·
      obtain ⟨_, T10, h10, H10, ⟨rfl, rfl⟩, -, st10⟩ := H8.callV (C := "java/lang/String") (hw _ (List.mem_of_getElem? (i := 117) rfl)) (hw _ (List.mem_of_getElem? (i := 118) rfl)) (hw _ (List.mem_of_getElem? (i := 120) rfl)) (hw _ (List.mem_of_getElem? (i := 119) rfl)) (by decide) (payEqY (W := 0) q34_9 (hws_eq hw) (hw _ (List.mem_of_getElem? (i := 26) rfl)) F1 F'1 (S0.ext H8.old) hz0 (by decide) (by decide)) F1.exa (g := (mkF m 34 #[.val (.ref x), .val (.ref y), .val (.ref y)] [(.ref u1), (.ref s1)])) rfl (by rw [hml]; rfl) (argsL := [(.ref u1)]) (rest := []) (lenOf pd__Ljava_lang_Object__Z rfl) rfl rfl (Nat.le_of_eq rfl) (hb hby d_prog_18_m6_34) (by decide) (by decide) all0
      refine Rn.pu (g' := (mkF m 37 #[.val (.ref x), .val (.ref y), .val (.ref y)] [(.int (1 : Int32))])) ?_ st10
      refine Rn.pu (T' := T10) (g' := (mkF m 40 #[.val (.ref x), .val (.ref y), .val (.ref y)] [])) ?_ fun _ zk => XS.ifNo H10.here hx rfl (hb hby d_prog_18_m6_37) rfl (z_eq_f (by decide)) zk
      refine Rn.pu (T' := T10) (g' := (mkF m 41 #[.val (.ref x), .val (.ref y), .val (.ref y)] [(.ref x)])) ?_ fun _ zk => XS.aloadN H10.here hx rfl (hb hby d_prog_18_m6_40) rfl rfl zk
      obtain ⟨T11, H11, st11⟩ := H10.getF (host := "") (Or.inl (hw _ (List.mem_of_getElem? (i := 76) rfl))) Via.refl G2 (g := (mkF m 41 #[.val (.ref x), .val (.ref y), .val (.ref y)] [(.ref x)])) rfl rfl (hb hby d_prog_18_m6_41)
      refine Rn.pu (g' := (mkF m 44 #[.val (.ref x), .val (.ref y), .val (.ref y)] [(.ref s2)])) ?_ st11
      refine Rn.pu (T' := T11) (g' := (mkF m 45 #[.val (.ref x), .val (.ref y), .val (.ref y)] [(.ref y), (.ref s2)])) ?_ fun _ zk => XS.aloadN H11.here hx rfl (hb hby d_prog_18_m6_44) rfl rfl zk
      obtain ⟨T12, H12, st12⟩ := H11.getF (host := "") (Or.inl (hw _ (List.mem_of_getElem? (i := 76) rfl))) Via.refl G'2 (g := (mkF m 45 #[.val (.ref x), .val (.ref y), .val (.ref y)] [(.ref y), (.ref s2)])) rfl rfl (hb hby d_prog_18_m6_45)
      refine Rn.pu (g' := (mkF m 48 #[.val (.ref x), .val (.ref y), .val (.ref y)] [(.ref u2), (.ref s2)])) ?_ st12
      by_cases q48_13 : cs2 = ds2
      ·
        obtain ⟨_, T14, h14, H14, ⟨rfl, rfl⟩, -, st14⟩ := H12.callV (C := "java/lang/String") (hw _ (List.mem_of_getElem? (i := 117) rfl)) (hw _ (List.mem_of_getElem? (i := 118) rfl)) (hw _ (List.mem_of_getElem? (i := 120) rfl)) (hw _ (List.mem_of_getElem? (i := 119) rfl)) (by decide) (payEqY (W := 0) q48_13 (hws_eq hw) (hw _ (List.mem_of_getElem? (i := 26) rfl)) F2 F'2 (S0.ext H12.old) hz0 (by decide) (by decide)) F2.exa (g := (mkF m 48 #[.val (.ref x), .val (.ref y), .val (.ref y)] [(.ref u2), (.ref s2)])) rfl (by rw [hml]; rfl) (argsL := [(.ref u2)]) (rest := []) (lenOf pd__Ljava_lang_Object__Z rfl) rfl rfl (Nat.le_of_eq rfl) (hb hby d_prog_18_m6_48) (by decide) (by decide) all0
        refine Rn.pu (g' := (mkF m 51 #[.val (.ref x), .val (.ref y), .val (.ref y)] [(.int (1 : Int32))])) ?_ st14
        refine Rn.pu (T' := T14) (g' := (mkF m 54 #[.val (.ref x), .val (.ref y), .val (.ref y)] [])) ?_ fun _ zk => XS.ifNo H14.here hx rfl (hb hby d_prog_18_m6_51) rfl (z_eq_f (by decide)) zk
        refine Rn.pu (T' := T14) (g' := (mkF m 55 #[.val (.ref x), .val (.ref y), .val (.ref y)] [(.int (1 : Int32))])) ?_ fun _ zk => XS.iconst H14.here hx rfl (hb hby d_prog_18_m6_54) zk
        refine Rn.pu (T' := T14) (g' := (mkF m 59 #[.val (.ref x), .val (.ref y), .val (.ref y)] [(.int (1 : Int32))])) ?_ fun _ zk => XS.goto H14.here hx rfl (pc0 := 55) (pc' := 59) rfl (hb hby d_prog_18_m6_55) (by decide) (by decide) zk
        exact H14.retS ends_N hlk (t := .boolean) hret (by simp) (hb hby d_prog_18_m6_59) (by decide) (by decide) (fun _ q => nomatch q) ⟨by rw [if_pos ⟨q20_5, q34_9, q48_13⟩]; rfl, rfl⟩
      ·
        obtain ⟨_, T15, h15, H15, ⟨rfl, rfl⟩, -, st15⟩ := H12.callV (C := "java/lang/String") (hw _ (List.mem_of_getElem? (i := 117) rfl)) (hw _ (List.mem_of_getElem? (i := 118) rfl)) (hw _ (List.mem_of_getElem? (i := 120) rfl)) (hw _ (List.mem_of_getElem? (i := 119) rfl)) (by decide) (payEqN (W := 0) q48_13 (hws_eq hw) (hw _ (List.mem_of_getElem? (i := 26) rfl)) F2 F'2 (S0.ext H12.old) hz0 (by decide) (by decide)) F2.exa (g := (mkF m 48 #[.val (.ref x), .val (.ref y), .val (.ref y)] [(.ref u2), (.ref s2)])) rfl (by rw [hml]; rfl) (argsL := [(.ref u2)]) (rest := []) (lenOf pd__Ljava_lang_Object__Z rfl) rfl rfl (Nat.le_of_eq rfl) (hb hby d_prog_18_m6_48) (by decide) (by decide) all0
        refine Rn.pu (g' := (mkF m 51 #[.val (.ref x), .val (.ref y), .val (.ref y)] [(.int (0 : Int32))])) ?_ st15
        refine Rn.pu (T' := T15) (g' := (mkF m 58 #[.val (.ref x), .val (.ref y), .val (.ref y)] [])) ?_ fun _ zk => XS.ifYes H15.here hx rfl (pc0 := 51) (pc' := 58) rfl (hb hby d_prog_18_m6_51) rfl (z_eq_t rfl) (by decide) (by decide) zk
        refine Rn.pu (T' := T15) (g' := (mkF m 59 #[.val (.ref x), .val (.ref y), .val (.ref y)] [(.int (0 : Int32))])) ?_ fun _ zk => XS.iconst H15.here hx rfl (hb hby d_prog_18_m6_58) zk
        exact H15.retS ends_N hlk (t := .boolean) hret (by simp) (hb hby d_prog_18_m6_59) (by decide) (by decide) (fun _ q => nomatch q) ⟨by rw [if_neg (fun r => q48_13 r.2.2)]; rfl, rfl⟩
    ·
      obtain ⟨_, T16, h16, H16, ⟨rfl, rfl⟩, -, st16⟩ := H8.callV (C := "java/lang/String") (hw _ (List.mem_of_getElem? (i := 117) rfl)) (hw _ (List.mem_of_getElem? (i := 118) rfl)) (hw _ (List.mem_of_getElem? (i := 120) rfl)) (hw _ (List.mem_of_getElem? (i := 119) rfl)) (by decide) (payEqN (W := 0) q34_9 (hws_eq hw) (hw _ (List.mem_of_getElem? (i := 26) rfl)) F1 F'1 (S0.ext H8.old) hz0 (by decide) (by decide)) F1.exa (g := (mkF m 34 #[.val (.ref x), .val (.ref y), .val (.ref y)] [(.ref u1), (.ref s1)])) rfl (by rw [hml]; rfl) (argsL := [(.ref u1)]) (rest := []) (lenOf pd__Ljava_lang_Object__Z rfl) rfl rfl (Nat.le_of_eq rfl) (hb hby d_prog_18_m6_34) (by decide) (by decide) all0
      refine Rn.pu (g' := (mkF m 37 #[.val (.ref x), .val (.ref y), .val (.ref y)] [(.int (0 : Int32))])) ?_ st16
      refine Rn.pu (T' := T16) (g' := (mkF m 58 #[.val (.ref x), .val (.ref y), .val (.ref y)] [])) ?_ fun _ zk => XS.ifYes H16.here hx rfl (pc0 := 37) (pc' := 58) rfl (hb hby d_prog_18_m6_37) rfl (z_eq_t rfl) (by decide) (by decide) zk
      refine Rn.pu (T' := T16) (g' := (mkF m 59 #[.val (.ref x), .val (.ref y), .val (.ref y)] [(.int (0 : Int32))])) ?_ fun _ zk => XS.iconst H16.here hx rfl (hb hby d_prog_18_m6_58) zk
      exact H16.retS ends_N hlk (t := .boolean) hret (by simp) (hb hby d_prog_18_m6_59) (by decide) (by decide) (fun _ q => nomatch q) ⟨by rw [if_neg (fun r => q34_9 r.2.1)]; rfl, rfl⟩
  ·
    obtain ⟨_, T17, h17, H17, ⟨rfl, rfl⟩, -, st17⟩ := H4.callV (C := "java/lang/String") (hw _ (List.mem_of_getElem? (i := 117) rfl)) (hw _ (List.mem_of_getElem? (i := 118) rfl)) (hw _ (List.mem_of_getElem? (i := 120) rfl)) (hw _ (List.mem_of_getElem? (i := 119) rfl)) (by decide) (payEqN (W := 0) q20_5 (hws_eq hw) (hw _ (List.mem_of_getElem? (i := 26) rfl)) F0 F'0 (S0.ext H4.old) hz0 (by decide) (by decide)) F0.exa (g := (mkF m 20 #[.val (.ref x), .val (.ref y), .val (.ref y)] [(.ref u0), (.ref s0)])) rfl (by rw [hml]; rfl) (argsL := [(.ref u0)]) (rest := []) (lenOf pd__Ljava_lang_Object__Z rfl) rfl rfl (Nat.le_of_eq rfl) (hb hby d_prog_18_m6_20) (by decide) (by decide) all0
    refine Rn.pu (g' := (mkF m 23 #[.val (.ref x), .val (.ref y), .val (.ref y)] [(.int (0 : Int32))])) ?_ st17
    refine Rn.pu (T' := T17) (g' := (mkF m 58 #[.val (.ref x), .val (.ref y), .val (.ref y)] [])) ?_ fun _ zk => XS.ifYes H17.here hx rfl (pc0 := 23) (pc' := 58) rfl (hb hby d_prog_18_m6_23) rfl (z_eq_t rfl) (by decide) (by decide) zk
    refine Rn.pu (T' := T17) (g' := (mkF m 59 #[.val (.ref x), .val (.ref y), .val (.ref y)] [(.int (0 : Int32))])) ?_ fun _ zk => XS.iconst H17.here hx rfl (hb hby d_prog_18_m6_58) zk
    exact H17.retS ends_N hlk (t := .boolean) hret (by simp) (hb hby d_prog_18_m6_59) (by decide) (by decide) (fun _ q => nomatch q) ⟨by rw [if_neg (fun r => q20_5 r.1)]; rfl, rfl⟩
theorem c_eqY (l : Launch) {Z : State} {a0 : Array Value} {zc : Int32} (B : Base Z a0 zc) (x y s0 s1 s2 t0 t1 t2 u0 u1 u2 v0 v1 v2 : Addr) (cs0 cs1 cs2 ds0 ds1 ds2 : List Int32) (h0 : Heap) (O : Ext Z.heap h0) (E : Exa Z h0 x "com/example/timely_errand/timelyerrand/engine/JobCollectionId") (E' : Exa Z h0 y "com/example/timely_errand/timelyerrand/engine/JobCollectionId") (G0 : Fld Z h0 x "com/example/timely_errand/timelyerrand/engine/JobCollectionId" "subscriptionId" "Ljava/lang/String;" (.ref s0)) (G'0 : Fld Z h0 y "com/example/timely_errand/timelyerrand/engine/JobCollectionId" "subscriptionId" "Ljava/lang/String;" (.ref u0)) (G1 : Fld Z h0 x "com/example/timely_errand/timelyerrand/engine/JobCollectionId" "resourceGroupName" "Ljava/lang/String;" (.ref s1)) (G'1 : Fld Z h0 y "com/example/timely_errand/timelyerrand/engine/JobCollectionId" "resourceGroupName" "Ljava/lang/String;" (.ref u1)) (G2 : Fld Z h0 x "com/example/timely_errand/timelyerrand/engine/JobCollectionId" "name" "Ljava/lang/String;" (.ref s2)) (G'2 : Fld Z h0 y "com/example/timely_errand/timelyerrand/engine/JobCollectionId" "name" "Ljava/lang/String;" (.ref u2)) (F0 : Str Z h0 s0 t0 cs0) (F'0 : Str Z h0 u0 v0 ds0) (F1 : Str Z h0 s1 t1 cs1) (F'1 : Str Z h0 u1 v1 ds1) (F2 : Str Z h0 s2 t2 cs2) (F'2 : Str Z h0 u2 v2 ds2) (q : cs0 = ds0 ∧ cs1 = ds1 ∧ cs2 = ds2) :
    MetN l Z (⟨"com/example/timely_errand/timelyerrand/engine/JobCollectionId", "equals", "(Ljava/lang/Object;)Z"⟩ : MethodName) prog_18_method_6_code 3 (some .boolean) [] ({ frames := 3, cells := 0, slots := 0, locals := 28 } : Room) #[(.ref x), (.ref y)] h0 [] (fun v h => v = some (.int 1) ∧ h0 = h) := by
  have M := c_eq l B x y s0 s1 s2 t0 t1 t2 u0 u1 u2 v0 v1 v2 cs0 cs1 cs2 ds0 ds1 ds2 h0 O E E' G0 G'0 G1 G'1 G2 G'2 F0 F'0 F1 F'1 F2 F'2
  rw [if_pos q] at M; exact M
theorem c_eqN (l : Launch) {Z : State} {a0 : Array Value} {zc : Int32} (B : Base Z a0 zc) (x y s0 s1 s2 t0 t1 t2 u0 u1 u2 v0 v1 v2 : Addr) (cs0 cs1 cs2 ds0 ds1 ds2 : List Int32) (h0 : Heap) (O : Ext Z.heap h0) (E : Exa Z h0 x "com/example/timely_errand/timelyerrand/engine/JobCollectionId") (E' : Exa Z h0 y "com/example/timely_errand/timelyerrand/engine/JobCollectionId") (G0 : Fld Z h0 x "com/example/timely_errand/timelyerrand/engine/JobCollectionId" "subscriptionId" "Ljava/lang/String;" (.ref s0)) (G'0 : Fld Z h0 y "com/example/timely_errand/timelyerrand/engine/JobCollectionId" "subscriptionId" "Ljava/lang/String;" (.ref u0)) (G1 : Fld Z h0 x "com/example/timely_errand/timelyerrand/engine/JobCollectionId" "resourceGroupName" "Ljava/lang/String;" (.ref s1)) (G'1 : Fld Z h0 y "com/example/timely_errand/timelyerrand/engine/JobCollectionId" "resourceGroupName" "Ljava/lang/String;" (.ref u1)) (G2 : Fld Z h0 x "com/example/timely_errand/timelyerrand/engine/JobCollectionId" "name" "Ljava/lang/String;" (.ref s2)) (G'2 : Fld Z h0 y "com/example/timely_errand/timelyerrand/engine/JobCollectionId" "name" "Ljava/lang/String;" (.ref u2)) (F0 : Str Z h0 s0 t0 cs0) (F'0 : Str Z h0 u0 v0 ds0) (F1 : Str Z h0 s1 t1 cs1) (F'1 : Str Z h0 u1 v1 ds1) (F2 : Str Z h0 s2 t2 cs2) (F'2 : Str Z h0 u2 v2 ds2) (q : ¬ (cs0 = ds0 ∧ cs1 = ds1 ∧ cs2 = ds2)) :
    MetN l Z (⟨"com/example/timely_errand/timelyerrand/engine/JobCollectionId", "equals", "(Ljava/lang/Object;)Z"⟩ : MethodName) prog_18_method_6_code 3 (some .boolean) [] ({ frames := 3, cells := 0, slots := 0, locals := 28 } : Room) #[(.ref x), (.ref y)] h0 [] (fun v h => v = some (.int 0) ∧ h0 = h) := by
  have M := c_eq l B x y s0 s1 s2 t0 t1 t2 u0 u1 u2 v0 v1 v2 cs0 cs1 cs2 ds0 ds1 ds2 h0 O E E' G0 G'0 G1 G'1 G2 G'2 F0 F'0 F1 F'1 F2 F'2
  rw [if_neg q] at M; exact M
set_option maxRecDepth 65536 in
set_option maxHeartbeats 40000000 in
theorem c_eq0 (l : Launch) {Z : State} {a0 : Array Value} {zc : Int32} (B : Base Z a0 zc) (x : Addr) (h0 : Heap) (O : Ext Z.heap h0) :
    MetN l Z (⟨"com/example/timely_errand/timelyerrand/engine/JobCollectionId", "equals", "(Ljava/lang/Object;)Z"⟩ : MethodName) prog_18_method_6_code 3 (some .boolean) [] ({ frames := 3, cells := 0, slots := 0, locals := 28 } : Room) #[(.ref x), .null] h0 [] (fun v h => v = some (.int 0) ∧ h0 = h) := by
  obtain ⟨hw, S0, hz0⟩ := B
  refine MetN.mk (plainFor_of_name pn_com_example_timely_errand_timelyerrand_engine_JobCollectionId) (fun m => ef_c_eq0 m x) O ?_
  intro p e s m below meth c T0 hx hby hml hret hlk hnm hsh H0
  have zs : s.heap.size = h0.size := by rw [hsh]
  refine Rn.pu (T' := T0) (g' := (mkF m 1 #[.val (.ref x), .val .null, .unset] [.null])) ?_ fun _ zk => XS.aloadN H0.here hx rfl (hb hby d_prog_18_m6_0) rfl rfl zk
  refine Rn.pu (g' := (mkF m 4 #[.val (.ref x), .val .null, .unset] [(.int (0 : Int32))])) ?_ (H0.instNull (g := (mkF m 1 #[.val (.ref x), .val .null, .unset] [.null])) rfl rfl (hb hby d_prog_18_m6_1))
  refine Rn.pu (T' := T0) (g' := (mkF m 58 #[.val (.ref x), .val .null, .unset] [])) ?_ fun _ zk => XS.ifYes H0.here hx rfl (pc0 := 4) (pc' := 58) rfl (hb hby d_prog_18_m6_4) rfl (z_eq_t rfl) (by decide) (by decide) zk
  refine Rn.pu (T' := T0) (g' := (mkF m 59 #[.val (.ref x), .val .null, .unset] [(.int (0 : Int32))])) ?_ fun _ zk => XS.iconst H0.here hx rfl (hb hby d_prog_18_m6_58) zk
  exact H0.retS ends_N hlk (t := .boolean) hret (by simp) (hb hby d_prog_18_m6_59) (by decide) (by decide) (fun _ q => nomatch q) ⟨rfl, rfl⟩
set_option maxRecDepth 65536 in
set_option maxHeartbeats 40000000 in
theorem c_bit (l : Launch) {Z : State} {a0 : Array Value} {zc : Int32} (B : Base Z a0 zc) (x i : Int32) (h0 : Heap) (O : Ext Z.heap h0) :
    MetN l Z (⟨"com/example/timely_errand/timelyerrand/engine/JobIdEqualsPinLaw", "bit", "(II)Z"⟩ : MethodName) method_3_code 2 (some .boolean) [] ({ frames := 0, cells := 0, slots := 0, locals := 0 } : Room) #[(.int x), (.int i)] h0 [] (fun v h => v = some (.int (own_bit x i)) ∧ h0 = h) := by
  obtain ⟨hw, S0, hz0⟩ := B
  refine MetN.mk (plainFor_of_name pn_com_example_timely_errand_timelyerrand_engine_JobIdEqualsPinLaw) (fun m => ef_c_bit m x i) O ?_
  intro p e s m below meth c T0 hx hby hml hret hlk hnm hsh H0
  have zs : s.heap.size = h0.size := by rw [hsh]
  refine Rn.pu (T' := T0) (g' := (mkF m 1 #[.val (.int x), .val (.int i)] [(.int x)])) ?_ fun _ zk => XS.iloadN H0.here hx rfl (hb hby d_m3_0) rfl zk
  refine Rn.pu (T' := T0) (g' := (mkF m 2 #[.val (.int x), .val (.int i)] [(.int i), (.int x)])) ?_ fun _ zk => XS.iloadN H0.here hx rfl (hb hby d_m3_1) rfl zk
  refine Rn.pu (T' := T0) (g' := (mkF m 3 #[.val (.int x), .val (.int i)] [(.int (XT.ushr x i))])) ?_ fun _ zk => XT.iushr H0.here hx rfl (hb hby d_m3_2) rfl zk
  refine Rn.pu (T' := T0) (g' := (mkF m 4 #[.val (.int x), .val (.int i)] [(.int (1 : Int32)), (.int (XT.ushr x i))])) ?_ fun _ zk => XS.iconst H0.here hx rfl (hb hby d_m3_3) zk
  refine Rn.pu (T' := T0) (g' := (mkF m 5 #[.val (.int x), .val (.int i)] [(.int ((XT.ushr x i) &&& (1 : Int32)))])) ?_ fun _ zk => XS.iand H0.here hx rfl (hb hby d_m3_4) rfl zk
  by_cases b5_1 : ((XT.ushr x i) &&& (1 : Int32)) = 0
  ·
    refine Rn.pu (T' := T0) (g' := (mkF m 12 #[.val (.int x), .val (.int i)] [])) ?_ fun _ zk => XS.ifYes H0.here hx rfl (pc0 := 5) (pc' := 12) rfl (hb hby d_m3_5) rfl (z_eq_t b5_1) (by decide) (by decide) zk
    refine Rn.pu (T' := T0) (g' := (mkF m 13 #[.val (.int x), .val (.int i)] [(.int (0 : Int32))])) ?_ fun _ zk => XS.iconst H0.here hx rfl (hb hby d_m3_12) zk
    exact H0.retS ends_N hlk (t := .boolean) hret (by simp) (hb hby d_m3_13) (by decide) (by decide) (fun _ q => nomatch q) ⟨by rw [own_bit, if_pos b5_1]; rfl, rfl⟩
  ·
    refine Rn.pu (T' := T0) (g' := (mkF m 8 #[.val (.int x), .val (.int i)] [])) ?_ fun _ zk => XS.ifNo H0.here hx rfl (hb hby d_m3_5) rfl (z_eq_f b5_1) zk
    refine Rn.pu (T' := T0) (g' := (mkF m 9 #[.val (.int x), .val (.int i)] [(.int (1 : Int32))])) ?_ fun _ zk => XS.iconst H0.here hx rfl (hb hby d_m3_8) zk
    refine Rn.pu (T' := T0) (g' := (mkF m 13 #[.val (.int x), .val (.int i)] [(.int (1 : Int32))])) ?_ fun _ zk => XS.goto H0.here hx rfl (pc0 := 9) (pc' := 13) rfl (hb hby d_m3_9) (by decide) (by decide) zk
    exact H0.retS ends_N hlk (t := .boolean) hret (by simp) (hb hby d_m3_13) (by decide) (by decide) (fun _ q => nomatch q) ⟨by rw [own_bit, if_neg b5_1]; rfl, rfl⟩
set_option maxRecDepth 65536 in
set_option maxHeartbeats 40000000 in
theorem c_byte (l : Launch) {Z : State} {a0 : Array Value} {zc : Int32} (B : Base Z a0 zc) (x i : Int32) (h0 : Heap) (O : Ext Z.heap h0) :
    MetN l Z (⟨"com/example/timely_errand/timelyerrand/engine/JobIdEqualsPinLaw", "byteAt", "(II)I"⟩ : MethodName) method_2_code 2 (some .int) [] ({ frames := 0, cells := 0, slots := 0, locals := 0 } : Room) #[(.int x), (.int i)] h0 [] (fun v h => v = some (.int (own_byte x i)) ∧ h0 = h) := by
  obtain ⟨hw, S0, hz0⟩ := B
  refine MetN.mk (plainFor_of_name pn_com_example_timely_errand_timelyerrand_engine_JobIdEqualsPinLaw) (fun m => ef_c_byte m x i) O ?_
  intro p e s m below meth c T0 hx hby hml hret hlk hnm hsh H0
  have zs : s.heap.size = h0.size := by rw [hsh]
  refine Rn.pu (T' := T0) (g' := (mkF m 1 #[.val (.int x), .val (.int i)] [(.int x)])) ?_ fun _ zk => XS.iloadN H0.here hx rfl (hb hby d_m2_0) rfl zk
  refine Rn.pu (T' := T0) (g' := (mkF m 3 #[.val (.int x), .val (.int i)] [(.int (8 : Int32)), (.int x)])) ?_ fun _ zk => XS.bipush H0.here hx rfl (hb hby d_m2_1) zk
  refine Rn.pu (T' := T0) (g' := (mkF m 4 #[.val (.int x), .val (.int i)] [(.int i), (.int (8 : Int32)), (.int x)])) ?_ fun _ zk => XS.iloadN H0.here hx rfl (hb hby d_m2_3) rfl zk
  refine Rn.pu (T' := T0) (g' := (mkF m 5 #[.val (.int x), .val (.int i)] [(.int ((8 : Int32) * i)), (.int x)])) ?_ fun _ zk => XS.imul H0.here hx rfl (hb hby d_m2_4) rfl zk
  refine Rn.pu (T' := T0) (g' := (mkF m 6 #[.val (.int x), .val (.int i)] [(.int (XT.ushr x ((8 : Int32) * i)))])) ?_ fun _ zk => XT.iushr H0.here hx rfl (hb hby d_m2_5) rfl zk
  refine Rn.pu (T' := T0) (g' := (mkF m 9 #[.val (.int x), .val (.int i)] [(.int (255 : Int32)), (.int (XT.ushr x ((8 : Int32) * i)))])) ?_ fun _ zk => XS.sipush H0.here hx rfl (hb hby d_m2_6) zk
  refine Rn.pu (T' := T0) (g' := (mkF m 10 #[.val (.int x), .val (.int i)] [(.int ((XT.ushr x ((8 : Int32) * i)) &&& (255 : Int32)))])) ?_ fun _ zk => XS.iand H0.here hx rfl (hb hby d_m2_9) rfl zk
  exact H0.retI ends_N hlk hret (hb hby d_m2_10) (by decide) (by decide) (fun _ q => nomatch q) ⟨rfl, rfl⟩
set_option maxRecDepth 65536 in
set_option maxHeartbeats 40000000 in
theorem c_rc1 (l : Launch) {Z : State} {a0 : Array Value} {zc : Int32} (B : Base Z a0 zc) (a b mo i : Int32) (h0 : Heap) (O : Ext Z.heap h0) :
    MetN l Z (⟨"com/example/timely_errand/timelyerrand/engine/JobIdEqualsPinLaw", "rc1", "(IIII)I"⟩ : MethodName) method_5_code 4 (some .int) [] ({ frames := 1, cells := 0, slots := 0, locals := 20 } : Room) #[(.int a), (.int b), (.int mo), (.int i)] h0 [] (fun v h => v = some (.int (own_rc1 a b mo i)) ∧ h0 = h) := by
  obtain ⟨hw, S0, hz0⟩ := B
  refine MetN.mk (plainFor_of_name pn_com_example_timely_errand_timelyerrand_engine_JobIdEqualsPinLaw) (fun m => ef_c_rc1 m a b mo i) O ?_
  intro p e s m below meth c T0 hx hby hml hret hlk hnm hsh H0
  have zs : s.heap.size = h0.size := by rw [hsh]
  refine Rn.pu (T' := T0) (g' := (mkF m 1 #[.val (.int a), .val (.int b), .val (.int mo), .val (.int i)] [(.int mo)])) ?_ fun _ zk => XS.iloadN H0.here hx rfl (hb hby d_m5_0) rfl zk
  refine Rn.pu (T' := T0) (g' := (mkF m 2 #[.val (.int a), .val (.int b), .val (.int mo), .val (.int i)] [(.int i), (.int mo)])) ?_ fun _ zk => XS.iloadN H0.here hx rfl (hb hby d_m5_1) rfl zk
  obtain ⟨_, T1, h1, H1, ⟨rfl, rfl⟩, -, st1⟩ := H0.callS (hw _ (List.mem_of_getElem? (i := 4) rfl)) (hw _ (List.mem_of_getElem? (i := 5) rfl)) (hw _ (List.mem_of_getElem? (i := 2) rfl)) (hw _ (List.mem_of_getElem? (i := 6) rfl)) (by decide) (MetN.pay (W := 0) (c_bit l ⟨hw, S0, hz0⟩ mo i h0 H0.old) (hw _ (List.mem_of_getElem? (i := 6) rfl)) (hw _ (List.mem_of_getElem? (i := 2) rfl)) (by decide) (by decide)) (g := (mkF m 2 #[.val (.int a), .val (.int b), .val (.int mo), .val (.int i)] [(.int i), (.int mo)])) rfl (by rw [hml]; rfl) (argsL := [(.int mo), (.int i)]) (rest := []) (lenOf pd__II_Z rfl) rfl rfl (Nat.le_of_eq rfl) (hb hby d_m5_2) (by decide) (by decide) all0
  refine Rn.pu (g' := (mkF m 5 #[.val (.int a), .val (.int b), .val (.int mo), .val (.int i)] [(.int (own_bit mo i))])) ?_ st1
  by_cases b5_2 : (own_bit mo i) = 0
  ·
    refine Rn.pu (T' := T1) (g' := (mkF m 16 #[.val (.int a), .val (.int b), .val (.int mo), .val (.int i)] [])) ?_ fun _ zk => XS.ifYes H1.here hx rfl (pc0 := 5) (pc' := 16) rfl (hb hby d_m5_5) rfl (z_eq_t b5_2) (by decide) (by decide) zk
    refine Rn.pu (T' := T1) (g' := (mkF m 17 #[.val (.int a), .val (.int b), .val (.int mo), .val (.int i)] [(.int a)])) ?_ fun _ zk => XS.iloadN H1.here hx rfl (hb hby d_m5_16) rfl zk
    refine Rn.pu (T' := T1) (g' := (mkF m 18 #[.val (.int a), .val (.int b), .val (.int mo), .val (.int i)] [(.int i), (.int a)])) ?_ fun _ zk => XS.iloadN H1.here hx rfl (hb hby d_m5_17) rfl zk
    obtain ⟨_, T3, h3, H3, ⟨rfl, rfl⟩, -, st3⟩ := H1.callS (hw _ (List.mem_of_getElem? (i := 10) rfl)) (hw _ (List.mem_of_getElem? (i := 11) rfl)) (hw _ (List.mem_of_getElem? (i := 2) rfl)) (hw _ (List.mem_of_getElem? (i := 12) rfl)) (by decide) (MetN.pay (W := 0) (c_byte l ⟨hw, S0, hz0⟩ a i h0 H1.old) (hw _ (List.mem_of_getElem? (i := 12) rfl)) (hw _ (List.mem_of_getElem? (i := 2) rfl)) (by decide) (by decide)) (g := (mkF m 18 #[.val (.int a), .val (.int b), .val (.int mo), .val (.int i)] [(.int i), (.int a)])) rfl (by rw [hml]; rfl) (argsL := [(.int a), (.int i)]) (rest := []) (lenOf pd__II_I rfl) rfl rfl (Nat.le_of_eq rfl) (hb hby d_m5_18) (by decide) (by decide) all0
    refine Rn.pu (g' := (mkF m 21 #[.val (.int a), .val (.int b), .val (.int mo), .val (.int i)] [(.int (own_byte a i))])) ?_ st3
    exact H3.retI ends_N hlk hret (hb hby d_m5_21) (by decide) (by decide) (fun _ q => nomatch q) ⟨by rw [own_rc1, if_pos b5_2], rfl⟩
  ·
    refine Rn.pu (T' := T1) (g' := (mkF m 8 #[.val (.int a), .val (.int b), .val (.int mo), .val (.int i)] [])) ?_ fun _ zk => XS.ifNo H1.here hx rfl (hb hby d_m5_5) rfl (z_eq_f b5_2) zk
    refine Rn.pu (T' := T1) (g' := (mkF m 9 #[.val (.int a), .val (.int b), .val (.int mo), .val (.int i)] [(.int b)])) ?_ fun _ zk => XS.iloadN H1.here hx rfl (hb hby d_m5_8) rfl zk
    refine Rn.pu (T' := T1) (g' := (mkF m 10 #[.val (.int a), .val (.int b), .val (.int mo), .val (.int i)] [(.int i), (.int b)])) ?_ fun _ zk => XS.iloadN H1.here hx rfl (hb hby d_m5_9) rfl zk
    obtain ⟨_, T4, h4, H4, ⟨rfl, rfl⟩, -, st4⟩ := H1.callS (hw _ (List.mem_of_getElem? (i := 10) rfl)) (hw _ (List.mem_of_getElem? (i := 11) rfl)) (hw _ (List.mem_of_getElem? (i := 2) rfl)) (hw _ (List.mem_of_getElem? (i := 12) rfl)) (by decide) (MetN.pay (W := 0) (c_byte l ⟨hw, S0, hz0⟩ b i h0 H1.old) (hw _ (List.mem_of_getElem? (i := 12) rfl)) (hw _ (List.mem_of_getElem? (i := 2) rfl)) (by decide) (by decide)) (g := (mkF m 10 #[.val (.int a), .val (.int b), .val (.int mo), .val (.int i)] [(.int i), (.int b)])) rfl (by rw [hml]; rfl) (argsL := [(.int b), (.int i)]) (rest := []) (lenOf pd__II_I rfl) rfl rfl (Nat.le_of_eq rfl) (hb hby d_m5_10) (by decide) (by decide) all0
    refine Rn.pu (g' := (mkF m 13 #[.val (.int a), .val (.int b), .val (.int mo), .val (.int i)] [(.int (own_byte b i))])) ?_ st4
    refine Rn.pu (T' := T4) (g' := (mkF m 21 #[.val (.int a), .val (.int b), .val (.int mo), .val (.int i)] [(.int (own_byte b i))])) ?_ fun _ zk => XS.goto H4.here hx rfl (pc0 := 13) (pc' := 21) rfl (hb hby d_m5_13) (by decide) (by decide) zk
    exact H4.retI ends_N hlk hret (hb hby d_m5_21) (by decide) (by decide) (fun _ q => nomatch q) ⟨by rw [own_rc1, if_neg b5_2], rfl⟩
set_option maxRecDepth 65536 in
set_option maxHeartbeats 40000000 in
theorem c_rc2 (l : Launch) {Z : State} {a0 : Array Value} {zc : Int32} (B : Base Z a0 zc) (a b mo i : Int32) (h0 : Heap) (O : Ext Z.heap h0) :
    MetN l Z (⟨"com/example/timely_errand/timelyerrand/engine/JobIdEqualsPinLaw", "rc2", "(IIII)I"⟩ : MethodName) method_6_code 4 (some .int) [] ({ frames := 1, cells := 0, slots := 0, locals := 20 } : Room) #[(.int a), (.int b), (.int mo), (.int i)] h0 [] (fun v h => v = some (.int (own_rc2 a b mo i)) ∧ h0 = h) := by
  obtain ⟨hw, S0, hz0⟩ := B
  refine MetN.mk (plainFor_of_name pn_com_example_timely_errand_timelyerrand_engine_JobIdEqualsPinLaw) (fun m => ef_c_rc2 m a b mo i) O ?_
  intro p e s m below meth c T0 hx hby hml hret hlk hnm hsh H0
  have zs : s.heap.size = h0.size := by rw [hsh]
  refine Rn.pu (T' := T0) (g' := (mkF m 1 #[.val (.int a), .val (.int b), .val (.int mo), .val (.int i)] [(.int mo)])) ?_ fun _ zk => XS.iloadN H0.here hx rfl (hb hby d_m6_0) rfl zk
  refine Rn.pu (T' := T0) (g' := (mkF m 2 #[.val (.int a), .val (.int b), .val (.int mo), .val (.int i)] [(.int (4 : Int32)), (.int mo)])) ?_ fun _ zk => XS.iconst H0.here hx rfl (hb hby d_m6_1) zk
  refine Rn.pu (T' := T0) (g' := (mkF m 3 #[.val (.int a), .val (.int b), .val (.int mo), .val (.int i)] [(.int i), (.int (4 : Int32)), (.int mo)])) ?_ fun _ zk => XS.iloadN H0.here hx rfl (hb hby d_m6_2) rfl zk
  refine Rn.pu (T' := T0) (g' := (mkF m 4 #[.val (.int a), .val (.int b), .val (.int mo), .val (.int i)] [(.int ((4 : Int32) + i)), (.int mo)])) ?_ fun _ zk => XS.iadd H0.here hx rfl (hb hby d_m6_3) rfl zk
  obtain ⟨_, T1, h1, H1, ⟨rfl, rfl⟩, -, st1⟩ := H0.callS (hw _ (List.mem_of_getElem? (i := 4) rfl)) (hw _ (List.mem_of_getElem? (i := 5) rfl)) (hw _ (List.mem_of_getElem? (i := 2) rfl)) (hw _ (List.mem_of_getElem? (i := 6) rfl)) (by decide) (MetN.pay (W := 0) (c_bit l ⟨hw, S0, hz0⟩ mo ((4 : Int32) + i) h0 H0.old) (hw _ (List.mem_of_getElem? (i := 6) rfl)) (hw _ (List.mem_of_getElem? (i := 2) rfl)) (by decide) (by decide)) (g := (mkF m 4 #[.val (.int a), .val (.int b), .val (.int mo), .val (.int i)] [(.int ((4 : Int32) + i)), (.int mo)])) rfl (by rw [hml]; rfl) (argsL := [(.int mo), (.int ((4 : Int32) + i))]) (rest := []) (lenOf pd__II_Z rfl) rfl rfl (Nat.le_of_eq rfl) (hb hby d_m6_4) (by decide) (by decide) all0
  refine Rn.pu (g' := (mkF m 7 #[.val (.int a), .val (.int b), .val (.int mo), .val (.int i)] [(.int (own_bit mo ((4 : Int32) + i)))])) ?_ st1
  by_cases b7_2 : (own_bit mo ((4 : Int32) + i)) = 0
  ·
    refine Rn.pu (T' := T1) (g' := (mkF m 18 #[.val (.int a), .val (.int b), .val (.int mo), .val (.int i)] [])) ?_ fun _ zk => XS.ifYes H1.here hx rfl (pc0 := 7) (pc' := 18) rfl (hb hby d_m6_7) rfl (z_eq_t b7_2) (by decide) (by decide) zk
    refine Rn.pu (T' := T1) (g' := (mkF m 19 #[.val (.int a), .val (.int b), .val (.int mo), .val (.int i)] [(.int a)])) ?_ fun _ zk => XS.iloadN H1.here hx rfl (hb hby d_m6_18) rfl zk
    refine Rn.pu (T' := T1) (g' := (mkF m 20 #[.val (.int a), .val (.int b), .val (.int mo), .val (.int i)] [(.int i), (.int a)])) ?_ fun _ zk => XS.iloadN H1.here hx rfl (hb hby d_m6_19) rfl zk
    obtain ⟨_, T3, h3, H3, ⟨rfl, rfl⟩, -, st3⟩ := H1.callS (hw _ (List.mem_of_getElem? (i := 10) rfl)) (hw _ (List.mem_of_getElem? (i := 11) rfl)) (hw _ (List.mem_of_getElem? (i := 2) rfl)) (hw _ (List.mem_of_getElem? (i := 12) rfl)) (by decide) (MetN.pay (W := 0) (c_byte l ⟨hw, S0, hz0⟩ a i h0 H1.old) (hw _ (List.mem_of_getElem? (i := 12) rfl)) (hw _ (List.mem_of_getElem? (i := 2) rfl)) (by decide) (by decide)) (g := (mkF m 20 #[.val (.int a), .val (.int b), .val (.int mo), .val (.int i)] [(.int i), (.int a)])) rfl (by rw [hml]; rfl) (argsL := [(.int a), (.int i)]) (rest := []) (lenOf pd__II_I rfl) rfl rfl (Nat.le_of_eq rfl) (hb hby d_m6_20) (by decide) (by decide) all0
    refine Rn.pu (g' := (mkF m 23 #[.val (.int a), .val (.int b), .val (.int mo), .val (.int i)] [(.int (own_byte a i))])) ?_ st3
    exact H3.retI ends_N hlk hret (hb hby d_m6_23) (by decide) (by decide) (fun _ q => nomatch q) ⟨by rw [own_rc2, if_pos b7_2], rfl⟩
  ·
    refine Rn.pu (T' := T1) (g' := (mkF m 10 #[.val (.int a), .val (.int b), .val (.int mo), .val (.int i)] [])) ?_ fun _ zk => XS.ifNo H1.here hx rfl (hb hby d_m6_7) rfl (z_eq_f b7_2) zk
    refine Rn.pu (T' := T1) (g' := (mkF m 11 #[.val (.int a), .val (.int b), .val (.int mo), .val (.int i)] [(.int b)])) ?_ fun _ zk => XS.iloadN H1.here hx rfl (hb hby d_m6_10) rfl zk
    refine Rn.pu (T' := T1) (g' := (mkF m 12 #[.val (.int a), .val (.int b), .val (.int mo), .val (.int i)] [(.int i), (.int b)])) ?_ fun _ zk => XS.iloadN H1.here hx rfl (hb hby d_m6_11) rfl zk
    obtain ⟨_, T4, h4, H4, ⟨rfl, rfl⟩, -, st4⟩ := H1.callS (hw _ (List.mem_of_getElem? (i := 10) rfl)) (hw _ (List.mem_of_getElem? (i := 11) rfl)) (hw _ (List.mem_of_getElem? (i := 2) rfl)) (hw _ (List.mem_of_getElem? (i := 12) rfl)) (by decide) (MetN.pay (W := 0) (c_byte l ⟨hw, S0, hz0⟩ b i h0 H1.old) (hw _ (List.mem_of_getElem? (i := 12) rfl)) (hw _ (List.mem_of_getElem? (i := 2) rfl)) (by decide) (by decide)) (g := (mkF m 12 #[.val (.int a), .val (.int b), .val (.int mo), .val (.int i)] [(.int i), (.int b)])) rfl (by rw [hml]; rfl) (argsL := [(.int b), (.int i)]) (rest := []) (lenOf pd__II_I rfl) rfl rfl (Nat.le_of_eq rfl) (hb hby d_m6_12) (by decide) (by decide) all0
    refine Rn.pu (g' := (mkF m 15 #[.val (.int a), .val (.int b), .val (.int mo), .val (.int i)] [(.int (own_byte b i))])) ?_ st4
    refine Rn.pu (T' := T4) (g' := (mkF m 23 #[.val (.int a), .val (.int b), .val (.int mo), .val (.int i)] [(.int (own_byte b i))])) ?_ fun _ zk => XS.goto H4.here hx rfl (pc0 := 15) (pc' := 23) rfl (hb hby d_m6_15) (by decide) (by decide) zk
    exact H4.retI ends_N hlk hret (hb hby d_m6_23) (by decide) (by decide) (fun _ q => nomatch q) ⟨by rw [own_rc2, if_neg b7_2], rfl⟩
set_option maxRecDepth 65536 in
set_option maxHeartbeats 40000000 in
theorem c_rtwo (l : Launch) {Z : State} {a0 : Array Value} {zc : Int32} (B : Base Z a0 zc) (mo i : Int32) (h0 : Heap) (O : Ext Z.heap h0) :
    MetN l Z (⟨"com/example/timely_errand/timelyerrand/engine/JobIdEqualsPinLaw", "rtwo", "(II)Z"⟩ : MethodName) method_7_code 2 (some .boolean) [] ({ frames := 1, cells := 0, slots := 0, locals := 20 } : Room) #[(.int mo), (.int i)] h0 [] (fun v h => v = some (.int (own_rtwo mo i)) ∧ h0 = h) := by
  obtain ⟨hw, S0, hz0⟩ := B
  refine MetN.mk (plainFor_of_name pn_com_example_timely_errand_timelyerrand_engine_JobIdEqualsPinLaw) (fun m => ef_c_rtwo m mo i) O ?_
  intro p e s m below meth c T0 hx hby hml hret hlk hnm hsh H0
  have zs : s.heap.size = h0.size := by rw [hsh]
  refine Rn.pu (T' := T0) (g' := (mkF m 1 #[.val (.int mo), .val (.int i)] [(.int mo)])) ?_ fun _ zk => XS.iloadN H0.here hx rfl (hb hby d_m7_0) rfl zk
  refine Rn.pu (T' := T0) (g' := (mkF m 3 #[.val (.int mo), .val (.int i)] [(.int (12 : Int32)), (.int mo)])) ?_ fun _ zk => XS.bipush H0.here hx rfl (hb hby d_m7_1) zk
  refine Rn.pu (T' := T0) (g' := (mkF m 4 #[.val (.int mo), .val (.int i)] [(.int i), (.int (12 : Int32)), (.int mo)])) ?_ fun _ zk => XS.iloadN H0.here hx rfl (hb hby d_m7_3) rfl zk
  refine Rn.pu (T' := T0) (g' := (mkF m 5 #[.val (.int mo), .val (.int i)] [(.int ((12 : Int32) + i)), (.int mo)])) ?_ fun _ zk => XS.iadd H0.here hx rfl (hb hby d_m7_4) rfl zk
  obtain ⟨_, T1, h1, H1, ⟨rfl, rfl⟩, -, st1⟩ := H0.callS (hw _ (List.mem_of_getElem? (i := 4) rfl)) (hw _ (List.mem_of_getElem? (i := 5) rfl)) (hw _ (List.mem_of_getElem? (i := 2) rfl)) (hw _ (List.mem_of_getElem? (i := 6) rfl)) (by decide) (MetN.pay (W := 0) (c_bit l ⟨hw, S0, hz0⟩ mo ((12 : Int32) + i) h0 H0.old) (hw _ (List.mem_of_getElem? (i := 6) rfl)) (hw _ (List.mem_of_getElem? (i := 2) rfl)) (by decide) (by decide)) (g := (mkF m 5 #[.val (.int mo), .val (.int i)] [(.int ((12 : Int32) + i)), (.int mo)])) rfl (by rw [hml]; rfl) (argsL := [(.int mo), (.int ((12 : Int32) + i))]) (rest := []) (lenOf pd__II_Z rfl) rfl rfl (Nat.le_of_eq rfl) (hb hby d_m7_5) (by decide) (by decide) all0
  refine Rn.pu (g' := (mkF m 8 #[.val (.int mo), .val (.int i)] [(.int (own_bit mo ((12 : Int32) + i)))])) ?_ st1
  by_cases b8_2 : (own_bit mo ((12 : Int32) + i)) = 0
  ·
    refine Rn.pu (T' := T1) (g' := (mkF m 22 #[.val (.int mo), .val (.int i)] [])) ?_ fun _ zk => XS.ifYes H1.here hx rfl (pc0 := 8) (pc' := 22) rfl (hb hby d_m7_8) rfl (z_eq_t b8_2) (by decide) (by decide) zk
    refine Rn.pu (T' := T1) (g' := (mkF m 23 #[.val (.int mo), .val (.int i)] [(.int mo)])) ?_ fun _ zk => XS.iloadN H1.here hx rfl (hb hby d_m7_22) rfl zk
    refine Rn.pu (T' := T1) (g' := (mkF m 25 #[.val (.int mo), .val (.int i)] [(.int (8 : Int32)), (.int mo)])) ?_ fun _ zk => XS.bipush H1.here hx rfl (hb hby d_m7_23) zk
    refine Rn.pu (T' := T1) (g' := (mkF m 26 #[.val (.int mo), .val (.int i)] [(.int i), (.int (8 : Int32)), (.int mo)])) ?_ fun _ zk => XS.iloadN H1.here hx rfl (hb hby d_m7_25) rfl zk
    refine Rn.pu (T' := T1) (g' := (mkF m 27 #[.val (.int mo), .val (.int i)] [(.int ((8 : Int32) + i)), (.int mo)])) ?_ fun _ zk => XS.iadd H1.here hx rfl (hb hby d_m7_26) rfl zk
    obtain ⟨_, T3, h3, H3, ⟨rfl, rfl⟩, -, st3⟩ := H1.callS (hw _ (List.mem_of_getElem? (i := 4) rfl)) (hw _ (List.mem_of_getElem? (i := 5) rfl)) (hw _ (List.mem_of_getElem? (i := 2) rfl)) (hw _ (List.mem_of_getElem? (i := 6) rfl)) (by decide) (MetN.pay (W := 0) (c_bit l ⟨hw, S0, hz0⟩ mo ((8 : Int32) + i) h0 H1.old) (hw _ (List.mem_of_getElem? (i := 6) rfl)) (hw _ (List.mem_of_getElem? (i := 2) rfl)) (by decide) (by decide)) (g := (mkF m 27 #[.val (.int mo), .val (.int i)] [(.int ((8 : Int32) + i)), (.int mo)])) rfl (by rw [hml]; rfl) (argsL := [(.int mo), (.int ((8 : Int32) + i))]) (rest := []) (lenOf pd__II_Z rfl) rfl rfl (Nat.le_of_eq rfl) (hb hby d_m7_27) (by decide) (by decide) all0
    refine Rn.pu (g' := (mkF m 30 #[.val (.int mo), .val (.int i)] [(.int (own_bit mo ((8 : Int32) + i)))])) ?_ st3
    exact H3.retS ends_N hlk (t := .boolean) hret (by simp) (hb hby d_m7_30) (by decide) (by decide) (fun _ q => nomatch q) ⟨by rw [own_rtwo, if_pos b8_2, own_nar (own_bit01 _ _)], rfl⟩
  ·
    refine Rn.pu (T' := T1) (g' := (mkF m 11 #[.val (.int mo), .val (.int i)] [])) ?_ fun _ zk => XS.ifNo H1.here hx rfl (hb hby d_m7_8) rfl (z_eq_f b8_2) zk
    refine Rn.pu (T' := T1) (g' := (mkF m 12 #[.val (.int mo), .val (.int i)] [(.int mo)])) ?_ fun _ zk => XS.iloadN H1.here hx rfl (hb hby d_m7_11) rfl zk
    refine Rn.pu (T' := T1) (g' := (mkF m 14 #[.val (.int mo), .val (.int i)] [(.int (16 : Int32)), (.int mo)])) ?_ fun _ zk => XS.bipush H1.here hx rfl (hb hby d_m7_12) zk
    refine Rn.pu (T' := T1) (g' := (mkF m 15 #[.val (.int mo), .val (.int i)] [(.int i), (.int (16 : Int32)), (.int mo)])) ?_ fun _ zk => XS.iloadN H1.here hx rfl (hb hby d_m7_14) rfl zk
    refine Rn.pu (T' := T1) (g' := (mkF m 16 #[.val (.int mo), .val (.int i)] [(.int ((16 : Int32) + i)), (.int mo)])) ?_ fun _ zk => XS.iadd H1.here hx rfl (hb hby d_m7_15) rfl zk
    obtain ⟨_, T4, h4, H4, ⟨rfl, rfl⟩, -, st4⟩ := H1.callS (hw _ (List.mem_of_getElem? (i := 4) rfl)) (hw _ (List.mem_of_getElem? (i := 5) rfl)) (hw _ (List.mem_of_getElem? (i := 2) rfl)) (hw _ (List.mem_of_getElem? (i := 6) rfl)) (by decide) (MetN.pay (W := 0) (c_bit l ⟨hw, S0, hz0⟩ mo ((16 : Int32) + i) h0 H1.old) (hw _ (List.mem_of_getElem? (i := 6) rfl)) (hw _ (List.mem_of_getElem? (i := 2) rfl)) (by decide) (by decide)) (g := (mkF m 16 #[.val (.int mo), .val (.int i)] [(.int ((16 : Int32) + i)), (.int mo)])) rfl (by rw [hml]; rfl) (argsL := [(.int mo), (.int ((16 : Int32) + i))]) (rest := []) (lenOf pd__II_Z rfl) rfl rfl (Nat.le_of_eq rfl) (hb hby d_m7_16) (by decide) (by decide) all0
    refine Rn.pu (g' := (mkF m 19 #[.val (.int mo), .val (.int i)] [(.int (own_bit mo ((16 : Int32) + i)))])) ?_ st4
    refine Rn.pu (T' := T4) (g' := (mkF m 30 #[.val (.int mo), .val (.int i)] [(.int (own_bit mo ((16 : Int32) + i)))])) ?_ fun _ zk => XS.goto H4.here hx rfl (pc0 := 19) (pc' := 30) rfl (hb hby d_m7_19) (by decide) (by decide) zk
    exact H4.retS ends_N hlk (t := .boolean) hret (by simp) (hb hby d_m7_30) (by decide) (by decide) (fun _ q => nomatch q) ⟨by rw [own_rtwo, if_neg b8_2, own_nar (own_bit01 _ _)], rfl⟩
set_option maxRecDepth 65536 in
set_option maxHeartbeats 40000000 in
theorem c_str (l : Launch) {Z : State} {a0 : Array Value} {zc : Int32} (B : Base Z a0 zc) (c1 c2 b : Int32) (h0 : Heap) (O : Ext Z.heap h0) (q1 : ¬ c1 < 0 ∧ ¬ (255 : Int32) < c1) (q2 : ¬ c2 < 0 ∧ ¬ (255 : Int32) < c2) :
    MetN l Z (⟨"com/example/timely_errand/timelyerrand/engine/JobIdEqualsPinLaw", "str", "(IIZ)Ljava/lang/String;"⟩ : MethodName) method_4_code 3 (some (.object "java/lang/String")) [] ({ frames := 5, cells := 3, slots := 8, locals := 67 } : Room) #[(.int c1), (.int c2), (.int b)] h0 [] (fun v h => ∃ a t, v = some (.ref a) ∧ Str Z h a t (own_str c1 c2 b) ∧ h0.size ≤ a ∧ h.size > a ∧ h0.size ≤ t ∧ h.size > t) := by
  obtain ⟨hw, S0, hz0⟩ := B
  refine MetN.mk (plainFor_of_name pn_com_example_timely_errand_timelyerrand_engine_JobIdEqualsPinLaw) (fun m => ef_c_str m c1 c2 b) O ?_
  intro p e s m below meth c T0 hx hby hml hret hlk hnm hsh H0
  have zs : s.heap.size = h0.size := by rw [hsh]
  refine Rn.pu (T' := T0) (g' := (mkF m 1 #[.val (.int c1), .val (.int c2), .val (.int b)] [(.int b)])) ?_ fun _ zk => XS.iloadN H0.here hx rfl (hb hby d_m4_0) rfl zk
  by_cases b1_1 : b = 0
  ·
    refine Rn.pu (T' := T0) (g' := (mkF m 25 #[.val (.int c1), .val (.int c2), .val (.int b)] [])) ?_ fun _ zk => XS.ifYes H0.here hx rfl (pc0 := 1) (pc' := 25) rfl (hb hby d_m4_1) rfl (z_eq_t b1_1) (by decide) (by decide) zk
    obtain ⟨a2, T2, h2, e2, H2, K2, E2, D2, st2⟩ := H0.newO (hw _ (List.mem_of_getElem? (i := 25) rfl)) (hw _ (List.mem_of_getElem? (i := 26) rfl)) (hw _ (List.mem_of_getElem? (i := 27) rfl)) (g := (mkF m 25 #[.val (.int c1), .val (.int c2), .val (.int b)] [])) rfl (hb hby d_m4_25) (by decide) (by decide)
    have zh2 := K2.1
    have l2 := natlt (E2).lt
    have g2 : s.heap.size ≤ a2 := by omega
    have F2_coder : Fld Z h2 a2 "java/lang/String" "coder" "B" (.int (0 : Int32)) := D2 (Or.inr (hw _ (List.mem_of_getElem? (i := 52) rfl))) (ty := .byte) (by decide)
    have F2_value : Fld Z h2 a2 "java/lang/String" "value" "[B" .null := D2 (Or.inr (hw _ (List.mem_of_getElem? (i := 54) rfl))) (ty := (.array .byte)) (by decide)
    refine Rn.pu (g' := (mkF m 28 #[.val (.int c1), .val (.int c2), .val (.int b)] [(.ref a2)])) ?_ st2
    refine Rn.pu (T' := T2) (g' := (mkF m 29 #[.val (.int c1), .val (.int c2), .val (.int b)] [(.ref a2), (.ref a2)])) ?_ fun _ zk => XS.dup H2.here hx rfl (hb hby d_m4_28) rfl rfl zk
    refine Rn.pu (T' := T2) (g' := (mkF m 30 #[.val (.int c1), .val (.int c2), .val (.int b)] [(.int (1 : Int32)), (.ref a2), (.ref a2)])) ?_ fun _ zk => XS.iconst H2.here hx rfl (hb hby d_m4_29) zk
    obtain ⟨a3, k3, T3, h3, e3, H3, K3, A3, st3⟩ := H2.newP (aty := .char) (hw _ (List.mem_of_getElem? (i := 28) rfl)) (g := (mkF m 30 #[.val (.int c1), .val (.int c2), .val (.int b)] [(.int (1 : Int32)), (.ref a2), (.ref a2)])) rfl (hb hby d_m4_30) rfl (by decide) (cap := 1) (by decide) (by decide) (by decide) (by decide)
    have zh3 := K3.1
    have l3 := natlt (A3).lt
    have g3 : s.heap.size ≤ a3 := by omega
    refine Rn.pu (g' := (mkF m 32 #[.val (.int c1), .val (.int c2), .val (.int b)] [(.ref a3), (.ref a2), (.ref a2)])) ?_ st3
    refine Rn.pu (T' := T3) (g' := (mkF m 33 #[.val (.int c1), .val (.int c2), .val (.int b)] [(.ref a3), (.ref a3), (.ref a2), (.ref a2)])) ?_ fun _ zk => XS.dup H3.here hx rfl (hb hby d_m4_32) rfl rfl zk
    refine Rn.pu (T' := T3) (g' := (mkF m 34 #[.val (.int c1), .val (.int c2), .val (.int b)] [(.int (0 : Int32)), (.ref a3), (.ref a3), (.ref a2), (.ref a2)])) ?_ fun _ zk => XS.iconst H3.here hx rfl (hb hby d_m4_33) zk
    refine Rn.pu (T' := T3) (g' := (mkF m 35 #[.val (.int c1), .val (.int c2), .val (.int b)] [(.int c1), (.int (0 : Int32)), (.ref a3), (.ref a3), (.ref a2), (.ref a2)])) ?_ fun _ zk => XS.iloadN H3.here hx rfl (hb hby d_m4_34) rfl zk
    refine Rn.pu (T' := T3) (g' := (mkF m 36 #[.val (.int c1), .val (.int c2), .val (.int b)] [(.int (nar .char c1)), (.int (0 : Int32)), (.ref a3), (.ref a3), (.ref a2), (.ref a2)])) ?_ fun _ zk => XT.i2c H3.here hx rfl (hb hby d_m4_35) rfl zk
    obtain ⟨T4, h4, H4, K4, A4, st4⟩ := H3.stC A3 (by decide) rfl (Or.inr (by omega)) (g := (mkF m 36 #[.val (.int c1), .val (.int c2), .val (.int b)] [(.int (nar .char c1)), (.int (0 : Int32)), (.ref a3), (.ref a3), (.ref a2), (.ref a2)])) rfl rfl (hb hby d_m4_36)
    have zh4 := K4.1
    refine Rn.pu (g' := (mkF m 37 #[.val (.int c1), .val (.int c2), .val (.int b)] [(.ref a3), (.ref a2), (.ref a2)])) ?_ st4
    obtain ⟨_, T5, h5, H5, ⟨rfl, t5, et5, lt5, S5⟩, K5, st5⟩ := H4.callI rfl (hw _ (List.mem_of_getElem? (i := 29) rfl)) (hw _ (List.mem_of_getElem? (i := 30) rfl)) (hw _ (List.mem_of_getElem? (i := 31) rfl)) (by decide) (payNew (cs := [(nar .char (nar .char c1))]) (n := 1) (W := 1) (hws_new hw) (hw _ (List.mem_of_getElem? (i := 26) rfl)) ((E2.keep K3).keep K4) ((F2_value.keep K3 nin0).keep K4 (ninS (adne (by omega)) nin0)) ((F2_coder.keep K3 nin0).keep K4 (ninS (adne (by omega)) nin0)) A4 (S0.ext H4.old) hz0 rfl rfl (by decide) (by decide) (mem2 (lat_nar (lat_nar q1)) mem0) (by decide) (by decide)) (g := (mkF m 37 #[.val (.int c1), .val (.int c2), .val (.int b)] [(.ref a3), (.ref a2), (.ref a2)])) rfl (by rw [hml]; rfl) (argsL := [(.ref a3)]) (rest := [(.ref a2)]) (lenOf pd__AC_V rfl) rfl rfl (Nat.le_of_eq rfl) (hb hby d_m4_37) (by decide) (by decide) (allS (Or.inr (by omega)) all0)
    have zh5 := K5.1
    have l5 := natlt (S5).lt
    refine Rn.pu (g' := (mkF m 40 #[.val (.int c1), .val (.int c2), .val (.int b)] [(.ref a2)])) ?_ st5
    have SX := S5
    rw [own_id q1] at SX
    exact H5.retA ends_N hlk hret rfl rfl rfl (hb hby d_m4_40) (by decide) (by decide) (fun _ q => nomatch q) ⟨a2, t5, rfl, (by rw [own_str, if_pos b1_1]; exact SX), by omega, by omega, by omega, by omega⟩
  ·
    refine Rn.pu (T' := T0) (g' := (mkF m 4 #[.val (.int c1), .val (.int c2), .val (.int b)] [])) ?_ fun _ zk => XS.ifNo H0.here hx rfl (hb hby d_m4_1) rfl (z_eq_f b1_1) zk
    obtain ⟨a6, T6, h6, e6, H6, K6, E6, D6, st6⟩ := H0.newO (hw _ (List.mem_of_getElem? (i := 25) rfl)) (hw _ (List.mem_of_getElem? (i := 26) rfl)) (hw _ (List.mem_of_getElem? (i := 27) rfl)) (g := (mkF m 4 #[.val (.int c1), .val (.int c2), .val (.int b)] [])) rfl (hb hby d_m4_4) (by decide) (by decide)
    have zh6 := K6.1
    have l6 := natlt (E6).lt
    have g6 : s.heap.size ≤ a6 := by omega
    have F6_coder : Fld Z h6 a6 "java/lang/String" "coder" "B" (.int (0 : Int32)) := D6 (Or.inr (hw _ (List.mem_of_getElem? (i := 52) rfl))) (ty := .byte) (by decide)
    have F6_value : Fld Z h6 a6 "java/lang/String" "value" "[B" .null := D6 (Or.inr (hw _ (List.mem_of_getElem? (i := 54) rfl))) (ty := (.array .byte)) (by decide)
    refine Rn.pu (g' := (mkF m 7 #[.val (.int c1), .val (.int c2), .val (.int b)] [(.ref a6)])) ?_ st6
    refine Rn.pu (T' := T6) (g' := (mkF m 8 #[.val (.int c1), .val (.int c2), .val (.int b)] [(.ref a6), (.ref a6)])) ?_ fun _ zk => XS.dup H6.here hx rfl (hb hby d_m4_7) rfl rfl zk
    refine Rn.pu (T' := T6) (g' := (mkF m 9 #[.val (.int c1), .val (.int c2), .val (.int b)] [(.int (2 : Int32)), (.ref a6), (.ref a6)])) ?_ fun _ zk => XS.iconst H6.here hx rfl (hb hby d_m4_8) zk
    obtain ⟨a7, k7, T7, h7, e7, H7, K7, A7, st7⟩ := H6.newP (aty := .char) (hw _ (List.mem_of_getElem? (i := 28) rfl)) (g := (mkF m 9 #[.val (.int c1), .val (.int c2), .val (.int b)] [(.int (2 : Int32)), (.ref a6), (.ref a6)])) rfl (hb hby d_m4_9) rfl (by decide) (cap := 2) (by decide) (by decide) (by decide) (by decide)
    have zh7 := K7.1
    have l7 := natlt (A7).lt
    have g7 : s.heap.size ≤ a7 := by omega
    refine Rn.pu (g' := (mkF m 11 #[.val (.int c1), .val (.int c2), .val (.int b)] [(.ref a7), (.ref a6), (.ref a6)])) ?_ st7
    refine Rn.pu (T' := T7) (g' := (mkF m 12 #[.val (.int c1), .val (.int c2), .val (.int b)] [(.ref a7), (.ref a7), (.ref a6), (.ref a6)])) ?_ fun _ zk => XS.dup H7.here hx rfl (hb hby d_m4_11) rfl rfl zk
    refine Rn.pu (T' := T7) (g' := (mkF m 13 #[.val (.int c1), .val (.int c2), .val (.int b)] [(.int (0 : Int32)), (.ref a7), (.ref a7), (.ref a6), (.ref a6)])) ?_ fun _ zk => XS.iconst H7.here hx rfl (hb hby d_m4_12) zk
    refine Rn.pu (T' := T7) (g' := (mkF m 14 #[.val (.int c1), .val (.int c2), .val (.int b)] [(.int c1), (.int (0 : Int32)), (.ref a7), (.ref a7), (.ref a6), (.ref a6)])) ?_ fun _ zk => XS.iloadN H7.here hx rfl (hb hby d_m4_13) rfl zk
    refine Rn.pu (T' := T7) (g' := (mkF m 15 #[.val (.int c1), .val (.int c2), .val (.int b)] [(.int (nar .char c1)), (.int (0 : Int32)), (.ref a7), (.ref a7), (.ref a6), (.ref a6)])) ?_ fun _ zk => XT.i2c H7.here hx rfl (hb hby d_m4_14) rfl zk
    obtain ⟨T8, h8, H8, K8, A8, st8⟩ := H7.stC A7 (by decide) rfl (Or.inr (by omega)) (g := (mkF m 15 #[.val (.int c1), .val (.int c2), .val (.int b)] [(.int (nar .char c1)), (.int (0 : Int32)), (.ref a7), (.ref a7), (.ref a6), (.ref a6)])) rfl rfl (hb hby d_m4_15)
    have zh8 := K8.1
    refine Rn.pu (g' := (mkF m 16 #[.val (.int c1), .val (.int c2), .val (.int b)] [(.ref a7), (.ref a6), (.ref a6)])) ?_ st8
    refine Rn.pu (T' := T8) (g' := (mkF m 17 #[.val (.int c1), .val (.int c2), .val (.int b)] [(.ref a7), (.ref a7), (.ref a6), (.ref a6)])) ?_ fun _ zk => XS.dup H8.here hx rfl (hb hby d_m4_16) rfl rfl zk
    refine Rn.pu (T' := T8) (g' := (mkF m 18 #[.val (.int c1), .val (.int c2), .val (.int b)] [(.int (1 : Int32)), (.ref a7), (.ref a7), (.ref a6), (.ref a6)])) ?_ fun _ zk => XS.iconst H8.here hx rfl (hb hby d_m4_17) zk
    refine Rn.pu (T' := T8) (g' := (mkF m 19 #[.val (.int c1), .val (.int c2), .val (.int b)] [(.int c2), (.int (1 : Int32)), (.ref a7), (.ref a7), (.ref a6), (.ref a6)])) ?_ fun _ zk => XS.iloadN H8.here hx rfl (hb hby d_m4_18) rfl zk
    refine Rn.pu (T' := T8) (g' := (mkF m 20 #[.val (.int c1), .val (.int c2), .val (.int b)] [(.int (nar .char c2)), (.int (1 : Int32)), (.ref a7), (.ref a7), (.ref a6), (.ref a6)])) ?_ fun _ zk => XT.i2c H8.here hx rfl (hb hby d_m4_19) rfl zk
    obtain ⟨T9, h9, H9, K9, A9, st9⟩ := H8.stC A8 (by decide) rfl (Or.inr (by omega)) (g := (mkF m 20 #[.val (.int c1), .val (.int c2), .val (.int b)] [(.int (nar .char c2)), (.int (1 : Int32)), (.ref a7), (.ref a7), (.ref a6), (.ref a6)])) rfl rfl (hb hby d_m4_20)
    have zh9 := K9.1
    refine Rn.pu (g' := (mkF m 21 #[.val (.int c1), .val (.int c2), .val (.int b)] [(.ref a7), (.ref a6), (.ref a6)])) ?_ st9
    obtain ⟨_, T10, h10, H10, ⟨rfl, t10, et10, lt10, S10⟩, K10, st10⟩ := H9.callI rfl (hw _ (List.mem_of_getElem? (i := 29) rfl)) (hw _ (List.mem_of_getElem? (i := 30) rfl)) (hw _ (List.mem_of_getElem? (i := 31) rfl)) (by decide) (payNew (cs := [(nar .char (nar .char c1)), (nar .char (nar .char c2))]) (n := 2) (W := 1) (hws_new hw) (hw _ (List.mem_of_getElem? (i := 26) rfl)) (((E6.keep K7).keep K8).keep K9) (((F6_value.keep K7 nin0).keep K8 (ninS (adne (by omega)) nin0)).keep K9 (ninS (adne (by omega)) nin0)) (((F6_coder.keep K7 nin0).keep K8 (ninS (adne (by omega)) nin0)).keep K9 (ninS (adne (by omega)) nin0)) A9 (S0.ext H9.old) hz0 rfl rfl (by decide) (by decide) (mem2 (lat_nar (lat_nar q1)) (mem2 (lat_nar (lat_nar q2)) mem0)) (by decide) (by decide)) (g := (mkF m 21 #[.val (.int c1), .val (.int c2), .val (.int b)] [(.ref a7), (.ref a6), (.ref a6)])) rfl (by rw [hml]; rfl) (argsL := [(.ref a7)]) (rest := [(.ref a6)]) (lenOf pd__AC_V rfl) rfl rfl (Nat.le_of_eq rfl) (hb hby d_m4_21) (by decide) (by decide) (allS (Or.inr (by omega)) all0)
    have zh10 := K10.1
    have l10 := natlt (S10).lt
    refine Rn.pu (g' := (mkF m 24 #[.val (.int c1), .val (.int c2), .val (.int b)] [(.ref a6)])) ?_ st10
    have SX := S10
    rw [own_id q1, own_id q2] at SX
    exact H10.retA ends_N hlk hret rfl rfl rfl (hb hby d_m4_24) (by decide) (by decide) (fun _ q => nomatch q) ⟨a6, t10, rfl, (by rw [own_str, if_neg b1_1]; exact SX), by omega, by omega, by omega, by omega⟩
set_option maxRecDepth 65536 in
set_option maxHeartbeats 40000000 in
theorem c_left (l : Launch) {Z : State} {a0 : Array Value} {zc : Int32} (B : Base Z a0 zc) (pp ss mo i : Int32) (h0 : Heap) (O : Ext Z.heap h0) :
    MetN l Z (⟨"com/example/timely_errand/timelyerrand/engine/JobIdEqualsPinLaw", "left", "(IIII)Ljava/lang/String;"⟩ : MethodName) method_8_code 4 (some (.object "java/lang/String")) [] ({ frames := 6, cells := 3, slots := 8, locals := 90 } : Room) #[(.int pp), (.int ss), (.int mo), (.int i)] h0 [] (fun v h => ∃ a t, v = some (.ref a) ∧ Str Z h a t (own_left pp ss mo i) ∧ h0.size ≤ a ∧ h.size > a ∧ h0.size ≤ t ∧ h.size > t) := by
  obtain ⟨hw, S0, hz0⟩ := B
  refine MetN.mk (plainFor_of_name pn_com_example_timely_errand_timelyerrand_engine_JobIdEqualsPinLaw) (fun m => ef_c_left m pp ss mo i) O ?_
  intro p e s m below meth c T0 hx hby hml hret hlk hnm hsh H0
  have zs : s.heap.size = h0.size := by rw [hsh]
  refine Rn.pu (T' := T0) (g' := (mkF m 1 #[.val (.int pp), .val (.int ss), .val (.int mo), .val (.int i)] [(.int pp)])) ?_ fun _ zk => XS.iloadN H0.here hx rfl (hb hby d_m8_0) rfl zk
  refine Rn.pu (T' := T0) (g' := (mkF m 2 #[.val (.int pp), .val (.int ss), .val (.int mo), .val (.int i)] [(.int i), (.int pp)])) ?_ fun _ zk => XS.iloadN H0.here hx rfl (hb hby d_m8_1) rfl zk
  obtain ⟨_, T1, h1, H1, ⟨rfl, rfl⟩, -, st1⟩ := H0.callS (hw _ (List.mem_of_getElem? (i := 10) rfl)) (hw _ (List.mem_of_getElem? (i := 11) rfl)) (hw _ (List.mem_of_getElem? (i := 2) rfl)) (hw _ (List.mem_of_getElem? (i := 12) rfl)) (by decide) (MetN.pay (W := 0) (c_byte l ⟨hw, S0, hz0⟩ pp i h0 H0.old) (hw _ (List.mem_of_getElem? (i := 12) rfl)) (hw _ (List.mem_of_getElem? (i := 2) rfl)) (by decide) (by decide)) (g := (mkF m 2 #[.val (.int pp), .val (.int ss), .val (.int mo), .val (.int i)] [(.int i), (.int pp)])) rfl (by rw [hml]; rfl) (argsL := [(.int pp), (.int i)]) (rest := []) (lenOf pd__II_I rfl) rfl rfl (Nat.le_of_eq rfl) (hb hby d_m8_2) (by decide) (by decide) all0
  refine Rn.pu (g' := (mkF m 5 #[.val (.int pp), .val (.int ss), .val (.int mo), .val (.int i)] [(.int (own_byte pp i))])) ?_ st1
  refine Rn.pu (T' := T1) (g' := (mkF m 6 #[.val (.int pp), .val (.int ss), .val (.int mo), .val (.int i)] [(.int ss), (.int (own_byte pp i))])) ?_ fun _ zk => XS.iloadN H1.here hx rfl (hb hby d_m8_5) rfl zk
  refine Rn.pu (T' := T1) (g' := (mkF m 7 #[.val (.int pp), .val (.int ss), .val (.int mo), .val (.int i)] [(.int i), (.int ss), (.int (own_byte pp i))])) ?_ fun _ zk => XS.iloadN H1.here hx rfl (hb hby d_m8_6) rfl zk
  obtain ⟨_, T2, h2, H2, ⟨rfl, rfl⟩, -, st2⟩ := H1.callS (hw _ (List.mem_of_getElem? (i := 10) rfl)) (hw _ (List.mem_of_getElem? (i := 11) rfl)) (hw _ (List.mem_of_getElem? (i := 2) rfl)) (hw _ (List.mem_of_getElem? (i := 12) rfl)) (by decide) (MetN.pay (W := 1) (c_byte l ⟨hw, S0, hz0⟩ ss i h0 H1.old) (hw _ (List.mem_of_getElem? (i := 12) rfl)) (hw _ (List.mem_of_getElem? (i := 2) rfl)) (by decide) (by decide)) (g := (mkF m 7 #[.val (.int pp), .val (.int ss), .val (.int mo), .val (.int i)] [(.int i), (.int ss), (.int (own_byte pp i))])) rfl (by rw [hml]; rfl) (argsL := [(.int ss), (.int i)]) (rest := [(.int (own_byte pp i))]) (lenOf pd__II_I rfl) rfl rfl (Nat.le_of_eq rfl) (hb hby d_m8_7) (by decide) (by decide) all0
  refine Rn.pu (g' := (mkF m 10 #[.val (.int pp), .val (.int ss), .val (.int mo), .val (.int i)] [(.int (own_byte ss i)), (.int (own_byte pp i))])) ?_ st2
  refine Rn.pu (T' := T2) (g' := (mkF m 11 #[.val (.int pp), .val (.int ss), .val (.int mo), .val (.int i)] [(.int mo), (.int (own_byte ss i)), (.int (own_byte pp i))])) ?_ fun _ zk => XS.iloadN H2.here hx rfl (hb hby d_m8_10) rfl zk
  refine Rn.pu (T' := T2) (g' := (mkF m 13 #[.val (.int pp), .val (.int ss), .val (.int mo), .val (.int i)] [(.int (8 : Int32)), (.int mo), (.int (own_byte ss i)), (.int (own_byte pp i))])) ?_ fun _ zk => XS.bipush H2.here hx rfl (hb hby d_m8_11) zk
  refine Rn.pu (T' := T2) (g' := (mkF m 14 #[.val (.int pp), .val (.int ss), .val (.int mo), .val (.int i)] [(.int i), (.int (8 : Int32)), (.int mo), (.int (own_byte ss i)), (.int (own_byte pp i))])) ?_ fun _ zk => XS.iloadN H2.here hx rfl (hb hby d_m8_13) rfl zk
  refine Rn.pu (T' := T2) (g' := (mkF m 15 #[.val (.int pp), .val (.int ss), .val (.int mo), .val (.int i)] [(.int ((8 : Int32) + i)), (.int mo), (.int (own_byte ss i)), (.int (own_byte pp i))])) ?_ fun _ zk => XS.iadd H2.here hx rfl (hb hby d_m8_14) rfl zk
  obtain ⟨_, T3, h3, H3, ⟨rfl, rfl⟩, -, st3⟩ := H2.callS (hw _ (List.mem_of_getElem? (i := 4) rfl)) (hw _ (List.mem_of_getElem? (i := 5) rfl)) (hw _ (List.mem_of_getElem? (i := 2) rfl)) (hw _ (List.mem_of_getElem? (i := 6) rfl)) (by decide) (MetN.pay (W := 2) (c_bit l ⟨hw, S0, hz0⟩ mo ((8 : Int32) + i) h0 H2.old) (hw _ (List.mem_of_getElem? (i := 6) rfl)) (hw _ (List.mem_of_getElem? (i := 2) rfl)) (by decide) (by decide)) (g := (mkF m 15 #[.val (.int pp), .val (.int ss), .val (.int mo), .val (.int i)] [(.int ((8 : Int32) + i)), (.int mo), (.int (own_byte ss i)), (.int (own_byte pp i))])) rfl (by rw [hml]; rfl) (argsL := [(.int mo), (.int ((8 : Int32) + i))]) (rest := [(.int (own_byte ss i)), (.int (own_byte pp i))]) (lenOf pd__II_Z rfl) rfl rfl (Nat.le_of_eq rfl) (hb hby d_m8_15) (by decide) (by decide) all0
  refine Rn.pu (g' := (mkF m 18 #[.val (.int pp), .val (.int ss), .val (.int mo), .val (.int i)] [(.int (own_bit mo ((8 : Int32) + i))), (.int (own_byte ss i)), (.int (own_byte pp i))])) ?_ st3
  obtain ⟨_, T4, h4, H4, ⟨m4, t4, rfl, S4, ga4, la4, gt4, lt4⟩, K4, st4⟩ := H3.callS (hw _ (List.mem_of_getElem? (i := 22) rfl)) (hw _ (List.mem_of_getElem? (i := 23) rfl)) (hw _ (List.mem_of_getElem? (i := 2) rfl)) (hw _ (List.mem_of_getElem? (i := 24) rfl)) (by decide) (MetN.pay (W := 0) (c_str l ⟨hw, S0, hz0⟩ (own_byte pp i) (own_byte ss i) (own_bit mo ((8 : Int32) + i)) h0 H3.old (own_byte_lat _ _) (own_byte_lat _ _)) (hw _ (List.mem_of_getElem? (i := 24) rfl)) (hw _ (List.mem_of_getElem? (i := 2) rfl)) (by decide) (by decide)) (g := (mkF m 18 #[.val (.int pp), .val (.int ss), .val (.int mo), .val (.int i)] [(.int (own_bit mo ((8 : Int32) + i))), (.int (own_byte ss i)), (.int (own_byte pp i))])) rfl (by rw [hml]; rfl) (argsL := [(.int (own_byte pp i)), (.int (own_byte ss i)), (.int (own_bit mo ((8 : Int32) + i)))]) (rest := []) (lenOf pd__IIZ_Ljava_lang_String_ rfl) rfl rfl (Nat.le_of_eq rfl) (hb hby d_m8_18) (by decide) (by decide) all0
  have zh4 := K4.1
  refine Rn.pu (g' := (mkF m 21 #[.val (.int pp), .val (.int ss), .val (.int mo), .val (.int i)] [(.ref m4)])) ?_ st4
  exact H4.retA ends_N hlk hret rfl rfl rfl (hb hby d_m8_21) (by decide) (by decide) (fun _ q => nomatch q) ⟨m4, t4, rfl, S4, by omega, by omega, by omega, by omega⟩
set_option maxRecDepth 65536 in
set_option maxHeartbeats 40000000 in
theorem c_right (l : Launch) {Z : State} {a0 : Array Value} {zc : Int32} (B : Base Z a0 zc) (pp qq ss tt mo i : Int32) (h0 : Heap) (O : Ext Z.heap h0) :
    MetN l Z (⟨"com/example/timely_errand/timelyerrand/engine/JobIdEqualsPinLaw", "right", "(IIIIII)Ljava/lang/String;"⟩ : MethodName) method_9_code 6 (some (.object "java/lang/String")) [] ({ frames := 6, cells := 3, slots := 8, locals := 90 } : Room) #[(.int pp), (.int qq), (.int ss), (.int tt), (.int mo), (.int i)] h0 [] (fun v h => ∃ a t, v = some (.ref a) ∧ Str Z h a t (own_right pp qq ss tt mo i) ∧ h0.size ≤ a ∧ h.size > a ∧ h0.size ≤ t ∧ h.size > t) := by
  obtain ⟨hw, S0, hz0⟩ := B
  refine MetN.mk (plainFor_of_name pn_com_example_timely_errand_timelyerrand_engine_JobIdEqualsPinLaw) (fun m => ef_c_right m pp qq ss tt mo i) O ?_
  intro p e s m below meth c T0 hx hby hml hret hlk hnm hsh H0
  have zs : s.heap.size = h0.size := by rw [hsh]
  refine Rn.pu (T' := T0) (g' := (mkF m 1 #[.val (.int pp), .val (.int qq), .val (.int ss), .val (.int tt), .val (.int mo), .val (.int i)] [(.int pp)])) ?_ fun _ zk => XS.iloadN H0.here hx rfl (hb hby d_m9_0) rfl zk
  refine Rn.pu (T' := T0) (g' := (mkF m 2 #[.val (.int pp), .val (.int qq), .val (.int ss), .val (.int tt), .val (.int mo), .val (.int i)] [(.int qq), (.int pp)])) ?_ fun _ zk => XS.iloadN H0.here hx rfl (hb hby d_m9_1) rfl zk
  refine Rn.pu (T' := T0) (g' := (mkF m 4 #[.val (.int pp), .val (.int qq), .val (.int ss), .val (.int tt), .val (.int mo), .val (.int i)] [(.int mo), (.int qq), (.int pp)])) ?_ fun _ zk => XS.iload H0.here hx rfl (hb hby d_m9_2) rfl zk
  refine Rn.pu (T' := T0) (g' := (mkF m 6 #[.val (.int pp), .val (.int qq), .val (.int ss), .val (.int tt), .val (.int mo), .val (.int i)] [(.int i), (.int mo), (.int qq), (.int pp)])) ?_ fun _ zk => XS.iload H0.here hx rfl (hb hby d_m9_4) rfl zk
  obtain ⟨_, T1, h1, H1, ⟨rfl, rfl⟩, -, st1⟩ := H0.callS (hw _ (List.mem_of_getElem? (i := 13) rfl)) (hw _ (List.mem_of_getElem? (i := 14) rfl)) (hw _ (List.mem_of_getElem? (i := 2) rfl)) (hw _ (List.mem_of_getElem? (i := 15) rfl)) (by decide) (MetN.pay (W := 0) (c_rc1 l ⟨hw, S0, hz0⟩ pp qq mo i h0 H0.old) (hw _ (List.mem_of_getElem? (i := 15) rfl)) (hw _ (List.mem_of_getElem? (i := 2) rfl)) (by decide) (by decide)) (g := (mkF m 6 #[.val (.int pp), .val (.int qq), .val (.int ss), .val (.int tt), .val (.int mo), .val (.int i)] [(.int i), (.int mo), (.int qq), (.int pp)])) rfl (by rw [hml]; rfl) (argsL := [(.int pp), (.int qq), (.int mo), (.int i)]) (rest := []) (lenOf pd__IIII_I rfl) rfl rfl (Nat.le_of_eq rfl) (hb hby d_m9_6) (by decide) (by decide) all0
  refine Rn.pu (g' := (mkF m 9 #[.val (.int pp), .val (.int qq), .val (.int ss), .val (.int tt), .val (.int mo), .val (.int i)] [(.int (own_rc1 pp qq mo i))])) ?_ st1
  refine Rn.pu (T' := T1) (g' := (mkF m 10 #[.val (.int pp), .val (.int qq), .val (.int ss), .val (.int tt), .val (.int mo), .val (.int i)] [(.int ss), (.int (own_rc1 pp qq mo i))])) ?_ fun _ zk => XS.iloadN H1.here hx rfl (hb hby d_m9_9) rfl zk
  refine Rn.pu (T' := T1) (g' := (mkF m 11 #[.val (.int pp), .val (.int qq), .val (.int ss), .val (.int tt), .val (.int mo), .val (.int i)] [(.int tt), (.int ss), (.int (own_rc1 pp qq mo i))])) ?_ fun _ zk => XS.iloadN H1.here hx rfl (hb hby d_m9_10) rfl zk
  refine Rn.pu (T' := T1) (g' := (mkF m 13 #[.val (.int pp), .val (.int qq), .val (.int ss), .val (.int tt), .val (.int mo), .val (.int i)] [(.int mo), (.int tt), (.int ss), (.int (own_rc1 pp qq mo i))])) ?_ fun _ zk => XS.iload H1.here hx rfl (hb hby d_m9_11) rfl zk
  refine Rn.pu (T' := T1) (g' := (mkF m 15 #[.val (.int pp), .val (.int qq), .val (.int ss), .val (.int tt), .val (.int mo), .val (.int i)] [(.int i), (.int mo), (.int tt), (.int ss), (.int (own_rc1 pp qq mo i))])) ?_ fun _ zk => XS.iload H1.here hx rfl (hb hby d_m9_13) rfl zk
  obtain ⟨_, T2, h2, H2, ⟨rfl, rfl⟩, -, st2⟩ := H1.callS (hw _ (List.mem_of_getElem? (i := 101) rfl)) (hw _ (List.mem_of_getElem? (i := 102) rfl)) (hw _ (List.mem_of_getElem? (i := 2) rfl)) (hw _ (List.mem_of_getElem? (i := 103) rfl)) (by decide) (MetN.pay (W := 1) (c_rc2 l ⟨hw, S0, hz0⟩ ss tt mo i h0 H1.old) (hw _ (List.mem_of_getElem? (i := 103) rfl)) (hw _ (List.mem_of_getElem? (i := 2) rfl)) (by decide) (by decide)) (g := (mkF m 15 #[.val (.int pp), .val (.int qq), .val (.int ss), .val (.int tt), .val (.int mo), .val (.int i)] [(.int i), (.int mo), (.int tt), (.int ss), (.int (own_rc1 pp qq mo i))])) rfl (by rw [hml]; rfl) (argsL := [(.int ss), (.int tt), (.int mo), (.int i)]) (rest := [(.int (own_rc1 pp qq mo i))]) (lenOf pd__IIII_I rfl) rfl rfl (Nat.le_of_eq rfl) (hb hby d_m9_15) (by decide) (by decide) all0
  refine Rn.pu (g' := (mkF m 18 #[.val (.int pp), .val (.int qq), .val (.int ss), .val (.int tt), .val (.int mo), .val (.int i)] [(.int (own_rc2 ss tt mo i)), (.int (own_rc1 pp qq mo i))])) ?_ st2
  refine Rn.pu (T' := T2) (g' := (mkF m 20 #[.val (.int pp), .val (.int qq), .val (.int ss), .val (.int tt), .val (.int mo), .val (.int i)] [(.int mo), (.int (own_rc2 ss tt mo i)), (.int (own_rc1 pp qq mo i))])) ?_ fun _ zk => XS.iload H2.here hx rfl (hb hby d_m9_18) rfl zk
  refine Rn.pu (T' := T2) (g' := (mkF m 22 #[.val (.int pp), .val (.int qq), .val (.int ss), .val (.int tt), .val (.int mo), .val (.int i)] [(.int i), (.int mo), (.int (own_rc2 ss tt mo i)), (.int (own_rc1 pp qq mo i))])) ?_ fun _ zk => XS.iload H2.here hx rfl (hb hby d_m9_20) rfl zk
  obtain ⟨_, T3, h3, H3, ⟨rfl, rfl⟩, -, st3⟩ := H2.callS (hw _ (List.mem_of_getElem? (i := 7) rfl)) (hw _ (List.mem_of_getElem? (i := 8) rfl)) (hw _ (List.mem_of_getElem? (i := 2) rfl)) (hw _ (List.mem_of_getElem? (i := 9) rfl)) (by decide) (MetN.pay (W := 2) (c_rtwo l ⟨hw, S0, hz0⟩ mo i h0 H2.old) (hw _ (List.mem_of_getElem? (i := 9) rfl)) (hw _ (List.mem_of_getElem? (i := 2) rfl)) (by decide) (by decide)) (g := (mkF m 22 #[.val (.int pp), .val (.int qq), .val (.int ss), .val (.int tt), .val (.int mo), .val (.int i)] [(.int i), (.int mo), (.int (own_rc2 ss tt mo i)), (.int (own_rc1 pp qq mo i))])) rfl (by rw [hml]; rfl) (argsL := [(.int mo), (.int i)]) (rest := [(.int (own_rc2 ss tt mo i)), (.int (own_rc1 pp qq mo i))]) (lenOf pd__II_Z rfl) rfl rfl (Nat.le_of_eq rfl) (hb hby d_m9_22) (by decide) (by decide) all0
  refine Rn.pu (g' := (mkF m 25 #[.val (.int pp), .val (.int qq), .val (.int ss), .val (.int tt), .val (.int mo), .val (.int i)] [(.int (own_rtwo mo i)), (.int (own_rc2 ss tt mo i)), (.int (own_rc1 pp qq mo i))])) ?_ st3
  obtain ⟨_, T4, h4, H4, ⟨m4, t4, rfl, S4, ga4, la4, gt4, lt4⟩, K4, st4⟩ := H3.callS (hw _ (List.mem_of_getElem? (i := 22) rfl)) (hw _ (List.mem_of_getElem? (i := 23) rfl)) (hw _ (List.mem_of_getElem? (i := 2) rfl)) (hw _ (List.mem_of_getElem? (i := 24) rfl)) (by decide) (MetN.pay (W := 0) (c_str l ⟨hw, S0, hz0⟩ (own_rc1 pp qq mo i) (own_rc2 ss tt mo i) (own_rtwo mo i) h0 H3.old (own_rc1_lat _ _ _ _) (own_rc2_lat _ _ _ _)) (hw _ (List.mem_of_getElem? (i := 24) rfl)) (hw _ (List.mem_of_getElem? (i := 2) rfl)) (by decide) (by decide)) (g := (mkF m 25 #[.val (.int pp), .val (.int qq), .val (.int ss), .val (.int tt), .val (.int mo), .val (.int i)] [(.int (own_rtwo mo i)), (.int (own_rc2 ss tt mo i)), (.int (own_rc1 pp qq mo i))])) rfl (by rw [hml]; rfl) (argsL := [(.int (own_rc1 pp qq mo i)), (.int (own_rc2 ss tt mo i)), (.int (own_rtwo mo i))]) (rest := []) (lenOf pd__IIZ_Ljava_lang_String_ rfl) rfl rfl (Nat.le_of_eq rfl) (hb hby d_m9_25) (by decide) (by decide) all0
  have zh4 := K4.1
  refine Rn.pu (g' := (mkF m 28 #[.val (.int pp), .val (.int qq), .val (.int ss), .val (.int tt), .val (.int mo), .val (.int i)] [(.ref m4)])) ?_ st4
  exact H4.retA ends_N hlk hret rfl rfl rfl (hb hby d_m9_28) (by decide) (by decide) (fun _ q => nomatch q) ⟨m4, t4, rfl, S4, by omega, by omega, by omega, by omega⟩
set_option maxRecDepth 65536 in
set_option maxHeartbeats 40000000 in
theorem c_sm (l : Launch) {Z : State} {a0 : Array Value} {zc : Int32} (B : Base Z a0 zc) (pp qq ss tt mo i : Int32) (h0 : Heap) (O : Ext Z.heap h0) :
    MetN l Z (⟨"com/example/timely_errand/timelyerrand/engine/JobIdEqualsPinLaw", "same", "(IIIIII)Z"⟩ : MethodName) method_10_code 8 (some .boolean) [] ({ frames := 2, cells := 0, slots := 0, locals := 40 } : Room) #[(.int pp), (.int qq), (.int ss), (.int tt), (.int mo), (.int i)] h0 [] (fun v h => v = some (.int (if own_left pp ss mo i = own_right pp qq ss tt mo i then 1 else 0)) ∧ h0 = h) := by
  obtain ⟨hw, S0, hz0⟩ := B
  refine MetN.mk (plainFor_of_name pn_com_example_timely_errand_timelyerrand_engine_JobIdEqualsPinLaw) (fun m => ef_c_sm m pp qq ss tt mo i) O ?_
  intro p e s m below meth c T0 hx hby hml hret hlk hnm hsh H0
  have zs : s.heap.size = h0.size := by rw [hsh]
  refine Rn.pu (T' := T0) (g' := (mkF m 2 #[.val (.int pp), .val (.int qq), .val (.int ss), .val (.int tt), .val (.int mo), .val (.int i), .unset, .unset] [(.int mo)])) ?_ fun _ zk => XS.iload H0.here hx rfl (hb hby d_m10_0) rfl zk
  refine Rn.pu (T' := T0) (g' := (mkF m 4 #[.val (.int pp), .val (.int qq), .val (.int ss), .val (.int tt), .val (.int mo), .val (.int i), .unset, .unset] [(.int (8 : Int32)), (.int mo)])) ?_ fun _ zk => XS.bipush H0.here hx rfl (hb hby d_m10_2) zk
  refine Rn.pu (T' := T0) (g' := (mkF m 6 #[.val (.int pp), .val (.int qq), .val (.int ss), .val (.int tt), .val (.int mo), .val (.int i), .unset, .unset] [(.int i), (.int (8 : Int32)), (.int mo)])) ?_ fun _ zk => XS.iload H0.here hx rfl (hb hby d_m10_4) rfl zk
  refine Rn.pu (T' := T0) (g' := (mkF m 7 #[.val (.int pp), .val (.int qq), .val (.int ss), .val (.int tt), .val (.int mo), .val (.int i), .unset, .unset] [(.int ((8 : Int32) + i)), (.int mo)])) ?_ fun _ zk => XS.iadd H0.here hx rfl (hb hby d_m10_6) rfl zk
  obtain ⟨_, T1, h1, H1, ⟨rfl, rfl⟩, -, st1⟩ := H0.callS (hw _ (List.mem_of_getElem? (i := 4) rfl)) (hw _ (List.mem_of_getElem? (i := 5) rfl)) (hw _ (List.mem_of_getElem? (i := 2) rfl)) (hw _ (List.mem_of_getElem? (i := 6) rfl)) (by decide) (MetN.pay (W := 0) (c_bit l ⟨hw, S0, hz0⟩ mo ((8 : Int32) + i) h0 H0.old) (hw _ (List.mem_of_getElem? (i := 6) rfl)) (hw _ (List.mem_of_getElem? (i := 2) rfl)) (by decide) (by decide)) (g := (mkF m 7 #[.val (.int pp), .val (.int qq), .val (.int ss), .val (.int tt), .val (.int mo), .val (.int i), .unset, .unset] [(.int ((8 : Int32) + i)), (.int mo)])) rfl (by rw [hml]; rfl) (argsL := [(.int mo), (.int ((8 : Int32) + i))]) (rest := []) (lenOf pd__II_Z rfl) rfl rfl (Nat.le_of_eq rfl) (hb hby d_m10_7) (by decide) (by decide) all0
  refine Rn.pu (g' := (mkF m 10 #[.val (.int pp), .val (.int qq), .val (.int ss), .val (.int tt), .val (.int mo), .val (.int i), .unset, .unset] [(.int (own_bit mo ((8 : Int32) + i)))])) ?_ st1
  refine Rn.pu (T' := T1) (g' := (mkF m 12 #[.val (.int pp), .val (.int qq), .val (.int ss), .val (.int tt), .val (.int mo), .val (.int i), .val (.int (own_bit mo ((8 : Int32) + i))), .unset] [])) ?_ fun _ zk => XS.istore H1.here hx rfl (hb hby d_m10_10) rfl (l' := #[.val (.int pp), .val (.int qq), .val (.int ss), .val (.int tt), .val (.int mo), .val (.int i), .val (.int (own_bit mo ((8 : Int32) + i))), .unset]) rfl zk
  refine Rn.pu (T' := T1) (g' := (mkF m 14 #[.val (.int pp), .val (.int qq), .val (.int ss), .val (.int tt), .val (.int mo), .val (.int i), .val (.int (own_bit mo ((8 : Int32) + i))), .unset] [(.int mo)])) ?_ fun _ zk => XS.iload H1.here hx rfl (hb hby d_m10_12) rfl zk
  refine Rn.pu (T' := T1) (g' := (mkF m 16 #[.val (.int pp), .val (.int qq), .val (.int ss), .val (.int tt), .val (.int mo), .val (.int i), .val (.int (own_bit mo ((8 : Int32) + i))), .unset] [(.int i), (.int mo)])) ?_ fun _ zk => XS.iload H1.here hx rfl (hb hby d_m10_14) rfl zk
  obtain ⟨_, T2, h2, H2, ⟨rfl, rfl⟩, -, st2⟩ := H1.callS (hw _ (List.mem_of_getElem? (i := 7) rfl)) (hw _ (List.mem_of_getElem? (i := 8) rfl)) (hw _ (List.mem_of_getElem? (i := 2) rfl)) (hw _ (List.mem_of_getElem? (i := 9) rfl)) (by decide) (MetN.pay (W := 0) (c_rtwo l ⟨hw, S0, hz0⟩ mo i h0 H1.old) (hw _ (List.mem_of_getElem? (i := 9) rfl)) (hw _ (List.mem_of_getElem? (i := 2) rfl)) (by decide) (by decide)) (g := (mkF m 16 #[.val (.int pp), .val (.int qq), .val (.int ss), .val (.int tt), .val (.int mo), .val (.int i), .val (.int (own_bit mo ((8 : Int32) + i))), .unset] [(.int i), (.int mo)])) rfl (by rw [hml]; rfl) (argsL := [(.int mo), (.int i)]) (rest := []) (lenOf pd__II_Z rfl) rfl rfl (Nat.le_of_eq rfl) (hb hby d_m10_16) (by decide) (by decide) all0
  refine Rn.pu (g' := (mkF m 19 #[.val (.int pp), .val (.int qq), .val (.int ss), .val (.int tt), .val (.int mo), .val (.int i), .val (.int (own_bit mo ((8 : Int32) + i))), .unset] [(.int (own_rtwo mo i))])) ?_ st2
  refine Rn.pu (T' := T2) (g' := (mkF m 21 #[.val (.int pp), .val (.int qq), .val (.int ss), .val (.int tt), .val (.int mo), .val (.int i), .val (.int (own_bit mo ((8 : Int32) + i))), .val (.int (own_rtwo mo i))] [])) ?_ fun _ zk => XS.istore H2.here hx rfl (hb hby d_m10_19) rfl (l' := #[.val (.int pp), .val (.int qq), .val (.int ss), .val (.int tt), .val (.int mo), .val (.int i), .val (.int (own_bit mo ((8 : Int32) + i))), .val (.int (own_rtwo mo i))]) rfl zk
  refine Rn.pu (T' := T2) (g' := (mkF m 23 #[.val (.int pp), .val (.int qq), .val (.int ss), .val (.int tt), .val (.int mo), .val (.int i), .val (.int (own_bit mo ((8 : Int32) + i))), .val (.int (own_rtwo mo i))] [(.int (own_bit mo ((8 : Int32) + i)))])) ?_ fun _ zk => XS.iload H2.here hx rfl (hb hby d_m10_21) rfl zk
  refine Rn.pu (T' := T2) (g' := (mkF m 25 #[.val (.int pp), .val (.int qq), .val (.int ss), .val (.int tt), .val (.int mo), .val (.int i), .val (.int (own_bit mo ((8 : Int32) + i))), .val (.int (own_rtwo mo i))] [(.int (own_rtwo mo i)), (.int (own_bit mo ((8 : Int32) + i)))])) ?_ fun _ zk => XS.iload H2.here hx rfl (hb hby d_m10_23) rfl zk
  by_cases b25_3 : (own_bit mo ((8 : Int32) + i)) = (own_rtwo mo i)
  ·
    refine Rn.pu (T' := T2) (g' := (mkF m 30 #[.val (.int pp), .val (.int qq), .val (.int ss), .val (.int tt), .val (.int mo), .val (.int i), .val (.int (own_bit mo ((8 : Int32) + i))), .val (.int (own_rtwo mo i))] [])) ?_ fun _ zk => XS.icmpYes H2.here hx rfl (pc0 := 25) (pc' := 30) rfl (hb hby d_m10_25) rfl (c_eq_t b25_3) (by decide) (by decide) zk
    refine Rn.pu (T' := T2) (g' := (mkF m 31 #[.val (.int pp), .val (.int qq), .val (.int ss), .val (.int tt), .val (.int mo), .val (.int i), .val (.int (own_bit mo ((8 : Int32) + i))), .val (.int (own_rtwo mo i))] [(.int pp)])) ?_ fun _ zk => XS.iloadN H2.here hx rfl (hb hby d_m10_30) rfl zk
    refine Rn.pu (T' := T2) (g' := (mkF m 33 #[.val (.int pp), .val (.int qq), .val (.int ss), .val (.int tt), .val (.int mo), .val (.int i), .val (.int (own_bit mo ((8 : Int32) + i))), .val (.int (own_rtwo mo i))] [(.int i), (.int pp)])) ?_ fun _ zk => XS.iload H2.here hx rfl (hb hby d_m10_31) rfl zk
    obtain ⟨_, T4, h4, H4, ⟨rfl, rfl⟩, -, st4⟩ := H2.callS (hw _ (List.mem_of_getElem? (i := 10) rfl)) (hw _ (List.mem_of_getElem? (i := 11) rfl)) (hw _ (List.mem_of_getElem? (i := 2) rfl)) (hw _ (List.mem_of_getElem? (i := 12) rfl)) (by decide) (MetN.pay (W := 0) (c_byte l ⟨hw, S0, hz0⟩ pp i h0 H2.old) (hw _ (List.mem_of_getElem? (i := 12) rfl)) (hw _ (List.mem_of_getElem? (i := 2) rfl)) (by decide) (by decide)) (g := (mkF m 33 #[.val (.int pp), .val (.int qq), .val (.int ss), .val (.int tt), .val (.int mo), .val (.int i), .val (.int (own_bit mo ((8 : Int32) + i))), .val (.int (own_rtwo mo i))] [(.int i), (.int pp)])) rfl (by rw [hml]; rfl) (argsL := [(.int pp), (.int i)]) (rest := []) (lenOf pd__II_I rfl) rfl rfl (Nat.le_of_eq rfl) (hb hby d_m10_33) (by decide) (by decide) all0
    refine Rn.pu (g' := (mkF m 36 #[.val (.int pp), .val (.int qq), .val (.int ss), .val (.int tt), .val (.int mo), .val (.int i), .val (.int (own_bit mo ((8 : Int32) + i))), .val (.int (own_rtwo mo i))] [(.int (own_byte pp i))])) ?_ st4
    refine Rn.pu (T' := T4) (g' := (mkF m 37 #[.val (.int pp), .val (.int qq), .val (.int ss), .val (.int tt), .val (.int mo), .val (.int i), .val (.int (own_bit mo ((8 : Int32) + i))), .val (.int (own_rtwo mo i))] [(.int pp), (.int (own_byte pp i))])) ?_ fun _ zk => XS.iloadN H4.here hx rfl (hb hby d_m10_36) rfl zk
    refine Rn.pu (T' := T4) (g' := (mkF m 38 #[.val (.int pp), .val (.int qq), .val (.int ss), .val (.int tt), .val (.int mo), .val (.int i), .val (.int (own_bit mo ((8 : Int32) + i))), .val (.int (own_rtwo mo i))] [(.int qq), (.int pp), (.int (own_byte pp i))])) ?_ fun _ zk => XS.iloadN H4.here hx rfl (hb hby d_m10_37) rfl zk
    refine Rn.pu (T' := T4) (g' := (mkF m 40 #[.val (.int pp), .val (.int qq), .val (.int ss), .val (.int tt), .val (.int mo), .val (.int i), .val (.int (own_bit mo ((8 : Int32) + i))), .val (.int (own_rtwo mo i))] [(.int mo), (.int qq), (.int pp), (.int (own_byte pp i))])) ?_ fun _ zk => XS.iload H4.here hx rfl (hb hby d_m10_38) rfl zk
    refine Rn.pu (T' := T4) (g' := (mkF m 42 #[.val (.int pp), .val (.int qq), .val (.int ss), .val (.int tt), .val (.int mo), .val (.int i), .val (.int (own_bit mo ((8 : Int32) + i))), .val (.int (own_rtwo mo i))] [(.int i), (.int mo), (.int qq), (.int pp), (.int (own_byte pp i))])) ?_ fun _ zk => XS.iload H4.here hx rfl (hb hby d_m10_40) rfl zk
    obtain ⟨_, T5, h5, H5, ⟨rfl, rfl⟩, -, st5⟩ := H4.callS (hw _ (List.mem_of_getElem? (i := 13) rfl)) (hw _ (List.mem_of_getElem? (i := 14) rfl)) (hw _ (List.mem_of_getElem? (i := 2) rfl)) (hw _ (List.mem_of_getElem? (i := 15) rfl)) (by decide) (MetN.pay (W := 1) (c_rc1 l ⟨hw, S0, hz0⟩ pp qq mo i h0 H4.old) (hw _ (List.mem_of_getElem? (i := 15) rfl)) (hw _ (List.mem_of_getElem? (i := 2) rfl)) (by decide) (by decide)) (g := (mkF m 42 #[.val (.int pp), .val (.int qq), .val (.int ss), .val (.int tt), .val (.int mo), .val (.int i), .val (.int (own_bit mo ((8 : Int32) + i))), .val (.int (own_rtwo mo i))] [(.int i), (.int mo), (.int qq), (.int pp), (.int (own_byte pp i))])) rfl (by rw [hml]; rfl) (argsL := [(.int pp), (.int qq), (.int mo), (.int i)]) (rest := [(.int (own_byte pp i))]) (lenOf pd__IIII_I rfl) rfl rfl (Nat.le_of_eq rfl) (hb hby d_m10_42) (by decide) (by decide) all0
    refine Rn.pu (g' := (mkF m 45 #[.val (.int pp), .val (.int qq), .val (.int ss), .val (.int tt), .val (.int mo), .val (.int i), .val (.int (own_bit mo ((8 : Int32) + i))), .val (.int (own_rtwo mo i))] [(.int (own_rc1 pp qq mo i)), (.int (own_byte pp i))])) ?_ st5
    by_cases b45_6 : (own_byte pp i) = (own_rc1 pp qq mo i)
    ·
      refine Rn.pu (T' := T5) (g' := (mkF m 50 #[.val (.int pp), .val (.int qq), .val (.int ss), .val (.int tt), .val (.int mo), .val (.int i), .val (.int (own_bit mo ((8 : Int32) + i))), .val (.int (own_rtwo mo i))] [])) ?_ fun _ zk => XS.icmpYes H5.here hx rfl (pc0 := 45) (pc' := 50) rfl (hb hby d_m10_45) rfl (c_eq_t b45_6) (by decide) (by decide) zk
      refine Rn.pu (T' := T5) (g' := (mkF m 52 #[.val (.int pp), .val (.int qq), .val (.int ss), .val (.int tt), .val (.int mo), .val (.int i), .val (.int (own_bit mo ((8 : Int32) + i))), .val (.int (own_rtwo mo i))] [(.int (own_bit mo ((8 : Int32) + i)))])) ?_ fun _ zk => XS.iload H5.here hx rfl (hb hby d_m10_50) rfl zk
      by_cases b52_7 : (own_bit mo ((8 : Int32) + i)) = 0
      ·
        refine Rn.pu (T' := T5) (g' := (mkF m 55 #[.val (.int pp), .val (.int qq), .val (.int ss), .val (.int tt), .val (.int mo), .val (.int i), .val (.int (own_bit mo ((8 : Int32) + i))), .val (.int (own_rtwo mo i))] [])) ?_ fun _ zk => XS.ifNo H5.here hx rfl (hb hby d_m10_52) rfl (z_ne_f b52_7) zk
        refine Rn.pu (T' := T5) (g' := (mkF m 56 #[.val (.int pp), .val (.int qq), .val (.int ss), .val (.int tt), .val (.int mo), .val (.int i), .val (.int (own_bit mo ((8 : Int32) + i))), .val (.int (own_rtwo mo i))] [(.int (1 : Int32))])) ?_ fun _ zk => XS.iconst H5.here hx rfl (hb hby d_m10_55) zk
        exact H5.retS ends_N hlk (t := .boolean) hret (by simp) (hb hby d_m10_56) (by decide) (by decide) (fun _ q => nomatch q) ⟨by rw [if_pos (show own_left pp ss mo i = own_right pp qq ss tt mo i from own_seq b25_3 b45_6 (Or.inl b52_7))]; rfl, rfl⟩
      ·
        refine Rn.pu (T' := T5) (g' := (mkF m 57 #[.val (.int pp), .val (.int qq), .val (.int ss), .val (.int tt), .val (.int mo), .val (.int i), .val (.int (own_bit mo ((8 : Int32) + i))), .val (.int (own_rtwo mo i))] [])) ?_ fun _ zk => XS.ifYes H5.here hx rfl (pc0 := 52) (pc' := 57) rfl (hb hby d_m10_52) rfl (z_ne_t b52_7) (by decide) (by decide) zk
        refine Rn.pu (T' := T5) (g' := (mkF m 58 #[.val (.int pp), .val (.int qq), .val (.int ss), .val (.int tt), .val (.int mo), .val (.int i), .val (.int (own_bit mo ((8 : Int32) + i))), .val (.int (own_rtwo mo i))] [(.int ss)])) ?_ fun _ zk => XS.iloadN H5.here hx rfl (hb hby d_m10_57) rfl zk
        refine Rn.pu (T' := T5) (g' := (mkF m 60 #[.val (.int pp), .val (.int qq), .val (.int ss), .val (.int tt), .val (.int mo), .val (.int i), .val (.int (own_bit mo ((8 : Int32) + i))), .val (.int (own_rtwo mo i))] [(.int i), (.int ss)])) ?_ fun _ zk => XS.iload H5.here hx rfl (hb hby d_m10_58) rfl zk
        obtain ⟨_, T8, h8, H8, ⟨rfl, rfl⟩, -, st8⟩ := H5.callS (hw _ (List.mem_of_getElem? (i := 10) rfl)) (hw _ (List.mem_of_getElem? (i := 11) rfl)) (hw _ (List.mem_of_getElem? (i := 2) rfl)) (hw _ (List.mem_of_getElem? (i := 12) rfl)) (by decide) (MetN.pay (W := 0) (c_byte l ⟨hw, S0, hz0⟩ ss i h0 H5.old) (hw _ (List.mem_of_getElem? (i := 12) rfl)) (hw _ (List.mem_of_getElem? (i := 2) rfl)) (by decide) (by decide)) (g := (mkF m 60 #[.val (.int pp), .val (.int qq), .val (.int ss), .val (.int tt), .val (.int mo), .val (.int i), .val (.int (own_bit mo ((8 : Int32) + i))), .val (.int (own_rtwo mo i))] [(.int i), (.int ss)])) rfl (by rw [hml]; rfl) (argsL := [(.int ss), (.int i)]) (rest := []) (lenOf pd__II_I rfl) rfl rfl (Nat.le_of_eq rfl) (hb hby d_m10_60) (by decide) (by decide) all0
        refine Rn.pu (g' := (mkF m 63 #[.val (.int pp), .val (.int qq), .val (.int ss), .val (.int tt), .val (.int mo), .val (.int i), .val (.int (own_bit mo ((8 : Int32) + i))), .val (.int (own_rtwo mo i))] [(.int (own_byte ss i))])) ?_ st8
        refine Rn.pu (T' := T8) (g' := (mkF m 64 #[.val (.int pp), .val (.int qq), .val (.int ss), .val (.int tt), .val (.int mo), .val (.int i), .val (.int (own_bit mo ((8 : Int32) + i))), .val (.int (own_rtwo mo i))] [(.int ss), (.int (own_byte ss i))])) ?_ fun _ zk => XS.iloadN H8.here hx rfl (hb hby d_m10_63) rfl zk
        refine Rn.pu (T' := T8) (g' := (mkF m 65 #[.val (.int pp), .val (.int qq), .val (.int ss), .val (.int tt), .val (.int mo), .val (.int i), .val (.int (own_bit mo ((8 : Int32) + i))), .val (.int (own_rtwo mo i))] [(.int tt), (.int ss), (.int (own_byte ss i))])) ?_ fun _ zk => XS.iloadN H8.here hx rfl (hb hby d_m10_64) rfl zk
        refine Rn.pu (T' := T8) (g' := (mkF m 67 #[.val (.int pp), .val (.int qq), .val (.int ss), .val (.int tt), .val (.int mo), .val (.int i), .val (.int (own_bit mo ((8 : Int32) + i))), .val (.int (own_rtwo mo i))] [(.int mo), (.int tt), (.int ss), (.int (own_byte ss i))])) ?_ fun _ zk => XS.iload H8.here hx rfl (hb hby d_m10_65) rfl zk
        refine Rn.pu (T' := T8) (g' := (mkF m 69 #[.val (.int pp), .val (.int qq), .val (.int ss), .val (.int tt), .val (.int mo), .val (.int i), .val (.int (own_bit mo ((8 : Int32) + i))), .val (.int (own_rtwo mo i))] [(.int i), (.int mo), (.int tt), (.int ss), (.int (own_byte ss i))])) ?_ fun _ zk => XS.iload H8.here hx rfl (hb hby d_m10_67) rfl zk
        obtain ⟨_, T9, h9, H9, ⟨rfl, rfl⟩, -, st9⟩ := H8.callS (hw _ (List.mem_of_getElem? (i := 101) rfl)) (hw _ (List.mem_of_getElem? (i := 102) rfl)) (hw _ (List.mem_of_getElem? (i := 2) rfl)) (hw _ (List.mem_of_getElem? (i := 103) rfl)) (by decide) (MetN.pay (W := 1) (c_rc2 l ⟨hw, S0, hz0⟩ ss tt mo i h0 H8.old) (hw _ (List.mem_of_getElem? (i := 103) rfl)) (hw _ (List.mem_of_getElem? (i := 2) rfl)) (by decide) (by decide)) (g := (mkF m 69 #[.val (.int pp), .val (.int qq), .val (.int ss), .val (.int tt), .val (.int mo), .val (.int i), .val (.int (own_bit mo ((8 : Int32) + i))), .val (.int (own_rtwo mo i))] [(.int i), (.int mo), (.int tt), (.int ss), (.int (own_byte ss i))])) rfl (by rw [hml]; rfl) (argsL := [(.int ss), (.int tt), (.int mo), (.int i)]) (rest := [(.int (own_byte ss i))]) (lenOf pd__IIII_I rfl) rfl rfl (Nat.le_of_eq rfl) (hb hby d_m10_69) (by decide) (by decide) all0
        refine Rn.pu (g' := (mkF m 72 #[.val (.int pp), .val (.int qq), .val (.int ss), .val (.int tt), .val (.int mo), .val (.int i), .val (.int (own_bit mo ((8 : Int32) + i))), .val (.int (own_rtwo mo i))] [(.int (own_rc2 ss tt mo i)), (.int (own_byte ss i))])) ?_ st9
        by_cases b72_10 : (own_byte ss i) = (own_rc2 ss tt mo i)
        ·
          refine Rn.pu (T' := T9) (g' := (mkF m 75 #[.val (.int pp), .val (.int qq), .val (.int ss), .val (.int tt), .val (.int mo), .val (.int i), .val (.int (own_bit mo ((8 : Int32) + i))), .val (.int (own_rtwo mo i))] [])) ?_ fun _ zk => XS.icmpNo H9.here hx rfl (hb hby d_m10_72) rfl (c_ne_f b72_10) zk
          refine Rn.pu (T' := T9) (g' := (mkF m 76 #[.val (.int pp), .val (.int qq), .val (.int ss), .val (.int tt), .val (.int mo), .val (.int i), .val (.int (own_bit mo ((8 : Int32) + i))), .val (.int (own_rtwo mo i))] [(.int (1 : Int32))])) ?_ fun _ zk => XS.iconst H9.here hx rfl (hb hby d_m10_75) zk
          refine Rn.pu (T' := T9) (g' := (mkF m 80 #[.val (.int pp), .val (.int qq), .val (.int ss), .val (.int tt), .val (.int mo), .val (.int i), .val (.int (own_bit mo ((8 : Int32) + i))), .val (.int (own_rtwo mo i))] [(.int (1 : Int32))])) ?_ fun _ zk => XS.goto H9.here hx rfl (pc0 := 76) (pc' := 80) rfl (hb hby d_m10_76) (by decide) (by decide) zk
          exact H9.retS ends_N hlk (t := .boolean) hret (by simp) (hb hby d_m10_80) (by decide) (by decide) (fun _ q => nomatch q) ⟨by rw [if_pos (show own_left pp ss mo i = own_right pp qq ss tt mo i from own_seq b25_3 b45_6 (Or.inr b72_10))]; rfl, rfl⟩
        ·
          refine Rn.pu (T' := T9) (g' := (mkF m 79 #[.val (.int pp), .val (.int qq), .val (.int ss), .val (.int tt), .val (.int mo), .val (.int i), .val (.int (own_bit mo ((8 : Int32) + i))), .val (.int (own_rtwo mo i))] [])) ?_ fun _ zk => XS.icmpYes H9.here hx rfl (pc0 := 72) (pc' := 79) rfl (hb hby d_m10_72) rfl (c_ne_t b72_10) (by decide) (by decide) zk
          refine Rn.pu (T' := T9) (g' := (mkF m 80 #[.val (.int pp), .val (.int qq), .val (.int ss), .val (.int tt), .val (.int mo), .val (.int i), .val (.int (own_bit mo ((8 : Int32) + i))), .val (.int (own_rtwo mo i))] [(.int (0 : Int32))])) ?_ fun _ zk => XS.iconst H9.here hx rfl (hb hby d_m10_79) zk
          exact H9.retS ends_N hlk (t := .boolean) hret (by simp) (hb hby d_m10_80) (by decide) (by decide) (fun _ q => nomatch q) ⟨by rw [if_neg (show ¬ own_left pp ss mo i = own_right pp qq ss tt mo i from own_sne3 b25_3 b52_7 b72_10)]; rfl, rfl⟩
    ·
      refine Rn.pu (T' := T5) (g' := (mkF m 48 #[.val (.int pp), .val (.int qq), .val (.int ss), .val (.int tt), .val (.int mo), .val (.int i), .val (.int (own_bit mo ((8 : Int32) + i))), .val (.int (own_rtwo mo i))] [])) ?_ fun _ zk => XS.icmpNo H5.here hx rfl (hb hby d_m10_45) rfl (c_eq_f b45_6) zk
      refine Rn.pu (T' := T5) (g' := (mkF m 49 #[.val (.int pp), .val (.int qq), .val (.int ss), .val (.int tt), .val (.int mo), .val (.int i), .val (.int (own_bit mo ((8 : Int32) + i))), .val (.int (own_rtwo mo i))] [(.int (0 : Int32))])) ?_ fun _ zk => XS.iconst H5.here hx rfl (hb hby d_m10_48) zk
      exact H5.retS ends_N hlk (t := .boolean) hret (by simp) (hb hby d_m10_49) (by decide) (by decide) (fun _ q => nomatch q) ⟨by rw [if_neg (show ¬ own_left pp ss mo i = own_right pp qq ss tt mo i from own_sne2 b45_6)]; rfl, rfl⟩
  ·
    refine Rn.pu (T' := T2) (g' := (mkF m 28 #[.val (.int pp), .val (.int qq), .val (.int ss), .val (.int tt), .val (.int mo), .val (.int i), .val (.int (own_bit mo ((8 : Int32) + i))), .val (.int (own_rtwo mo i))] [])) ?_ fun _ zk => XS.icmpNo H2.here hx rfl (hb hby d_m10_25) rfl (c_eq_f b25_3) zk
    refine Rn.pu (T' := T2) (g' := (mkF m 29 #[.val (.int pp), .val (.int qq), .val (.int ss), .val (.int tt), .val (.int mo), .val (.int i), .val (.int (own_bit mo ((8 : Int32) + i))), .val (.int (own_rtwo mo i))] [(.int (0 : Int32))])) ?_ fun _ zk => XS.iconst H2.here hx rfl (hb hby d_m10_28) zk
    exact H2.retS ends_N hlk (t := .boolean) hret (by simp) (hb hby d_m10_29) (by decide) (by decide) (fun _ q => nomatch q) ⟨by rw [if_neg (show ¬ own_left pp ss mo i = own_right pp qq ss tt mo i from own_sne1 (own_bit01 _ _) (own_rtwo01 _ _) b25_3)]; rfl, rfl⟩
theorem c_smY (l : Launch) {Z : State} {a0 : Array Value} {zc : Int32} (B : Base Z a0 zc) (pp qq ss tt mo i : Int32) (h0 : Heap) (O : Ext Z.heap h0) (q : own_left pp ss mo i = own_right pp qq ss tt mo i) :
    MetN l Z (⟨"com/example/timely_errand/timelyerrand/engine/JobIdEqualsPinLaw", "same", "(IIIIII)Z"⟩ : MethodName) method_10_code 8 (some .boolean) [] ({ frames := 2, cells := 0, slots := 0, locals := 40 } : Room) #[(.int pp), (.int qq), (.int ss), (.int tt), (.int mo), (.int i)] h0 [] (fun v h => v = some (.int 1) ∧ h0 = h) := by
  have M := c_sm l B pp qq ss tt mo i h0 O
  rw [if_pos q] at M; exact M
theorem c_smN (l : Launch) {Z : State} {a0 : Array Value} {zc : Int32} (B : Base Z a0 zc) (pp qq ss tt mo i : Int32) (h0 : Heap) (O : Ext Z.heap h0) (q : ¬ own_left pp ss mo i = own_right pp qq ss tt mo i) :
    MetN l Z (⟨"com/example/timely_errand/timelyerrand/engine/JobIdEqualsPinLaw", "same", "(IIIIII)Z"⟩ : MethodName) method_10_code 8 (some .boolean) [] ({ frames := 2, cells := 0, slots := 0, locals := 40 } : Room) #[(.int pp), (.int qq), (.int ss), (.int tt), (.int mo), (.int i)] h0 [] (fun v h => v = some (.int 0) ∧ h0 = h) := by
  have M := c_sm l B pp qq ss tt mo i h0 O
  rw [if_neg q] at M; exact M
set_option maxRecDepth 65536 in
set_option maxHeartbeats 40000000 in
theorem c_rnn (l : Launch) {Z : State} {a0 : Array Value} {zc : Int32} (B : Base Z a0 zc) (x y : Addr) (h0 : Heap) (O : Ext Z.heap h0) :
    MetN l Z (⟨"java/util/Objects", "requireNonNull", "(Ljava/lang/Object;Ljava/lang/String;)Ljava/lang/Object;"⟩ : MethodName) jdk_31_method_11_code 2 (some (.object "java/lang/Object")) [] ({ frames := 0, cells := 0, slots := 0, locals := 0 } : Room) #[(.ref x), (.ref y)] h0 [] (fun v h => v = some (.ref x) ∧ h0 = h) := by
  obtain ⟨hw, S0, hz0⟩ := B
  refine MetN.mk (plainFor_of_name pn_java_util_Objects) (fun m => ef_c_rnn m x y) O ?_
  intro p e s m below meth c T0 hx hby hml hret hlk hnm hsh H0
  have zs : s.heap.size = h0.size := by rw [hsh]
  refine Rn.pu (T' := T0) (g' := (mkF m 1 #[.val (.ref x), .val (.ref y)] [(.ref x)])) ?_ fun _ zk => XS.aloadN H0.here hx rfl (hb hby d_jdk_31_m11_0) rfl rfl zk
  refine Rn.pu (T' := T0) (g' := (mkF m 13 #[.val (.ref x), .val (.ref y)] [])) ?_ fun _ zk => XT.ifnonnullYes H0.here hx rfl (pc0 := 1) (pc' := 13) rfl (hb hby d_jdk_31_m11_1) rfl (by decide) (by decide) zk
  refine Rn.pu (T' := T0) (g' := (mkF m 14 #[.val (.ref x), .val (.ref y)] [(.ref x)])) ?_ fun _ zk => XS.aloadN H0.here hx rfl (hb hby d_jdk_31_m11_13) rfl rfl zk
  exact H0.retA ends_N hlk hret rfl rfl rfl (hb hby d_jdk_31_m11_14) (by decide) (by decide) (fun _ q => nomatch q) ⟨rfl, rfl⟩
set_option maxRecDepth 65536 in
set_option maxHeartbeats 40000000 in
theorem c_ji (l : Launch) {Z : State} {a0 : Array Value} {zc : Int32} (B : Base Z a0 zc) (x co s0 t0 : Addr) (cs0 : List Int32) (h0 : Heap) (O : Ext Z.heap h0) (E : Exa Z h0 x "com/example/timely_errand/timelyerrand/engine/JobId") (E2 : Exa Z h0 co "com/example/timely_errand/timelyerrand/engine/JobCollectionId") (G0 : Fld Z h0 x "com/example/timely_errand/timelyerrand/engine/JobId" "collection" "Lcom/example/timely_errand/timelyerrand/engine/JobCollectionId;" .null) (G1 : Fld Z h0 x "com/example/timely_errand/timelyerrand/engine/JobId" "name" "Ljava/lang/String;" .null) (F0 : Str Z h0 s0 t0 cs0) (n0 : ¬ cs0.length = 0) (gx : Z.heap.size ≤ x) (ne : @Ne Nat x s0 ∧ @Ne Nat x t0) :
    MetW l Z (⟨"com/example/timely_errand/timelyerrand/engine/JobId", "<init>", "(Lcom/example/timely_errand/timelyerrand/engine/JobCollectionId;Ljava/lang/String;)V"⟩ : MethodName) prog_19_method_1_code 3 none [] ({ frames := 2, cells := 4, slots := 64, locals := 26 } : Room) #[(.ref x), (.ref co), (.ref s0)] h0 [x] ((fun _ => True)) (fun v vm h => v = none ∧ Exa Z h x "com/example/timely_errand/timelyerrand/engine/JobId" ∧ Fld Z h x "com/example/timely_errand/timelyerrand/engine/JobId" "collection" "Lcom/example/timely_errand/timelyerrand/engine/JobCollectionId;" (.ref co) ∧ Fld Z h x "com/example/timely_errand/timelyerrand/engine/JobId" "name" "Ljava/lang/String;" (.ref s0)) := by
  obtain ⟨hw, S0, hz0⟩ := B
  refine MetW.mk (plainFor_of_name pn_com_example_timely_errand_timelyerrand_engine_JobId) (fun m => ef_c_ji m x co s0) O ?_
  intro p e s m below meth c T0 hx hby hml hret hlk hnm hsh H0
  have zs : s.heap.size = h0.size := by rw [hsh]
  have lx := natlt (E).lt
  obtain ⟨ne0, ne1⟩ := ne
  have u0 := natlt (F0).lt
  have v0 := natlt (F0).ltt
  have H0 := H0.weak (ws' := [x]) (fun _ q => nomatch q) (allS gx all0)
  refine Rn.pu (T' := T0) (g' := (mkF m 1 #[.val (.ref x), .val (.ref co), .val (.ref s0)] [(.ref x)])) ?_ fun _ zk => XS.aloadN H0.here hx rfl (hb hby d_prog_19_m1_0) rfl rfl zk
  obtain ⟨T1, H1, st1⟩ := H0.initO (hw _ (List.mem_of_getElem? (i := 84) rfl)) (hw _ (List.mem_of_getElem? (i := 37) rfl)) (hw _ (List.mem_of_getElem? (i := 38) rfl)) (g := (mkF m 1 #[.val (.ref x), .val (.ref co), .val (.ref s0)] [(.ref x)])) rfl (by rw [hml]; rfl) rfl (hb hby d_prog_19_m1_1) (by decide) (W := 0) (Nat.le_of_eq rfl) (by decide)
  refine Rn.pu (g' := (mkF m 4 #[.val (.ref x), .val (.ref co), .val (.ref s0)] [])) ?_ st1
  refine Rn.pu (T' := T1) (g' := (mkF m 5 #[.val (.ref x), .val (.ref co), .val (.ref s0)] [(.ref x)])) ?_ fun _ zk => XS.aloadN H1.here hx rfl (hb hby d_prog_19_m1_4) rfl rfl zk
  refine Rn.pu (T' := T1) (g' := (mkF m 6 #[.val (.ref x), .val (.ref co), .val (.ref s0)] [(.ref co), (.ref x)])) ?_ fun _ zk => XS.aloadN H1.here hx rfl (hb hby d_prog_19_m1_5) rfl rfl zk
  obtain ⟨a2, T2, h2, H2, K2, st2⟩ := H1.ldcS (hw _ (List.mem_of_getElem? (i := 85) rfl)) (hws_sa hw) (g := (mkF m 6 #[.val (.ref x), .val (.ref co), .val (.ref s0)] [(.ref co), (.ref x)])) rfl (hb hby d_prog_19_m1_6) (n := 40) (by decide) (by decide) (by decide) (by decide)
  have zh2 := K2.1
  refine Rn.pu (g' := (mkF m 8 #[.val (.ref x), .val (.ref co), .val (.ref s0)] [(.ref a2), (.ref co), (.ref x)])) ?_ st2
  obtain ⟨_, T3, h3, H3, ⟨rfl, rfl⟩, -, st3⟩ := H2.callS (hw _ (List.mem_of_getElem? (i := 86) rfl)) (hw _ (List.mem_of_getElem? (i := 87) rfl)) (hw _ (List.mem_of_getElem? (i := 88) rfl)) (hw _ (List.mem_of_getElem? (i := 89) rfl)) (by decide) (MetN.pay (W := 1) (c_rnn l ⟨hw, S0, hz0⟩ co a2 h2 H2.old) (hw _ (List.mem_of_getElem? (i := 89) rfl)) (hw _ (List.mem_of_getElem? (i := 88) rfl)) (by decide) (by decide)) (g := (mkF m 8 #[.val (.ref x), .val (.ref co), .val (.ref s0)] [(.ref a2), (.ref co), (.ref x)])) rfl (by rw [hml]; rfl) (argsL := [(.ref co), (.ref a2)]) (rest := [(.ref x)]) (lenOf pd__Ljava_lang_Object_Ljava_lang_String__Ljava_lang_Object_ rfl) rfl rfl (Nat.le_of_eq rfl) (hb hby d_prog_19_m1_8) (by decide) (by decide) all0
  refine Rn.pu (g' := (mkF m 11 #[.val (.ref x), .val (.ref co), .val (.ref s0)] [(.ref co), (.ref x)])) ?_ st3
  obtain ⟨T4, H4, st4⟩ := H3.castY (hw _ (List.mem_of_getElem? (i := 90) rfl)) (Ins.self (E2.keep K2)) (g := (mkF m 11 #[.val (.ref x), .val (.ref co), .val (.ref s0)] [(.ref co), (.ref x)])) rfl rfl (hb hby d_prog_19_m1_11)
  refine Rn.pu (g' := (mkF m 14 #[.val (.ref x), .val (.ref co), .val (.ref s0)] [(.ref co), (.ref x)])) ?_ st4
  obtain ⟨T5, h5, H5, K5, W5, st5⟩ := H4.putF (host := "") (Or.inl (hw _ (List.mem_of_getElem? (i := 92) rfl))) Via.refl (G0.keep K2 nin0) (E.keep K2) (Or.inr ⟨(hw _ (List.mem_of_getElem? (i := 93) rfl)), rfl, hnm⟩) (hw _ (List.mem_of_getElem? (i := 79) rfl)) (ty := (.object "com/example/timely_errand/timelyerrand/engine/JobCollectionId")) (by decide) rfl rfl (Or.inl (List.mem_singleton.mpr rfl)) (g := (mkF m 14 #[.val (.ref x), .val (.ref co), .val (.ref s0)] [(.ref co), (.ref x)])) rfl rfl (hb hby d_prog_19_m1_14)
  have zh5 := K5.1
  have F5_collection : Fld Z h5 x "com/example/timely_errand/timelyerrand/engine/JobId" "collection" "Lcom/example/timely_errand/timelyerrand/engine/JobCollectionId;" (.ref co) := (G0.keep K2 nin0).same W5
  have E5 := (E.keep K2).keep K5
  have F5_name : Fld Z h5 x "com/example/timely_errand/timelyerrand/engine/JobId" "name" "Ljava/lang/String;" .null := (G1.keep K2 nin0).other W5 (Or.inr (slot_ne (Or.inr (hw _ (List.mem_of_getElem? (i := 97) rfl))) (Or.inr (hw _ (List.mem_of_getElem? (i := 93) rfl))) (by decide) (t := (.object "java/lang/String")) (t' := (.object "com/example/timely_errand/timelyerrand/engine/JobCollectionId")) (by decide) (by decide)))
  refine Rn.pu (g' := (mkF m 17 #[.val (.ref x), .val (.ref co), .val (.ref s0)] [])) ?_ st5
  refine Rn.pu (T' := T5) (g' := (mkF m 18 #[.val (.ref x), .val (.ref co), .val (.ref s0)] [(.ref x)])) ?_ fun _ zk => XS.aloadN H5.here hx rfl (hb hby d_prog_19_m1_17) rfl rfl zk
  refine Rn.pu (T' := T5) (g' := (mkF m 19 #[.val (.ref x), .val (.ref co), .val (.ref s0)] [(.ref s0), (.ref x)])) ?_ fun _ zk => XS.aloadN H5.here hx rfl (hb hby d_prog_19_m1_18) rfl rfl zk
  obtain ⟨a6, T6, h6, H6, K6, st6⟩ := H5.ldcS (hw _ (List.mem_of_getElem? (i := 94) rfl)) (hws_sa hw) (g := (mkF m 19 #[.val (.ref x), .val (.ref co), .val (.ref s0)] [(.ref s0), (.ref x)])) rfl (hb hby d_prog_19_m1_19) (n := 16) (by decide) (by decide) (by decide) (by decide)
  have zh6 := K6.1
  refine Rn.pu (g' := (mkF m 21 #[.val (.ref x), .val (.ref co), .val (.ref s0)] [(.ref a6), (.ref s0), (.ref x)])) ?_ st6
  obtain ⟨_, T7, h7, H7, ⟨rfl, rfl⟩, -, st7⟩ := H6.callS (hw _ (List.mem_of_getElem? (i := 95) rfl)) (hw _ (List.mem_of_getElem? (i := 63) rfl)) (hw _ (List.mem_of_getElem? (i := 18) rfl)) (hw _ (List.mem_of_getElem? (i := 64) rfl)) (by decide) (MetN.pay (W := 1) (c_req l ⟨hw, S0, hz0⟩ s0 a6 t0 cs0 h6 H6.old (((F0.keep K2 nin0 nin0).keep K5 (ninS (adne (by omega)) nin0) (ninS (adne (by omega)) nin0)).keep K6 nin0 nin0) n0) (hw _ (List.mem_of_getElem? (i := 64) rfl)) (hw _ (List.mem_of_getElem? (i := 18) rfl)) (by decide) (by decide)) (g := (mkF m 21 #[.val (.ref x), .val (.ref co), .val (.ref s0)] [(.ref a6), (.ref s0), (.ref x)])) rfl (by rw [hml]; rfl) (argsL := [(.ref s0), (.ref a6)]) (rest := [(.ref x)]) (lenOf pd__Ljava_lang_String_Ljava_lang_String__Ljava_lang_String_ rfl) rfl rfl (Nat.le_of_eq rfl) (hb hby d_prog_19_m1_21) (by decide) (by decide) all0
  refine Rn.pu (g' := (mkF m 24 #[.val (.ref x), .val (.ref co), .val (.ref s0)] [(.ref s0), (.ref x)])) ?_ st7
  obtain ⟨T8, h8, H8, K8, W8, st8⟩ := H7.putF (host := "") (Or.inl (hw _ (List.mem_of_getElem? (i := 96) rfl))) Via.refl (F5_name.keep K6 nin0) (E5.keep K6) (Or.inr ⟨(hw _ (List.mem_of_getElem? (i := 97) rfl)), rfl, hnm⟩) (hw _ (List.mem_of_getElem? (i := 79) rfl)) (ty := (.object "java/lang/String")) (by decide) rfl rfl (Or.inl (List.mem_singleton.mpr rfl)) (g := (mkF m 24 #[.val (.ref x), .val (.ref co), .val (.ref s0)] [(.ref s0), (.ref x)])) rfl rfl (hb hby d_prog_19_m1_24)
  have zh8 := K8.1
  have F8_name : Fld Z h8 x "com/example/timely_errand/timelyerrand/engine/JobId" "name" "Ljava/lang/String;" (.ref s0) := (F5_name.keep K6 nin0).same W8
  have E8 := (E5.keep K6).keep K8
  have F8_collection : Fld Z h8 x "com/example/timely_errand/timelyerrand/engine/JobId" "collection" "Lcom/example/timely_errand/timelyerrand/engine/JobCollectionId;" (.ref co) := (F5_collection.keep K6 nin0).other W8 (Or.inr (slot_ne (Or.inr (hw _ (List.mem_of_getElem? (i := 93) rfl))) (Or.inr (hw _ (List.mem_of_getElem? (i := 97) rfl))) (by decide) (t := (.object "com/example/timely_errand/timelyerrand/engine/JobCollectionId")) (t' := (.object "java/lang/String")) (by decide) (by decide)))
  refine Rn.pu (g' := (mkF m 27 #[.val (.ref x), .val (.ref co), .val (.ref s0)] [])) ?_ st8
  exact H8.retV ends_W hlk hret (hb hby d_prog_19_m1_27) (by decide) (by decide) (fun _ q => q) ⟨rfl, E8, F8_collection, F8_name⟩
set_option maxRecDepth 65536 in
set_option maxHeartbeats 40000000 in
theorem c_jeq (l : Launch) {Z : State} {a0 : Array Value} {zc : Int32} (B : Base Z a0 zc) (x y cx cy s0 s1 s2 s3 t0 t1 t2 t3 u0 u1 u2 u3 v0 v1 v2 v3 : Addr) (cs0 cs1 cs2 cs3 ds0 ds1 ds2 ds3 : List Int32) (h0 : Heap) (O : Ext Z.heap h0) (E : Exa Z h0 x "com/example/timely_errand/timelyerrand/engine/JobId") (E' : Exa Z h0 y "com/example/timely_errand/timelyerrand/engine/JobId") (X : Exa Z h0 cx "com/example/timely_errand/timelyerrand/engine/JobCollectionId") (X' : Exa Z h0 cy "com/example/timely_errand/timelyerrand/engine/JobCollectionId") (A0 : Fld Z h0 x "com/example/timely_errand/timelyerrand/engine/JobId" "collection" "Lcom/example/timely_errand/timelyerrand/engine/JobCollectionId;" (.ref cx)) (A'0 : Fld Z h0 y "com/example/timely_errand/timelyerrand/engine/JobId" "collection" "Lcom/example/timely_errand/timelyerrand/engine/JobCollectionId;" (.ref cy)) (A1 : Fld Z h0 x "com/example/timely_errand/timelyerrand/engine/JobId" "name" "Ljava/lang/String;" (.ref s3)) (A'1 : Fld Z h0 y "com/example/timely_errand/timelyerrand/engine/JobId" "name" "Ljava/lang/String;" (.ref u3)) (G0 : Fld Z h0 cx "com/example/timely_errand/timelyerrand/engine/JobCollectionId" "subscriptionId" "Ljava/lang/String;" (.ref s0)) (G'0 : Fld Z h0 cy "com/example/timely_errand/timelyerrand/engine/JobCollectionId" "subscriptionId" "Ljava/lang/String;" (.ref u0)) (G1 : Fld Z h0 cx "com/example/timely_errand/timelyerrand/engine/JobCollectionId" "resourceGroupName" "Ljava/lang/String;" (.ref s1)) (G'1 : Fld Z h0 cy "com/example/timely_errand/timelyerrand/engine/JobCollectionId" "resourceGroupName" "Ljava/lang/String;" (.ref u1)) (G2 : Fld Z h0 cx "com/example/timely_errand/timelyerrand/engine/JobCollectionId" "name" "Ljava/lang/String;" (.ref s2)) (G'2 : Fld Z h0 cy "com/example/timely_errand/timelyerrand/engine/JobCollectionId" "name" "Ljava/lang/String;" (.ref u2)) (F0 : Str Z h0 s0 t0 cs0) (F'0 : Str Z h0 u0 v0 ds0) (F1 : Str Z h0 s1 t1 cs1) (F'1 : Str Z h0 u1 v1 ds1) (F2 : Str Z h0 s2 t2 cs2) (F'2 : Str Z h0 u2 v2 ds2) (F3 : Str Z h0 s3 t3 cs3) (F'3 : Str Z h0 u3 v3 ds3) :
    MetN l Z (⟨"com/example/timely_errand/timelyerrand/engine/JobId", "equals", "(Ljava/lang/Object;)Z"⟩ : MethodName) prog_19_method_5_code 3 (some .boolean) [] ({ frames := 4, cells := 0, slots := 0, locals := 44 } : Room) #[(.ref x), (.ref y)] h0 [] (fun v h => v = some (.int (if (cs0 = ds0 ∧ cs1 = ds1 ∧ cs2 = ds2) ∧ cs3 = ds3 then 1 else 0)) ∧ h0 = h) := by
  obtain ⟨hw, S0, hz0⟩ := B
  refine MetN.mk (plainFor_of_name pn_com_example_timely_errand_timelyerrand_engine_JobId) (fun m => ef_c_jeq m x y) O ?_
  intro p e s m below meth c T0 hx hby hml hret hlk hnm hsh H0
  have zs : s.heap.size = h0.size := by rw [hsh]
  refine Rn.pu (T' := T0) (g' := (mkF m 1 #[.val (.ref x), .val (.ref y), .unset] [(.ref y)])) ?_ fun _ zk => XS.aloadN H0.here hx rfl (hb hby d_prog_19_m5_0) rfl rfl zk
  obtain ⟨T1, H1, st1⟩ := H0.instY (hw _ (List.mem_of_getElem? (i := 109) rfl)) (Ins.self E') (g := (mkF m 1 #[.val (.ref x), .val (.ref y), .unset] [(.ref y)])) rfl rfl (hb hby d_prog_19_m5_1)
  refine Rn.pu (g' := (mkF m 4 #[.val (.ref x), .val (.ref y), .unset] [(.int (1 : Int32))])) ?_ st1
  refine Rn.pu (T' := T1) (g' := (mkF m 7 #[.val (.ref x), .val (.ref y), .unset] [])) ?_ fun _ zk => XS.ifNo H1.here hx rfl (hb hby d_prog_19_m5_4) rfl (z_eq_f (by decide)) zk
  refine Rn.pu (T' := T1) (g' := (mkF m 8 #[.val (.ref x), .val (.ref y), .unset] [(.ref y)])) ?_ fun _ zk => XS.aloadN H1.here hx rfl (hb hby d_prog_19_m5_7) rfl rfl zk
  obtain ⟨T2, H2, st2⟩ := H1.castY (hw _ (List.mem_of_getElem? (i := 109) rfl)) (Ins.self E') (g := (mkF m 8 #[.val (.ref x), .val (.ref y), .unset] [(.ref y)])) rfl rfl (hb hby d_prog_19_m5_8)
  refine Rn.pu (g' := (mkF m 11 #[.val (.ref x), .val (.ref y), .unset] [(.ref y)])) ?_ st2
  refine Rn.pu (T' := T2) (g' := (mkF m 12 #[.val (.ref x), .val (.ref y), .val (.ref y)] [])) ?_ fun _ zk => XS.astoreN H2.here hx rfl (hb hby d_prog_19_m5_11) rfl rfl (l' := #[.val (.ref x), .val (.ref y), .val (.ref y)]) rfl zk
  refine Rn.pu (T' := T2) (g' := (mkF m 13 #[.val (.ref x), .val (.ref y), .val (.ref y)] [(.ref x)])) ?_ fun _ zk => XS.aloadN H2.here hx rfl (hb hby d_prog_19_m5_12) rfl rfl zk
  obtain ⟨T3, H3, st3⟩ := H2.getF (host := "") (Or.inl (hw _ (List.mem_of_getElem? (i := 92) rfl))) Via.refl A0 (g := (mkF m 13 #[.val (.ref x), .val (.ref y), .val (.ref y)] [(.ref x)])) rfl rfl (hb hby d_prog_19_m5_13)
  refine Rn.pu (g' := (mkF m 16 #[.val (.ref x), .val (.ref y), .val (.ref y)] [(.ref cx)])) ?_ st3
  refine Rn.pu (T' := T3) (g' := (mkF m 17 #[.val (.ref x), .val (.ref y), .val (.ref y)] [(.ref y), (.ref cx)])) ?_ fun _ zk => XS.aloadN H3.here hx rfl (hb hby d_prog_19_m5_16) rfl rfl zk
  obtain ⟨T4, H4, st4⟩ := H3.getF (host := "") (Or.inl (hw _ (List.mem_of_getElem? (i := 92) rfl))) Via.refl A'0 (g := (mkF m 17 #[.val (.ref x), .val (.ref y), .val (.ref y)] [(.ref y), (.ref cx)])) rfl rfl (hb hby d_prog_19_m5_17)
  refine Rn.pu (g' := (mkF m 20 #[.val (.ref x), .val (.ref y), .val (.ref y)] [(.ref cy), (.ref cx)])) ?_ st4
  by_cases q20_5 : cs0 = ds0 ∧ cs1 = ds1 ∧ cs2 = ds2
  ·
    obtain ⟨_, T6, h6, H6, ⟨rfl, rfl⟩, -, st6⟩ := H4.callV (C := "com/example/timely_errand/timelyerrand/engine/JobCollectionId") (hw _ (List.mem_of_getElem? (i := 111) rfl)) (hw _ (List.mem_of_getElem? (i := 112) rfl)) (hw _ (List.mem_of_getElem? (i := 114) rfl)) (hw _ (List.mem_of_getElem? (i := 113) rfl)) (by decide) (MetN.pay (W := 0) (c_eqY l ⟨hw, S0, hz0⟩ cx cy s0 s1 s2 t0 t1 t2 u0 u1 u2 v0 v1 v2 cs0 cs1 cs2 ds0 ds1 ds2 h0 H4.old X X' G0 G'0 G1 G'1 G2 G'2 F0 F'0 F1 F'1 F2 F'2 q20_5) (hw _ (List.mem_of_getElem? (i := 115) rfl)) (hw _ (List.mem_of_getElem? (i := 18) rfl)) (by decide) (by decide)) X (g := (mkF m 20 #[.val (.ref x), .val (.ref y), .val (.ref y)] [(.ref cy), (.ref cx)])) rfl (by rw [hml]; rfl) (argsL := [(.ref cy)]) (rest := []) (lenOf pd__Ljava_lang_Object__Z rfl) rfl rfl (Nat.le_of_eq rfl) (hb hby d_prog_19_m5_20) (by decide) (by decide) all0
    refine Rn.pu (g' := (mkF m 23 #[.val (.ref x), .val (.ref y), .val (.ref y)] [(.int (1 : Int32))])) ?_ st6
    refine Rn.pu (T' := T6) (g' := (mkF m 26 #[.val (.ref x), .val (.ref y), .val (.ref y)] [])) ?_ fun _ zk => XS.ifNo H6.here hx rfl (hb hby d_prog_19_m5_23) rfl (z_eq_f (by decide)) zk
    refine Rn.pu (T' := T6) (g' := (mkF m 27 #[.val (.ref x), .val (.ref y), .val (.ref y)] [(.ref x)])) ?_ fun _ zk => XS.aloadN H6.here hx rfl (hb hby d_prog_19_m5_26) rfl rfl zk
    obtain ⟨T7, H7, st7⟩ := H6.getF (host := "") (Or.inl (hw _ (List.mem_of_getElem? (i := 96) rfl))) Via.refl A1 (g := (mkF m 27 #[.val (.ref x), .val (.ref y), .val (.ref y)] [(.ref x)])) rfl rfl (hb hby d_prog_19_m5_27)
    refine Rn.pu (g' := (mkF m 30 #[.val (.ref x), .val (.ref y), .val (.ref y)] [(.ref s3)])) ?_ st7
    refine Rn.pu (T' := T7) (g' := (mkF m 31 #[.val (.ref x), .val (.ref y), .val (.ref y)] [(.ref y), (.ref s3)])) ?_ fun _ zk => XS.aloadN H7.here hx rfl (hb hby d_prog_19_m5_30) rfl rfl zk
    obtain ⟨T8, H8, st8⟩ := H7.getF (host := "") (Or.inl (hw _ (List.mem_of_getElem? (i := 96) rfl))) Via.refl A'1 (g := (mkF m 31 #[.val (.ref x), .val (.ref y), .val (.ref y)] [(.ref y), (.ref s3)])) rfl rfl (hb hby d_prog_19_m5_31)
    refine Rn.pu (g' := (mkF m 34 #[.val (.ref x), .val (.ref y), .val (.ref y)] [(.ref u3), (.ref s3)])) ?_ st8
    by_cases q34_9 : cs3 = ds3
    ·
      obtain ⟨_, T10, h10, H10, ⟨rfl, rfl⟩, -, st10⟩ := H8.callV (C := "java/lang/String") (hw _ (List.mem_of_getElem? (i := 127) rfl)) (hw _ (List.mem_of_getElem? (i := 118) rfl)) (hw _ (List.mem_of_getElem? (i := 120) rfl)) (hw _ (List.mem_of_getElem? (i := 119) rfl)) (by decide) (payEqY (W := 0) q34_9 (hws_eq hw) (hw _ (List.mem_of_getElem? (i := 26) rfl)) F3 F'3 (S0.ext H8.old) hz0 (by decide) (by decide)) F3.exa (g := (mkF m 34 #[.val (.ref x), .val (.ref y), .val (.ref y)] [(.ref u3), (.ref s3)])) rfl (by rw [hml]; rfl) (argsL := [(.ref u3)]) (rest := []) (lenOf pd__Ljava_lang_Object__Z rfl) rfl rfl (Nat.le_of_eq rfl) (hb hby d_prog_19_m5_34) (by decide) (by decide) all0
      refine Rn.pu (g' := (mkF m 37 #[.val (.ref x), .val (.ref y), .val (.ref y)] [(.int (1 : Int32))])) ?_ st10
      refine Rn.pu (T' := T10) (g' := (mkF m 40 #[.val (.ref x), .val (.ref y), .val (.ref y)] [])) ?_ fun _ zk => XS.ifNo H10.here hx rfl (hb hby d_prog_19_m5_37) rfl (z_eq_f (by decide)) zk
      refine Rn.pu (T' := T10) (g' := (mkF m 41 #[.val (.ref x), .val (.ref y), .val (.ref y)] [(.int (1 : Int32))])) ?_ fun _ zk => XS.iconst H10.here hx rfl (hb hby d_prog_19_m5_40) zk
      refine Rn.pu (T' := T10) (g' := (mkF m 45 #[.val (.ref x), .val (.ref y), .val (.ref y)] [(.int (1 : Int32))])) ?_ fun _ zk => XS.goto H10.here hx rfl (pc0 := 41) (pc' := 45) rfl (hb hby d_prog_19_m5_41) (by decide) (by decide) zk
      exact H10.retS ends_N hlk (t := .boolean) hret (by simp) (hb hby d_prog_19_m5_45) (by decide) (by decide) (fun _ q => nomatch q) ⟨by rw [if_pos ⟨q20_5, q34_9⟩]; rfl, rfl⟩
    ·
      obtain ⟨_, T11, h11, H11, ⟨rfl, rfl⟩, -, st11⟩ := H8.callV (C := "java/lang/String") (hw _ (List.mem_of_getElem? (i := 127) rfl)) (hw _ (List.mem_of_getElem? (i := 118) rfl)) (hw _ (List.mem_of_getElem? (i := 120) rfl)) (hw _ (List.mem_of_getElem? (i := 119) rfl)) (by decide) (payEqN (W := 0) q34_9 (hws_eq hw) (hw _ (List.mem_of_getElem? (i := 26) rfl)) F3 F'3 (S0.ext H8.old) hz0 (by decide) (by decide)) F3.exa (g := (mkF m 34 #[.val (.ref x), .val (.ref y), .val (.ref y)] [(.ref u3), (.ref s3)])) rfl (by rw [hml]; rfl) (argsL := [(.ref u3)]) (rest := []) (lenOf pd__Ljava_lang_Object__Z rfl) rfl rfl (Nat.le_of_eq rfl) (hb hby d_prog_19_m5_34) (by decide) (by decide) all0
      refine Rn.pu (g' := (mkF m 37 #[.val (.ref x), .val (.ref y), .val (.ref y)] [(.int (0 : Int32))])) ?_ st11
      refine Rn.pu (T' := T11) (g' := (mkF m 44 #[.val (.ref x), .val (.ref y), .val (.ref y)] [])) ?_ fun _ zk => XS.ifYes H11.here hx rfl (pc0 := 37) (pc' := 44) rfl (hb hby d_prog_19_m5_37) rfl (z_eq_t rfl) (by decide) (by decide) zk
      refine Rn.pu (T' := T11) (g' := (mkF m 45 #[.val (.ref x), .val (.ref y), .val (.ref y)] [(.int (0 : Int32))])) ?_ fun _ zk => XS.iconst H11.here hx rfl (hb hby d_prog_19_m5_44) zk
      exact H11.retS ends_N hlk (t := .boolean) hret (by simp) (hb hby d_prog_19_m5_45) (by decide) (by decide) (fun _ q => nomatch q) ⟨by rw [if_neg (fun r => q34_9 r.2)]; rfl, rfl⟩
  ·
    obtain ⟨_, T12, h12, H12, ⟨rfl, rfl⟩, -, st12⟩ := H4.callV (C := "com/example/timely_errand/timelyerrand/engine/JobCollectionId") (hw _ (List.mem_of_getElem? (i := 111) rfl)) (hw _ (List.mem_of_getElem? (i := 112) rfl)) (hw _ (List.mem_of_getElem? (i := 114) rfl)) (hw _ (List.mem_of_getElem? (i := 113) rfl)) (by decide) (MetN.pay (W := 0) (c_eqN l ⟨hw, S0, hz0⟩ cx cy s0 s1 s2 t0 t1 t2 u0 u1 u2 v0 v1 v2 cs0 cs1 cs2 ds0 ds1 ds2 h0 H4.old X X' G0 G'0 G1 G'1 G2 G'2 F0 F'0 F1 F'1 F2 F'2 q20_5) (hw _ (List.mem_of_getElem? (i := 115) rfl)) (hw _ (List.mem_of_getElem? (i := 18) rfl)) (by decide) (by decide)) X (g := (mkF m 20 #[.val (.ref x), .val (.ref y), .val (.ref y)] [(.ref cy), (.ref cx)])) rfl (by rw [hml]; rfl) (argsL := [(.ref cy)]) (rest := []) (lenOf pd__Ljava_lang_Object__Z rfl) rfl rfl (Nat.le_of_eq rfl) (hb hby d_prog_19_m5_20) (by decide) (by decide) all0
    refine Rn.pu (g' := (mkF m 23 #[.val (.ref x), .val (.ref y), .val (.ref y)] [(.int (0 : Int32))])) ?_ st12
    refine Rn.pu (T' := T12) (g' := (mkF m 44 #[.val (.ref x), .val (.ref y), .val (.ref y)] [])) ?_ fun _ zk => XS.ifYes H12.here hx rfl (pc0 := 23) (pc' := 44) rfl (hb hby d_prog_19_m5_23) rfl (z_eq_t rfl) (by decide) (by decide) zk
    refine Rn.pu (T' := T12) (g' := (mkF m 45 #[.val (.ref x), .val (.ref y), .val (.ref y)] [(.int (0 : Int32))])) ?_ fun _ zk => XS.iconst H12.here hx rfl (hb hby d_prog_19_m5_44) zk
    exact H12.retS ends_N hlk (t := .boolean) hret (by simp) (hb hby d_prog_19_m5_45) (by decide) (by decide) (fun _ q => nomatch q) ⟨by rw [if_neg (fun r => q20_5 r.1)]; rfl, rfl⟩
theorem c_jeqY (l : Launch) {Z : State} {a0 : Array Value} {zc : Int32} (B : Base Z a0 zc) (x y cx cy s0 s1 s2 s3 t0 t1 t2 t3 u0 u1 u2 u3 v0 v1 v2 v3 : Addr) (cs0 cs1 cs2 cs3 ds0 ds1 ds2 ds3 : List Int32) (h0 : Heap) (O : Ext Z.heap h0) (E : Exa Z h0 x "com/example/timely_errand/timelyerrand/engine/JobId") (E' : Exa Z h0 y "com/example/timely_errand/timelyerrand/engine/JobId") (X : Exa Z h0 cx "com/example/timely_errand/timelyerrand/engine/JobCollectionId") (X' : Exa Z h0 cy "com/example/timely_errand/timelyerrand/engine/JobCollectionId") (A0 : Fld Z h0 x "com/example/timely_errand/timelyerrand/engine/JobId" "collection" "Lcom/example/timely_errand/timelyerrand/engine/JobCollectionId;" (.ref cx)) (A'0 : Fld Z h0 y "com/example/timely_errand/timelyerrand/engine/JobId" "collection" "Lcom/example/timely_errand/timelyerrand/engine/JobCollectionId;" (.ref cy)) (A1 : Fld Z h0 x "com/example/timely_errand/timelyerrand/engine/JobId" "name" "Ljava/lang/String;" (.ref s3)) (A'1 : Fld Z h0 y "com/example/timely_errand/timelyerrand/engine/JobId" "name" "Ljava/lang/String;" (.ref u3)) (G0 : Fld Z h0 cx "com/example/timely_errand/timelyerrand/engine/JobCollectionId" "subscriptionId" "Ljava/lang/String;" (.ref s0)) (G'0 : Fld Z h0 cy "com/example/timely_errand/timelyerrand/engine/JobCollectionId" "subscriptionId" "Ljava/lang/String;" (.ref u0)) (G1 : Fld Z h0 cx "com/example/timely_errand/timelyerrand/engine/JobCollectionId" "resourceGroupName" "Ljava/lang/String;" (.ref s1)) (G'1 : Fld Z h0 cy "com/example/timely_errand/timelyerrand/engine/JobCollectionId" "resourceGroupName" "Ljava/lang/String;" (.ref u1)) (G2 : Fld Z h0 cx "com/example/timely_errand/timelyerrand/engine/JobCollectionId" "name" "Ljava/lang/String;" (.ref s2)) (G'2 : Fld Z h0 cy "com/example/timely_errand/timelyerrand/engine/JobCollectionId" "name" "Ljava/lang/String;" (.ref u2)) (F0 : Str Z h0 s0 t0 cs0) (F'0 : Str Z h0 u0 v0 ds0) (F1 : Str Z h0 s1 t1 cs1) (F'1 : Str Z h0 u1 v1 ds1) (F2 : Str Z h0 s2 t2 cs2) (F'2 : Str Z h0 u2 v2 ds2) (F3 : Str Z h0 s3 t3 cs3) (F'3 : Str Z h0 u3 v3 ds3) (q : (cs0 = ds0 ∧ cs1 = ds1 ∧ cs2 = ds2) ∧ cs3 = ds3) :
    MetN l Z (⟨"com/example/timely_errand/timelyerrand/engine/JobId", "equals", "(Ljava/lang/Object;)Z"⟩ : MethodName) prog_19_method_5_code 3 (some .boolean) [] ({ frames := 4, cells := 0, slots := 0, locals := 44 } : Room) #[(.ref x), (.ref y)] h0 [] (fun v h => v = some (.int 1) ∧ h0 = h) := by
  have M := c_jeq l B x y cx cy s0 s1 s2 s3 t0 t1 t2 t3 u0 u1 u2 u3 v0 v1 v2 v3 cs0 cs1 cs2 cs3 ds0 ds1 ds2 ds3 h0 O E E' X X' A0 A'0 A1 A'1 G0 G'0 G1 G'1 G2 G'2 F0 F'0 F1 F'1 F2 F'2 F3 F'3
  rw [if_pos q] at M; exact M
theorem c_jeqN (l : Launch) {Z : State} {a0 : Array Value} {zc : Int32} (B : Base Z a0 zc) (x y cx cy s0 s1 s2 s3 t0 t1 t2 t3 u0 u1 u2 u3 v0 v1 v2 v3 : Addr) (cs0 cs1 cs2 cs3 ds0 ds1 ds2 ds3 : List Int32) (h0 : Heap) (O : Ext Z.heap h0) (E : Exa Z h0 x "com/example/timely_errand/timelyerrand/engine/JobId") (E' : Exa Z h0 y "com/example/timely_errand/timelyerrand/engine/JobId") (X : Exa Z h0 cx "com/example/timely_errand/timelyerrand/engine/JobCollectionId") (X' : Exa Z h0 cy "com/example/timely_errand/timelyerrand/engine/JobCollectionId") (A0 : Fld Z h0 x "com/example/timely_errand/timelyerrand/engine/JobId" "collection" "Lcom/example/timely_errand/timelyerrand/engine/JobCollectionId;" (.ref cx)) (A'0 : Fld Z h0 y "com/example/timely_errand/timelyerrand/engine/JobId" "collection" "Lcom/example/timely_errand/timelyerrand/engine/JobCollectionId;" (.ref cy)) (A1 : Fld Z h0 x "com/example/timely_errand/timelyerrand/engine/JobId" "name" "Ljava/lang/String;" (.ref s3)) (A'1 : Fld Z h0 y "com/example/timely_errand/timelyerrand/engine/JobId" "name" "Ljava/lang/String;" (.ref u3)) (G0 : Fld Z h0 cx "com/example/timely_errand/timelyerrand/engine/JobCollectionId" "subscriptionId" "Ljava/lang/String;" (.ref s0)) (G'0 : Fld Z h0 cy "com/example/timely_errand/timelyerrand/engine/JobCollectionId" "subscriptionId" "Ljava/lang/String;" (.ref u0)) (G1 : Fld Z h0 cx "com/example/timely_errand/timelyerrand/engine/JobCollectionId" "resourceGroupName" "Ljava/lang/String;" (.ref s1)) (G'1 : Fld Z h0 cy "com/example/timely_errand/timelyerrand/engine/JobCollectionId" "resourceGroupName" "Ljava/lang/String;" (.ref u1)) (G2 : Fld Z h0 cx "com/example/timely_errand/timelyerrand/engine/JobCollectionId" "name" "Ljava/lang/String;" (.ref s2)) (G'2 : Fld Z h0 cy "com/example/timely_errand/timelyerrand/engine/JobCollectionId" "name" "Ljava/lang/String;" (.ref u2)) (F0 : Str Z h0 s0 t0 cs0) (F'0 : Str Z h0 u0 v0 ds0) (F1 : Str Z h0 s1 t1 cs1) (F'1 : Str Z h0 u1 v1 ds1) (F2 : Str Z h0 s2 t2 cs2) (F'2 : Str Z h0 u2 v2 ds2) (F3 : Str Z h0 s3 t3 cs3) (F'3 : Str Z h0 u3 v3 ds3) (q : ¬ ((cs0 = ds0 ∧ cs1 = ds1 ∧ cs2 = ds2) ∧ cs3 = ds3)) :
    MetN l Z (⟨"com/example/timely_errand/timelyerrand/engine/JobId", "equals", "(Ljava/lang/Object;)Z"⟩ : MethodName) prog_19_method_5_code 3 (some .boolean) [] ({ frames := 4, cells := 0, slots := 0, locals := 44 } : Room) #[(.ref x), (.ref y)] h0 [] (fun v h => v = some (.int 0) ∧ h0 = h) := by
  have M := c_jeq l B x y cx cy s0 s1 s2 s3 t0 t1 t2 t3 u0 u1 u2 u3 v0 v1 v2 v3 cs0 cs1 cs2 cs3 ds0 ds1 ds2 ds3 h0 O E E' X X' A0 A'0 A1 A'1 G0 G'0 G1 G'1 G2 G'2 F0 F'0 F1 F'1 F2 F'2 F3 F'3
  rw [if_neg q] at M; exact M
set_option maxRecDepth 65536 in
set_option maxHeartbeats 40000000 in
theorem c_jeqC (l : Launch) {Z : State} {a0 : Array Value} {zc : Int32} (B : Base Z a0 zc) (x y : Addr) (h0 : Heap) (O : Ext Z.heap h0) (E' : Exa Z h0 y "com/example/timely_errand/timelyerrand/engine/JobCollectionId") :
    MetN l Z (⟨"com/example/timely_errand/timelyerrand/engine/JobId", "equals", "(Ljava/lang/Object;)Z"⟩ : MethodName) prog_19_method_5_code 3 (some .boolean) [] ({ frames := 4, cells := 0, slots := 0, locals := 44 } : Room) #[(.ref x), (.ref y)] h0 [] (fun v h => v = some (.int 0) ∧ h0 = h) := by
  obtain ⟨hw, S0, hz0⟩ := B
  refine MetN.mk (plainFor_of_name pn_com_example_timely_errand_timelyerrand_engine_JobId) (fun m => ef_c_jeqC m x y) O ?_
  intro p e s m below meth c T0 hx hby hml hret hlk hnm hsh H0
  have zs : s.heap.size = h0.size := by rw [hsh]
  refine Rn.pu (T' := T0) (g' := (mkF m 1 #[.val (.ref x), .val (.ref y), .unset] [(.ref y)])) ?_ fun _ zk => XS.aloadN H0.here hx rfl (hb hby d_prog_19_m5_0) rfl rfl zk
  obtain ⟨T1, H1, st1⟩ := H0.instNo (hw _ (List.mem_of_getElem? (i := 109) rfl)) E' (not_sub (hw _ (List.mem_of_getElem? (i := 128) rfl)) (hw _ (List.mem_of_getElem? (i := 129) rfl)) (hw _ (List.mem_of_getElem? (i := 79) rfl)) (by decide) (by decide)) (g := (mkF m 1 #[.val (.ref x), .val (.ref y), .unset] [(.ref y)])) rfl rfl (hb hby d_prog_19_m5_1)
  refine Rn.pu (g' := (mkF m 4 #[.val (.ref x), .val (.ref y), .unset] [(.int (0 : Int32))])) ?_ st1
  refine Rn.pu (T' := T1) (g' := (mkF m 44 #[.val (.ref x), .val (.ref y), .unset] [])) ?_ fun _ zk => XS.ifYes H1.here hx rfl (pc0 := 4) (pc' := 44) rfl (hb hby d_prog_19_m5_4) rfl (z_eq_t rfl) (by decide) (by decide) zk
  refine Rn.pu (T' := T1) (g' := (mkF m 45 #[.val (.ref x), .val (.ref y), .unset] [(.int (0 : Int32))])) ?_ fun _ zk => XS.iconst H1.here hx rfl (hb hby d_prog_19_m5_44) zk
  exact H1.retS ends_N hlk (t := .boolean) hret (by simp) (hb hby d_prog_19_m5_45) (by decide) (by decide) (fun _ q => nomatch q) ⟨rfl, rfl⟩
set_option maxRecDepth 65536 in
set_option maxHeartbeats 40000000 in
theorem c_jeq0 (l : Launch) {Z : State} {a0 : Array Value} {zc : Int32} (B : Base Z a0 zc) (x : Addr) (h0 : Heap) (O : Ext Z.heap h0) :
    MetN l Z (⟨"com/example/timely_errand/timelyerrand/engine/JobId", "equals", "(Ljava/lang/Object;)Z"⟩ : MethodName) prog_19_method_5_code 3 (some .boolean) [] ({ frames := 4, cells := 0, slots := 0, locals := 44 } : Room) #[(.ref x), .null] h0 [] (fun v h => v = some (.int 0) ∧ h0 = h) := by
  obtain ⟨hw, S0, hz0⟩ := B
  refine MetN.mk (plainFor_of_name pn_com_example_timely_errand_timelyerrand_engine_JobId) (fun m => ef_c_jeq0 m x) O ?_
  intro p e s m below meth c T0 hx hby hml hret hlk hnm hsh H0
  have zs : s.heap.size = h0.size := by rw [hsh]
  refine Rn.pu (T' := T0) (g' := (mkF m 1 #[.val (.ref x), .val .null, .unset] [.null])) ?_ fun _ zk => XS.aloadN H0.here hx rfl (hb hby d_prog_19_m5_0) rfl rfl zk
  refine Rn.pu (g' := (mkF m 4 #[.val (.ref x), .val .null, .unset] [(.int (0 : Int32))])) ?_ (H0.instNull (g := (mkF m 1 #[.val (.ref x), .val .null, .unset] [.null])) rfl rfl (hb hby d_prog_19_m5_1))
  refine Rn.pu (T' := T0) (g' := (mkF m 44 #[.val (.ref x), .val .null, .unset] [])) ?_ fun _ zk => XS.ifYes H0.here hx rfl (pc0 := 4) (pc' := 44) rfl (hb hby d_prog_19_m5_4) rfl (z_eq_t rfl) (by decide) (by decide) zk
  refine Rn.pu (T' := T0) (g' := (mkF m 45 #[.val (.ref x), .val .null, .unset] [(.int (0 : Int32))])) ?_ fun _ zk => XS.iconst H0.here hx rfl (hb hby d_prog_19_m5_44) zk
  exact H0.retS ends_N hlk (t := .boolean) hret (by simp) (hb hby d_prog_19_m5_45) (by decide) (by decide) (fun _ q => nomatch q) ⟨rfl, rfl⟩
set_option maxRecDepth 65536 in
set_option maxHeartbeats 40000000 in
theorem c_law (l : Launch) {Z : State} {a0 : Array Value} {zc : Int32} (B : Base Z a0 zc) (p0 : Int32) (p1 : Int32) (p2 : Int32) (p3 : Int32) (p4 : Int32) :
    MetW l Z x code maxLocals ret tables_1 room_1 #[(.int p0), (.int p1), (.int p2), (.int p3), (.int p4)] Z.heap [] ((fun _ => True)) (fun v vm h => v = some (.int 1)) := by
  obtain ⟨hw, S0, hz0⟩ := B
  refine MetW.mk (plainFor_of_name pn_com_example_timely_errand_timelyerrand_engine_JobIdEqualsPinLaw) (fun m => ef_c_law m p0 p1 p2 p3 p4) ⟨Nat.le_refl _, fun _ _ q => q⟩ ?_
  intro p e s m below meth c T0 hx hby hml hret hlk hnm hsh H0
  obtain ⟨h0, eh0⟩ : ∃ z, z = Z.heap := ⟨_, rfl⟩
  rw [← eh0] at H0 hsh
  have H0 : Hs p l e room_1 s m #[(.int p0), (.int p1), (.int p2), (.int p3), (.int p4)] below meth c Z "com/example/timely_errand/timelyerrand/engine/JobIdEqualsPinLaw" [] ((fun _ => True)) T0 h0 0 0 := H0
  have zs : s.heap.size = h0.size := by rw [hsh]
  have zZ := H0.old.1
  have J57 : ∀ (TJ57 : State) (ex : Int32), Hs p l e room_1 s m #[(.int p0), (.int p1), (.int p2), (.int p3), (.int p4)] below meth c Z "com/example/timely_errand/timelyerrand/engine/JobIdEqualsPinLaw" [] (fun _ => True) TJ57 h0 0 0 → ((ex = 1 ∧ own_left p0 p2 p4 0 = own_right p0 p1 p2 p3 p4 0 ∧ own_left p0 p2 p4 1 = own_right p0 p1 p2 p3 p4 1 ∧ own_left p0 p2 p4 2 = own_right p0 p1 p2 p3 p4 2 ∧ own_left p0 p2 p4 3 = own_right p0 p1 p2 p3 p4 3) ∨ (ex = 0 ∧ ¬ (own_left p0 p2 p4 0 = own_right p0 p1 p2 p3 p4 0 ∧ own_left p0 p2 p4 1 = own_right p0 p1 p2 p3 p4 1 ∧ own_left p0 p2 p4 2 = own_right p0 p1 p2 p3 p4 2 ∧ own_left p0 p2 p4 3 = own_right p0 p1 p2 p3 p4 3))) → Rn p e below s ReturnedEndW [] (room_1).cells (room_1).slots (fun v vm h => v = some (.int 1)) TJ57 (mkF m 57 #[.val (.int p0), .val (.int p1), .val (.int p2), .val (.int p3), .val (.int p4), .unset, .unset, .unset, .unset, .unset, .unset] [(.int ex)]) := by
    intro TJ57 ex HJ57 yJ57
    refine Rn.pu (T' := TJ57) (g' := (mkF m 59 #[.val (.int p0), .val (.int p1), .val (.int p2), .val (.int p3), .val (.int p4), .val (.int ex), .unset, .unset, .unset, .unset, .unset] [])) ?_ fun _ zk => XS.istore HJ57.here hx rfl (hb hby at_57) rfl (l' := #[.val (.int p0), .val (.int p1), .val (.int p2), .val (.int p3), .val (.int p4), .val (.int ex), .unset, .unset, .unset, .unset, .unset]) rfl zk
    obtain ⟨a1, T1, h1, e1, H1, K1, E1, D1, st1⟩ := HJ57.newO (hw _ (List.mem_of_getElem? (i := 16) rfl)) (hw _ (List.mem_of_getElem? (i := 17) rfl)) (hw _ (List.mem_of_getElem? (i := 18) rfl)) (g := (mkF m 59 #[.val (.int p0), .val (.int p1), .val (.int p2), .val (.int p3), .val (.int p4), .val (.int ex), .unset, .unset, .unset, .unset, .unset] [])) rfl (hb hby at_59) (by decide) (by decide)
    have zh1 := K1.1
    have l1 := natlt (E1).lt
    have g1 : s.heap.size ≤ a1 := by omega
    have F1_subscriptionId : Fld Z h1 a1 "com/example/timely_errand/timelyerrand/engine/JobCollectionId" "subscriptionId" "Ljava/lang/String;" .null := D1 (Or.inr (hw _ (List.mem_of_getElem? (i := 71) rfl))) (ty := (.object "java/lang/String")) (by decide)
    have F1_resourceGroupName : Fld Z h1 a1 "com/example/timely_errand/timelyerrand/engine/JobCollectionId" "resourceGroupName" "Ljava/lang/String;" .null := D1 (Or.inr (hw _ (List.mem_of_getElem? (i := 74) rfl))) (ty := (.object "java/lang/String")) (by decide)
    have F1_name : Fld Z h1 a1 "com/example/timely_errand/timelyerrand/engine/JobCollectionId" "name" "Ljava/lang/String;" .null := D1 (Or.inr (hw _ (List.mem_of_getElem? (i := 77) rfl))) (ty := (.object "java/lang/String")) (by decide)
    refine Rn.pu (g' := (mkF m 62 #[.val (.int p0), .val (.int p1), .val (.int p2), .val (.int p3), .val (.int p4), .val (.int ex), .unset, .unset, .unset, .unset, .unset] [(.ref a1)])) ?_ st1
    refine Rn.pu (T' := T1) (g' := (mkF m 63 #[.val (.int p0), .val (.int p1), .val (.int p2), .val (.int p3), .val (.int p4), .val (.int ex), .unset, .unset, .unset, .unset, .unset] [(.ref a1), (.ref a1)])) ?_ fun _ zk => XS.dup H1.here hx rfl (hb hby at_62) rfl rfl zk
    refine Rn.pu (T' := T1) (g' := (mkF m 64 #[.val (.int p0), .val (.int p1), .val (.int p2), .val (.int p3), .val (.int p4), .val (.int ex), .unset, .unset, .unset, .unset, .unset] [(.int p0), (.ref a1), (.ref a1)])) ?_ fun _ zk => XS.iloadN H1.here hx rfl (hb hby at_63) rfl zk
    refine Rn.pu (T' := T1) (g' := (mkF m 65 #[.val (.int p0), .val (.int p1), .val (.int p2), .val (.int p3), .val (.int p4), .val (.int ex), .unset, .unset, .unset, .unset, .unset] [(.int p2), (.int p0), (.ref a1), (.ref a1)])) ?_ fun _ zk => XS.iloadN H1.here hx rfl (hb hby at_64) rfl zk
    refine Rn.pu (T' := T1) (g' := (mkF m 67 #[.val (.int p0), .val (.int p1), .val (.int p2), .val (.int p3), .val (.int p4), .val (.int ex), .unset, .unset, .unset, .unset, .unset] [(.int p4), (.int p2), (.int p0), (.ref a1), (.ref a1)])) ?_ fun _ zk => XS.iload H1.here hx rfl (hb hby at_65) rfl zk
    refine Rn.pu (T' := T1) (g' := (mkF m 68 #[.val (.int p0), .val (.int p1), .val (.int p2), .val (.int p3), .val (.int p4), .val (.int ex), .unset, .unset, .unset, .unset, .unset] [(.int (0 : Int32)), (.int p4), (.int p2), (.int p0), (.ref a1), (.ref a1)])) ?_ fun _ zk => XS.iconst H1.here hx rfl (hb hby at_67) zk
    obtain ⟨_, T2, h2, H2, ⟨m2, t2, rfl, S2, ga2, la2, gt2, lt2⟩, K2, st2⟩ := H1.callS (hw _ (List.mem_of_getElem? (i := 19) rfl)) (hw _ (List.mem_of_getElem? (i := 20) rfl)) (hw _ (List.mem_of_getElem? (i := 2) rfl)) (hw _ (List.mem_of_getElem? (i := 21) rfl)) (by decide) (MetN.pay (W := 2) (c_left l ⟨hw, S0, hz0⟩ p0 p2 p4 (0 : Int32) h1 H1.old) (hw _ (List.mem_of_getElem? (i := 21) rfl)) (hw _ (List.mem_of_getElem? (i := 2) rfl)) (by decide) (by decide)) (g := (mkF m 68 #[.val (.int p0), .val (.int p1), .val (.int p2), .val (.int p3), .val (.int p4), .val (.int ex), .unset, .unset, .unset, .unset, .unset] [(.int (0 : Int32)), (.int p4), (.int p2), (.int p0), (.ref a1), (.ref a1)])) rfl (by rw [hml]; rfl) (argsL := [(.int p0), (.int p2), (.int p4), (.int (0 : Int32))]) (rest := [(.ref a1), (.ref a1)]) (lenOf pd__IIII_Ljava_lang_String_ rfl) rfl rfl (Nat.le_of_eq rfl) (hb hby at_68) (by decide) (by decide) all0
    have zh2 := K2.1
    refine Rn.pu (g' := (mkF m 71 #[.val (.int p0), .val (.int p1), .val (.int p2), .val (.int p3), .val (.int p4), .val (.int ex), .unset, .unset, .unset, .unset, .unset] [(.ref m2), (.ref a1), (.ref a1)])) ?_ st2
    refine Rn.pu (T' := T2) (g' := (mkF m 72 #[.val (.int p0), .val (.int p1), .val (.int p2), .val (.int p3), .val (.int p4), .val (.int ex), .unset, .unset, .unset, .unset, .unset] [(.int p0), (.ref m2), (.ref a1), (.ref a1)])) ?_ fun _ zk => XS.iloadN H2.here hx rfl (hb hby at_71) rfl zk
    refine Rn.pu (T' := T2) (g' := (mkF m 73 #[.val (.int p0), .val (.int p1), .val (.int p2), .val (.int p3), .val (.int p4), .val (.int ex), .unset, .unset, .unset, .unset, .unset] [(.int p2), (.int p0), (.ref m2), (.ref a1), (.ref a1)])) ?_ fun _ zk => XS.iloadN H2.here hx rfl (hb hby at_72) rfl zk
    refine Rn.pu (T' := T2) (g' := (mkF m 75 #[.val (.int p0), .val (.int p1), .val (.int p2), .val (.int p3), .val (.int p4), .val (.int ex), .unset, .unset, .unset, .unset, .unset] [(.int p4), (.int p2), (.int p0), (.ref m2), (.ref a1), (.ref a1)])) ?_ fun _ zk => XS.iload H2.here hx rfl (hb hby at_73) rfl zk
    refine Rn.pu (T' := T2) (g' := (mkF m 76 #[.val (.int p0), .val (.int p1), .val (.int p2), .val (.int p3), .val (.int p4), .val (.int ex), .unset, .unset, .unset, .unset, .unset] [(.int (1 : Int32)), (.int p4), (.int p2), (.int p0), (.ref m2), (.ref a1), (.ref a1)])) ?_ fun _ zk => XS.iconst H2.here hx rfl (hb hby at_75) zk
    obtain ⟨_, T3, h3, H3, ⟨m3, t3, rfl, S3, ga3, la3, gt3, lt3⟩, K3, st3⟩ := H2.callS (hw _ (List.mem_of_getElem? (i := 19) rfl)) (hw _ (List.mem_of_getElem? (i := 20) rfl)) (hw _ (List.mem_of_getElem? (i := 2) rfl)) (hw _ (List.mem_of_getElem? (i := 21) rfl)) (by decide) (MetN.pay (W := 3) (c_left l ⟨hw, S0, hz0⟩ p0 p2 p4 (1 : Int32) h2 H2.old) (hw _ (List.mem_of_getElem? (i := 21) rfl)) (hw _ (List.mem_of_getElem? (i := 2) rfl)) (by decide) (by decide)) (g := (mkF m 76 #[.val (.int p0), .val (.int p1), .val (.int p2), .val (.int p3), .val (.int p4), .val (.int ex), .unset, .unset, .unset, .unset, .unset] [(.int (1 : Int32)), (.int p4), (.int p2), (.int p0), (.ref m2), (.ref a1), (.ref a1)])) rfl (by rw [hml]; rfl) (argsL := [(.int p0), (.int p2), (.int p4), (.int (1 : Int32))]) (rest := [(.ref m2), (.ref a1), (.ref a1)]) (lenOf pd__IIII_Ljava_lang_String_ rfl) rfl rfl (Nat.le_of_eq rfl) (hb hby at_76) (by decide) (by decide) all0
    have zh3 := K3.1
    refine Rn.pu (g' := (mkF m 79 #[.val (.int p0), .val (.int p1), .val (.int p2), .val (.int p3), .val (.int p4), .val (.int ex), .unset, .unset, .unset, .unset, .unset] [(.ref m3), (.ref m2), (.ref a1), (.ref a1)])) ?_ st3
    refine Rn.pu (T' := T3) (g' := (mkF m 80 #[.val (.int p0), .val (.int p1), .val (.int p2), .val (.int p3), .val (.int p4), .val (.int ex), .unset, .unset, .unset, .unset, .unset] [(.int p0), (.ref m3), (.ref m2), (.ref a1), (.ref a1)])) ?_ fun _ zk => XS.iloadN H3.here hx rfl (hb hby at_79) rfl zk
    refine Rn.pu (T' := T3) (g' := (mkF m 81 #[.val (.int p0), .val (.int p1), .val (.int p2), .val (.int p3), .val (.int p4), .val (.int ex), .unset, .unset, .unset, .unset, .unset] [(.int p2), (.int p0), (.ref m3), (.ref m2), (.ref a1), (.ref a1)])) ?_ fun _ zk => XS.iloadN H3.here hx rfl (hb hby at_80) rfl zk
    refine Rn.pu (T' := T3) (g' := (mkF m 83 #[.val (.int p0), .val (.int p1), .val (.int p2), .val (.int p3), .val (.int p4), .val (.int ex), .unset, .unset, .unset, .unset, .unset] [(.int p4), (.int p2), (.int p0), (.ref m3), (.ref m2), (.ref a1), (.ref a1)])) ?_ fun _ zk => XS.iload H3.here hx rfl (hb hby at_81) rfl zk
    refine Rn.pu (T' := T3) (g' := (mkF m 84 #[.val (.int p0), .val (.int p1), .val (.int p2), .val (.int p3), .val (.int p4), .val (.int ex), .unset, .unset, .unset, .unset, .unset] [(.int (2 : Int32)), (.int p4), (.int p2), (.int p0), (.ref m3), (.ref m2), (.ref a1), (.ref a1)])) ?_ fun _ zk => XS.iconst H3.here hx rfl (hb hby at_83) zk
    obtain ⟨_, T4, h4, H4, ⟨m4, t4, rfl, S4, ga4, la4, gt4, lt4⟩, K4, st4⟩ := H3.callS (hw _ (List.mem_of_getElem? (i := 19) rfl)) (hw _ (List.mem_of_getElem? (i := 20) rfl)) (hw _ (List.mem_of_getElem? (i := 2) rfl)) (hw _ (List.mem_of_getElem? (i := 21) rfl)) (by decide) (MetN.pay (W := 4) (c_left l ⟨hw, S0, hz0⟩ p0 p2 p4 (2 : Int32) h3 H3.old) (hw _ (List.mem_of_getElem? (i := 21) rfl)) (hw _ (List.mem_of_getElem? (i := 2) rfl)) (by decide) (by decide)) (g := (mkF m 84 #[.val (.int p0), .val (.int p1), .val (.int p2), .val (.int p3), .val (.int p4), .val (.int ex), .unset, .unset, .unset, .unset, .unset] [(.int (2 : Int32)), (.int p4), (.int p2), (.int p0), (.ref m3), (.ref m2), (.ref a1), (.ref a1)])) rfl (by rw [hml]; rfl) (argsL := [(.int p0), (.int p2), (.int p4), (.int (2 : Int32))]) (rest := [(.ref m3), (.ref m2), (.ref a1), (.ref a1)]) (lenOf pd__IIII_Ljava_lang_String_ rfl) rfl rfl (Nat.le_of_eq rfl) (hb hby at_84) (by decide) (by decide) all0
    have zh4 := K4.1
    refine Rn.pu (g' := (mkF m 87 #[.val (.int p0), .val (.int p1), .val (.int p2), .val (.int p3), .val (.int p4), .val (.int ex), .unset, .unset, .unset, .unset, .unset] [(.ref m4), (.ref m3), (.ref m2), (.ref a1), (.ref a1)])) ?_ st4
    obtain ⟨_, T5, h5, H5, ⟨rfl, E5, G5_0, G5_1, G5_2⟩, K5, st5⟩ := H4.callIW rfl (hw _ (List.mem_of_getElem? (i := 55) rfl)) (hw _ (List.mem_of_getElem? (i := 56) rfl)) (hw _ (List.mem_of_getElem? (i := 57) rfl)) (by decide) (MetW.pay (W := 1) (c_init l ⟨hw, S0, hz0⟩ a1 m2 m3 m4 t2 t3 t4 (own_left p0 p2 p4 (0 : Int32)) (own_left p0 p2 p4 (1 : Int32)) (own_left p0 p2 p4 (2 : Int32)) h4 H4.old (((E1.keep K2).keep K3).keep K4) (((F1_subscriptionId.keep K2 nin0).keep K3 nin0).keep K4 nin0) (((F1_resourceGroupName.keep K2 nin0).keep K3 nin0).keep K4 nin0) (((F1_name.keep K2 nin0).keep K3 nin0).keep K4 nin0) ((S2.keep K3 nin0 nin0).keep K4 nin0 nin0) (own_str_len _ _ _) (S3.keep K4 nin0 nin0) (own_str_len _ _ _) S4 (own_str_len _ _ _) (by have := H0.old.1; omega) (by omega)) (hw _ (List.mem_of_getElem? (i := 57) rfl)) (hw _ (List.mem_of_getElem? (i := 18) rfl)) (by decide) (by decide)) (g := (mkF m 87 #[.val (.int p0), .val (.int p1), .val (.int p2), .val (.int p3), .val (.int p4), .val (.int ex), .unset, .unset, .unset, .unset, .unset] [(.ref m4), (.ref m3), (.ref m2), (.ref a1), (.ref a1)])) rfl (by rw [hml]; rfl) (argsL := [(.ref m2), (.ref m3), (.ref m4)]) (rest := [(.ref a1)]) (lenOf pd__Ljava_lang_String_Ljava_lang_String_Ljava_lang_String__V rfl) rfl rfl (Nat.le_of_eq rfl) (hb hby at_87) (by decide) (by decide) (allS (Or.inr (by omega)) all0) (fun _ _ _ _ => trivial)
    have zh5 := K5.1
    have H5 := H5.reV (V' := (fun _ => True)) (fun _ _ => trivial)
    refine Rn.pu (g' := (mkF m 90 #[.val (.int p0), .val (.int p1), .val (.int p2), .val (.int p3), .val (.int p4), .val (.int ex), .unset, .unset, .unset, .unset, .unset] [(.ref a1)])) ?_ st5
    refine Rn.pu (T' := T5) (g' := (mkF m 92 #[.val (.int p0), .val (.int p1), .val (.int p2), .val (.int p3), .val (.int p4), .val (.int ex), .val (.ref a1), .unset, .unset, .unset, .unset] [])) ?_ fun _ zk => XS.astore H5.here hx rfl (hb hby at_90) rfl rfl (l' := #[.val (.int p0), .val (.int p1), .val (.int p2), .val (.int p3), .val (.int p4), .val (.int ex), .val (.ref a1), .unset, .unset, .unset, .unset]) rfl zk
    obtain ⟨a6, T6, h6, e6, H6, K6, E6, D6, st6⟩ := H5.newO (hw _ (List.mem_of_getElem? (i := 78) rfl)) (hw _ (List.mem_of_getElem? (i := 79) rfl)) (hw _ (List.mem_of_getElem? (i := 80) rfl)) (g := (mkF m 92 #[.val (.int p0), .val (.int p1), .val (.int p2), .val (.int p3), .val (.int p4), .val (.int ex), .val (.ref a1), .unset, .unset, .unset, .unset] [])) rfl (hb hby at_92) (by decide) (by decide)
    have zh6 := K6.1
    have l6 := natlt (E6).lt
    have g6 : s.heap.size ≤ a6 := by omega
    have F6_collection : Fld Z h6 a6 "com/example/timely_errand/timelyerrand/engine/JobId" "collection" "Lcom/example/timely_errand/timelyerrand/engine/JobCollectionId;" .null := D6 (Or.inr (hw _ (List.mem_of_getElem? (i := 93) rfl))) (ty := (.object "com/example/timely_errand/timelyerrand/engine/JobCollectionId")) (by decide)
    have F6_name : Fld Z h6 a6 "com/example/timely_errand/timelyerrand/engine/JobId" "name" "Ljava/lang/String;" .null := D6 (Or.inr (hw _ (List.mem_of_getElem? (i := 97) rfl))) (ty := (.object "java/lang/String")) (by decide)
    refine Rn.pu (g' := (mkF m 95 #[.val (.int p0), .val (.int p1), .val (.int p2), .val (.int p3), .val (.int p4), .val (.int ex), .val (.ref a1), .unset, .unset, .unset, .unset] [(.ref a6)])) ?_ st6
    refine Rn.pu (T' := T6) (g' := (mkF m 96 #[.val (.int p0), .val (.int p1), .val (.int p2), .val (.int p3), .val (.int p4), .val (.int ex), .val (.ref a1), .unset, .unset, .unset, .unset] [(.ref a6), (.ref a6)])) ?_ fun _ zk => XS.dup H6.here hx rfl (hb hby at_95) rfl rfl zk
    refine Rn.pu (T' := T6) (g' := (mkF m 98 #[.val (.int p0), .val (.int p1), .val (.int p2), .val (.int p3), .val (.int p4), .val (.int ex), .val (.ref a1), .unset, .unset, .unset, .unset] [(.ref a1), (.ref a6), (.ref a6)])) ?_ fun _ zk => XS.aload H6.here hx rfl (hb hby at_96) rfl rfl zk
    refine Rn.pu (T' := T6) (g' := (mkF m 99 #[.val (.int p0), .val (.int p1), .val (.int p2), .val (.int p3), .val (.int p4), .val (.int ex), .val (.ref a1), .unset, .unset, .unset, .unset] [(.int p0), (.ref a1), (.ref a6), (.ref a6)])) ?_ fun _ zk => XS.iloadN H6.here hx rfl (hb hby at_98) rfl zk
    refine Rn.pu (T' := T6) (g' := (mkF m 100 #[.val (.int p0), .val (.int p1), .val (.int p2), .val (.int p3), .val (.int p4), .val (.int ex), .val (.ref a1), .unset, .unset, .unset, .unset] [(.int p2), (.int p0), (.ref a1), (.ref a6), (.ref a6)])) ?_ fun _ zk => XS.iloadN H6.here hx rfl (hb hby at_99) rfl zk
    refine Rn.pu (T' := T6) (g' := (mkF m 102 #[.val (.int p0), .val (.int p1), .val (.int p2), .val (.int p3), .val (.int p4), .val (.int ex), .val (.ref a1), .unset, .unset, .unset, .unset] [(.int p4), (.int p2), (.int p0), (.ref a1), (.ref a6), (.ref a6)])) ?_ fun _ zk => XS.iload H6.here hx rfl (hb hby at_100) rfl zk
    refine Rn.pu (T' := T6) (g' := (mkF m 103 #[.val (.int p0), .val (.int p1), .val (.int p2), .val (.int p3), .val (.int p4), .val (.int ex), .val (.ref a1), .unset, .unset, .unset, .unset] [(.int (3 : Int32)), (.int p4), (.int p2), (.int p0), (.ref a1), (.ref a6), (.ref a6)])) ?_ fun _ zk => XS.iconst H6.here hx rfl (hb hby at_102) zk
    obtain ⟨_, T7, h7, H7, ⟨m7, t7, rfl, S7, ga7, la7, gt7, lt7⟩, K7, st7⟩ := H6.callS (hw _ (List.mem_of_getElem? (i := 19) rfl)) (hw _ (List.mem_of_getElem? (i := 20) rfl)) (hw _ (List.mem_of_getElem? (i := 2) rfl)) (hw _ (List.mem_of_getElem? (i := 21) rfl)) (by decide) (MetN.pay (W := 3) (c_left l ⟨hw, S0, hz0⟩ p0 p2 p4 (3 : Int32) h6 H6.old) (hw _ (List.mem_of_getElem? (i := 21) rfl)) (hw _ (List.mem_of_getElem? (i := 2) rfl)) (by decide) (by decide)) (g := (mkF m 103 #[.val (.int p0), .val (.int p1), .val (.int p2), .val (.int p3), .val (.int p4), .val (.int ex), .val (.ref a1), .unset, .unset, .unset, .unset] [(.int (3 : Int32)), (.int p4), (.int p2), (.int p0), (.ref a1), (.ref a6), (.ref a6)])) rfl (by rw [hml]; rfl) (argsL := [(.int p0), (.int p2), (.int p4), (.int (3 : Int32))]) (rest := [(.ref a1), (.ref a6), (.ref a6)]) (lenOf pd__IIII_Ljava_lang_String_ rfl) rfl rfl (Nat.le_of_eq rfl) (hb hby at_103) (by decide) (by decide) all0
    have zh7 := K7.1
    refine Rn.pu (g' := (mkF m 106 #[.val (.int p0), .val (.int p1), .val (.int p2), .val (.int p3), .val (.int p4), .val (.int ex), .val (.ref a1), .unset, .unset, .unset, .unset] [(.ref m7), (.ref a1), (.ref a6), (.ref a6)])) ?_ st7
    obtain ⟨_, T8, h8, H8, ⟨rfl, E8, G8_0, G8_1⟩, K8, st8⟩ := H7.callIW rfl (hw _ (List.mem_of_getElem? (i := 81) rfl)) (hw _ (List.mem_of_getElem? (i := 82) rfl)) (hw _ (List.mem_of_getElem? (i := 83) rfl)) (by decide) (MetW.pay (W := 1) (c_ji l ⟨hw, S0, hz0⟩ a6 a1 m7 t7 (own_left p0 p2 p4 (3 : Int32)) h7 H7.old (E6.keep K7) ((E5.keep K6).keep K7) (F6_collection.keep K7 nin0) (F6_name.keep K7 nin0) S7 (own_str_len _ _ _) (by have := H0.old.1; omega) (by omega)) (hw _ (List.mem_of_getElem? (i := 83) rfl)) (hw _ (List.mem_of_getElem? (i := 80) rfl)) (by decide) (by decide)) (g := (mkF m 106 #[.val (.int p0), .val (.int p1), .val (.int p2), .val (.int p3), .val (.int p4), .val (.int ex), .val (.ref a1), .unset, .unset, .unset, .unset] [(.ref m7), (.ref a1), (.ref a6), (.ref a6)])) rfl (by rw [hml]; rfl) (argsL := [(.ref a1), (.ref m7)]) (rest := [(.ref a6)]) (lenOf pd__Lcom_example_timely_errand_timelyerrand_engine_JobCollectionId_Ljava_lang_Strin rfl) rfl rfl (Nat.le_of_eq rfl) (hb hby at_106) (by decide) (by decide) (allS (Or.inr (by omega)) all0) (fun _ _ _ _ => trivial)
    have zh8 := K8.1
    have H8 := H8.reV (V' := (fun _ => True)) (fun _ _ => trivial)
    refine Rn.pu (g' := (mkF m 109 #[.val (.int p0), .val (.int p1), .val (.int p2), .val (.int p3), .val (.int p4), .val (.int ex), .val (.ref a1), .unset, .unset, .unset, .unset] [(.ref a6)])) ?_ st8
    refine Rn.pu (T' := T8) (g' := (mkF m 111 #[.val (.int p0), .val (.int p1), .val (.int p2), .val (.int p3), .val (.int p4), .val (.int ex), .val (.ref a1), .val (.ref a6), .unset, .unset, .unset] [])) ?_ fun _ zk => XS.astore H8.here hx rfl (hb hby at_109) rfl rfl (l' := #[.val (.int p0), .val (.int p1), .val (.int p2), .val (.int p3), .val (.int p4), .val (.int ex), .val (.ref a1), .val (.ref a6), .unset, .unset, .unset]) rfl zk
    obtain ⟨a9, T9, h9, e9, H9, K9, E9, D9, st9⟩ := H8.newO (hw _ (List.mem_of_getElem? (i := 16) rfl)) (hw _ (List.mem_of_getElem? (i := 17) rfl)) (hw _ (List.mem_of_getElem? (i := 18) rfl)) (g := (mkF m 111 #[.val (.int p0), .val (.int p1), .val (.int p2), .val (.int p3), .val (.int p4), .val (.int ex), .val (.ref a1), .val (.ref a6), .unset, .unset, .unset] [])) rfl (hb hby at_111) (by decide) (by decide)
    have zh9 := K9.1
    have l9 := natlt (E9).lt
    have g9 : s.heap.size ≤ a9 := by omega
    have F9_subscriptionId : Fld Z h9 a9 "com/example/timely_errand/timelyerrand/engine/JobCollectionId" "subscriptionId" "Ljava/lang/String;" .null := D9 (Or.inr (hw _ (List.mem_of_getElem? (i := 71) rfl))) (ty := (.object "java/lang/String")) (by decide)
    have F9_resourceGroupName : Fld Z h9 a9 "com/example/timely_errand/timelyerrand/engine/JobCollectionId" "resourceGroupName" "Ljava/lang/String;" .null := D9 (Or.inr (hw _ (List.mem_of_getElem? (i := 74) rfl))) (ty := (.object "java/lang/String")) (by decide)
    have F9_name : Fld Z h9 a9 "com/example/timely_errand/timelyerrand/engine/JobCollectionId" "name" "Ljava/lang/String;" .null := D9 (Or.inr (hw _ (List.mem_of_getElem? (i := 77) rfl))) (ty := (.object "java/lang/String")) (by decide)
    refine Rn.pu (g' := (mkF m 114 #[.val (.int p0), .val (.int p1), .val (.int p2), .val (.int p3), .val (.int p4), .val (.int ex), .val (.ref a1), .val (.ref a6), .unset, .unset, .unset] [(.ref a9)])) ?_ st9
    refine Rn.pu (T' := T9) (g' := (mkF m 115 #[.val (.int p0), .val (.int p1), .val (.int p2), .val (.int p3), .val (.int p4), .val (.int ex), .val (.ref a1), .val (.ref a6), .unset, .unset, .unset] [(.ref a9), (.ref a9)])) ?_ fun _ zk => XS.dup H9.here hx rfl (hb hby at_114) rfl rfl zk
    refine Rn.pu (T' := T9) (g' := (mkF m 116 #[.val (.int p0), .val (.int p1), .val (.int p2), .val (.int p3), .val (.int p4), .val (.int ex), .val (.ref a1), .val (.ref a6), .unset, .unset, .unset] [(.int p0), (.ref a9), (.ref a9)])) ?_ fun _ zk => XS.iloadN H9.here hx rfl (hb hby at_115) rfl zk
    refine Rn.pu (T' := T9) (g' := (mkF m 117 #[.val (.int p0), .val (.int p1), .val (.int p2), .val (.int p3), .val (.int p4), .val (.int ex), .val (.ref a1), .val (.ref a6), .unset, .unset, .unset] [(.int p1), (.int p0), (.ref a9), (.ref a9)])) ?_ fun _ zk => XS.iloadN H9.here hx rfl (hb hby at_116) rfl zk
    refine Rn.pu (T' := T9) (g' := (mkF m 118 #[.val (.int p0), .val (.int p1), .val (.int p2), .val (.int p3), .val (.int p4), .val (.int ex), .val (.ref a1), .val (.ref a6), .unset, .unset, .unset] [(.int p2), (.int p1), (.int p0), (.ref a9), (.ref a9)])) ?_ fun _ zk => XS.iloadN H9.here hx rfl (hb hby at_117) rfl zk
    refine Rn.pu (T' := T9) (g' := (mkF m 119 #[.val (.int p0), .val (.int p1), .val (.int p2), .val (.int p3), .val (.int p4), .val (.int ex), .val (.ref a1), .val (.ref a6), .unset, .unset, .unset] [(.int p3), (.int p2), (.int p1), (.int p0), (.ref a9), (.ref a9)])) ?_ fun _ zk => XS.iloadN H9.here hx rfl (hb hby at_118) rfl zk
    refine Rn.pu (T' := T9) (g' := (mkF m 121 #[.val (.int p0), .val (.int p1), .val (.int p2), .val (.int p3), .val (.int p4), .val (.int ex), .val (.ref a1), .val (.ref a6), .unset, .unset, .unset] [(.int p4), (.int p3), (.int p2), (.int p1), (.int p0), (.ref a9), (.ref a9)])) ?_ fun _ zk => XS.iload H9.here hx rfl (hb hby at_119) rfl zk
    refine Rn.pu (T' := T9) (g' := (mkF m 122 #[.val (.int p0), .val (.int p1), .val (.int p2), .val (.int p3), .val (.int p4), .val (.int ex), .val (.ref a1), .val (.ref a6), .unset, .unset, .unset] [(.int (0 : Int32)), (.int p4), (.int p3), (.int p2), (.int p1), (.int p0), (.ref a9), (.ref a9)])) ?_ fun _ zk => XS.iconst H9.here hx rfl (hb hby at_121) zk
    obtain ⟨_, T10, h10, H10, ⟨m10, t10, rfl, S10, ga10, la10, gt10, lt10⟩, K10, st10⟩ := H9.callS (hw _ (List.mem_of_getElem? (i := 98) rfl)) (hw _ (List.mem_of_getElem? (i := 99) rfl)) (hw _ (List.mem_of_getElem? (i := 2) rfl)) (hw _ (List.mem_of_getElem? (i := 100) rfl)) (by decide) (MetN.pay (W := 2) (c_right l ⟨hw, S0, hz0⟩ p0 p1 p2 p3 p4 (0 : Int32) h9 H9.old) (hw _ (List.mem_of_getElem? (i := 100) rfl)) (hw _ (List.mem_of_getElem? (i := 2) rfl)) (by decide) (by decide)) (g := (mkF m 122 #[.val (.int p0), .val (.int p1), .val (.int p2), .val (.int p3), .val (.int p4), .val (.int ex), .val (.ref a1), .val (.ref a6), .unset, .unset, .unset] [(.int (0 : Int32)), (.int p4), (.int p3), (.int p2), (.int p1), (.int p0), (.ref a9), (.ref a9)])) rfl (by rw [hml]; rfl) (argsL := [(.int p0), (.int p1), (.int p2), (.int p3), (.int p4), (.int (0 : Int32))]) (rest := [(.ref a9), (.ref a9)]) (lenOf pd__IIIIII_Ljava_lang_String_ rfl) rfl rfl (Nat.le_of_eq rfl) (hb hby at_122) (by decide) (by decide) all0
    have zh10 := K10.1
    refine Rn.pu (g' := (mkF m 125 #[.val (.int p0), .val (.int p1), .val (.int p2), .val (.int p3), .val (.int p4), .val (.int ex), .val (.ref a1), .val (.ref a6), .unset, .unset, .unset] [(.ref m10), (.ref a9), (.ref a9)])) ?_ st10
    refine Rn.pu (T' := T10) (g' := (mkF m 126 #[.val (.int p0), .val (.int p1), .val (.int p2), .val (.int p3), .val (.int p4), .val (.int ex), .val (.ref a1), .val (.ref a6), .unset, .unset, .unset] [(.int p0), (.ref m10), (.ref a9), (.ref a9)])) ?_ fun _ zk => XS.iloadN H10.here hx rfl (hb hby at_125) rfl zk
    refine Rn.pu (T' := T10) (g' := (mkF m 127 #[.val (.int p0), .val (.int p1), .val (.int p2), .val (.int p3), .val (.int p4), .val (.int ex), .val (.ref a1), .val (.ref a6), .unset, .unset, .unset] [(.int p1), (.int p0), (.ref m10), (.ref a9), (.ref a9)])) ?_ fun _ zk => XS.iloadN H10.here hx rfl (hb hby at_126) rfl zk
    refine Rn.pu (T' := T10) (g' := (mkF m 128 #[.val (.int p0), .val (.int p1), .val (.int p2), .val (.int p3), .val (.int p4), .val (.int ex), .val (.ref a1), .val (.ref a6), .unset, .unset, .unset] [(.int p2), (.int p1), (.int p0), (.ref m10), (.ref a9), (.ref a9)])) ?_ fun _ zk => XS.iloadN H10.here hx rfl (hb hby at_127) rfl zk
    refine Rn.pu (T' := T10) (g' := (mkF m 129 #[.val (.int p0), .val (.int p1), .val (.int p2), .val (.int p3), .val (.int p4), .val (.int ex), .val (.ref a1), .val (.ref a6), .unset, .unset, .unset] [(.int p3), (.int p2), (.int p1), (.int p0), (.ref m10), (.ref a9), (.ref a9)])) ?_ fun _ zk => XS.iloadN H10.here hx rfl (hb hby at_128) rfl zk
    refine Rn.pu (T' := T10) (g' := (mkF m 131 #[.val (.int p0), .val (.int p1), .val (.int p2), .val (.int p3), .val (.int p4), .val (.int ex), .val (.ref a1), .val (.ref a6), .unset, .unset, .unset] [(.int p4), (.int p3), (.int p2), (.int p1), (.int p0), (.ref m10), (.ref a9), (.ref a9)])) ?_ fun _ zk => XS.iload H10.here hx rfl (hb hby at_129) rfl zk
    refine Rn.pu (T' := T10) (g' := (mkF m 132 #[.val (.int p0), .val (.int p1), .val (.int p2), .val (.int p3), .val (.int p4), .val (.int ex), .val (.ref a1), .val (.ref a6), .unset, .unset, .unset] [(.int (1 : Int32)), (.int p4), (.int p3), (.int p2), (.int p1), (.int p0), (.ref m10), (.ref a9), (.ref a9)])) ?_ fun _ zk => XS.iconst H10.here hx rfl (hb hby at_131) zk
    obtain ⟨_, T11, h11, H11, ⟨m11, t11, rfl, S11, ga11, la11, gt11, lt11⟩, K11, st11⟩ := H10.callS (hw _ (List.mem_of_getElem? (i := 98) rfl)) (hw _ (List.mem_of_getElem? (i := 99) rfl)) (hw _ (List.mem_of_getElem? (i := 2) rfl)) (hw _ (List.mem_of_getElem? (i := 100) rfl)) (by decide) (MetN.pay (W := 3) (c_right l ⟨hw, S0, hz0⟩ p0 p1 p2 p3 p4 (1 : Int32) h10 H10.old) (hw _ (List.mem_of_getElem? (i := 100) rfl)) (hw _ (List.mem_of_getElem? (i := 2) rfl)) (by decide) (by decide)) (g := (mkF m 132 #[.val (.int p0), .val (.int p1), .val (.int p2), .val (.int p3), .val (.int p4), .val (.int ex), .val (.ref a1), .val (.ref a6), .unset, .unset, .unset] [(.int (1 : Int32)), (.int p4), (.int p3), (.int p2), (.int p1), (.int p0), (.ref m10), (.ref a9), (.ref a9)])) rfl (by rw [hml]; rfl) (argsL := [(.int p0), (.int p1), (.int p2), (.int p3), (.int p4), (.int (1 : Int32))]) (rest := [(.ref m10), (.ref a9), (.ref a9)]) (lenOf pd__IIIIII_Ljava_lang_String_ rfl) rfl rfl (Nat.le_of_eq rfl) (hb hby at_132) (by decide) (by decide) all0
    have zh11 := K11.1
    refine Rn.pu (g' := (mkF m 135 #[.val (.int p0), .val (.int p1), .val (.int p2), .val (.int p3), .val (.int p4), .val (.int ex), .val (.ref a1), .val (.ref a6), .unset, .unset, .unset] [(.ref m11), (.ref m10), (.ref a9), (.ref a9)])) ?_ st11
    refine Rn.pu (T' := T11) (g' := (mkF m 136 #[.val (.int p0), .val (.int p1), .val (.int p2), .val (.int p3), .val (.int p4), .val (.int ex), .val (.ref a1), .val (.ref a6), .unset, .unset, .unset] [(.int p0), (.ref m11), (.ref m10), (.ref a9), (.ref a9)])) ?_ fun _ zk => XS.iloadN H11.here hx rfl (hb hby at_135) rfl zk
    refine Rn.pu (T' := T11) (g' := (mkF m 137 #[.val (.int p0), .val (.int p1), .val (.int p2), .val (.int p3), .val (.int p4), .val (.int ex), .val (.ref a1), .val (.ref a6), .unset, .unset, .unset] [(.int p1), (.int p0), (.ref m11), (.ref m10), (.ref a9), (.ref a9)])) ?_ fun _ zk => XS.iloadN H11.here hx rfl (hb hby at_136) rfl zk
    refine Rn.pu (T' := T11) (g' := (mkF m 138 #[.val (.int p0), .val (.int p1), .val (.int p2), .val (.int p3), .val (.int p4), .val (.int ex), .val (.ref a1), .val (.ref a6), .unset, .unset, .unset] [(.int p2), (.int p1), (.int p0), (.ref m11), (.ref m10), (.ref a9), (.ref a9)])) ?_ fun _ zk => XS.iloadN H11.here hx rfl (hb hby at_137) rfl zk
    refine Rn.pu (T' := T11) (g' := (mkF m 139 #[.val (.int p0), .val (.int p1), .val (.int p2), .val (.int p3), .val (.int p4), .val (.int ex), .val (.ref a1), .val (.ref a6), .unset, .unset, .unset] [(.int p3), (.int p2), (.int p1), (.int p0), (.ref m11), (.ref m10), (.ref a9), (.ref a9)])) ?_ fun _ zk => XS.iloadN H11.here hx rfl (hb hby at_138) rfl zk
    refine Rn.pu (T' := T11) (g' := (mkF m 141 #[.val (.int p0), .val (.int p1), .val (.int p2), .val (.int p3), .val (.int p4), .val (.int ex), .val (.ref a1), .val (.ref a6), .unset, .unset, .unset] [(.int p4), (.int p3), (.int p2), (.int p1), (.int p0), (.ref m11), (.ref m10), (.ref a9), (.ref a9)])) ?_ fun _ zk => XS.iload H11.here hx rfl (hb hby at_139) rfl zk
    refine Rn.pu (T' := T11) (g' := (mkF m 142 #[.val (.int p0), .val (.int p1), .val (.int p2), .val (.int p3), .val (.int p4), .val (.int ex), .val (.ref a1), .val (.ref a6), .unset, .unset, .unset] [(.int (2 : Int32)), (.int p4), (.int p3), (.int p2), (.int p1), (.int p0), (.ref m11), (.ref m10), (.ref a9), (.ref a9)])) ?_ fun _ zk => XS.iconst H11.here hx rfl (hb hby at_141) zk
    obtain ⟨_, T12, h12, H12, ⟨m12, t12, rfl, S12, ga12, la12, gt12, lt12⟩, K12, st12⟩ := H11.callS (hw _ (List.mem_of_getElem? (i := 98) rfl)) (hw _ (List.mem_of_getElem? (i := 99) rfl)) (hw _ (List.mem_of_getElem? (i := 2) rfl)) (hw _ (List.mem_of_getElem? (i := 100) rfl)) (by decide) (MetN.pay (W := 4) (c_right l ⟨hw, S0, hz0⟩ p0 p1 p2 p3 p4 (2 : Int32) h11 H11.old) (hw _ (List.mem_of_getElem? (i := 100) rfl)) (hw _ (List.mem_of_getElem? (i := 2) rfl)) (by decide) (by decide)) (g := (mkF m 142 #[.val (.int p0), .val (.int p1), .val (.int p2), .val (.int p3), .val (.int p4), .val (.int ex), .val (.ref a1), .val (.ref a6), .unset, .unset, .unset] [(.int (2 : Int32)), (.int p4), (.int p3), (.int p2), (.int p1), (.int p0), (.ref m11), (.ref m10), (.ref a9), (.ref a9)])) rfl (by rw [hml]; rfl) (argsL := [(.int p0), (.int p1), (.int p2), (.int p3), (.int p4), (.int (2 : Int32))]) (rest := [(.ref m11), (.ref m10), (.ref a9), (.ref a9)]) (lenOf pd__IIIIII_Ljava_lang_String_ rfl) rfl rfl (Nat.le_of_eq rfl) (hb hby at_142) (by decide) (by decide) all0
    have zh12 := K12.1
    refine Rn.pu (g' := (mkF m 145 #[.val (.int p0), .val (.int p1), .val (.int p2), .val (.int p3), .val (.int p4), .val (.int ex), .val (.ref a1), .val (.ref a6), .unset, .unset, .unset] [(.ref m12), (.ref m11), (.ref m10), (.ref a9), (.ref a9)])) ?_ st12
    obtain ⟨_, T13, h13, H13, ⟨rfl, E13, G13_0, G13_1, G13_2⟩, K13, st13⟩ := H12.callIW rfl (hw _ (List.mem_of_getElem? (i := 55) rfl)) (hw _ (List.mem_of_getElem? (i := 56) rfl)) (hw _ (List.mem_of_getElem? (i := 57) rfl)) (by decide) (MetW.pay (W := 1) (c_init l ⟨hw, S0, hz0⟩ a9 m10 m11 m12 t10 t11 t12 (own_right p0 p1 p2 p3 p4 (0 : Int32)) (own_right p0 p1 p2 p3 p4 (1 : Int32)) (own_right p0 p1 p2 p3 p4 (2 : Int32)) h12 H12.old (((E9.keep K10).keep K11).keep K12) (((F9_subscriptionId.keep K10 nin0).keep K11 nin0).keep K12 nin0) (((F9_resourceGroupName.keep K10 nin0).keep K11 nin0).keep K12 nin0) (((F9_name.keep K10 nin0).keep K11 nin0).keep K12 nin0) ((S10.keep K11 nin0 nin0).keep K12 nin0 nin0) (own_str_len _ _ _) (S11.keep K12 nin0 nin0) (own_str_len _ _ _) S12 (own_str_len _ _ _) (by have := H0.old.1; omega) (by omega)) (hw _ (List.mem_of_getElem? (i := 57) rfl)) (hw _ (List.mem_of_getElem? (i := 18) rfl)) (by decide) (by decide)) (g := (mkF m 145 #[.val (.int p0), .val (.int p1), .val (.int p2), .val (.int p3), .val (.int p4), .val (.int ex), .val (.ref a1), .val (.ref a6), .unset, .unset, .unset] [(.ref m12), (.ref m11), (.ref m10), (.ref a9), (.ref a9)])) rfl (by rw [hml]; rfl) (argsL := [(.ref m10), (.ref m11), (.ref m12)]) (rest := [(.ref a9)]) (lenOf pd__Ljava_lang_String_Ljava_lang_String_Ljava_lang_String__V rfl) rfl rfl (Nat.le_of_eq rfl) (hb hby at_145) (by decide) (by decide) (allS (Or.inr (by omega)) all0) (fun _ _ _ _ => trivial)
    have zh13 := K13.1
    have H13 := H13.reV (V' := (fun _ => True)) (fun _ _ => trivial)
    refine Rn.pu (g' := (mkF m 148 #[.val (.int p0), .val (.int p1), .val (.int p2), .val (.int p3), .val (.int p4), .val (.int ex), .val (.ref a1), .val (.ref a6), .unset, .unset, .unset] [(.ref a9)])) ?_ st13
    refine Rn.pu (T' := T13) (g' := (mkF m 150 #[.val (.int p0), .val (.int p1), .val (.int p2), .val (.int p3), .val (.int p4), .val (.int ex), .val (.ref a1), .val (.ref a6), .val (.ref a9), .unset, .unset] [])) ?_ fun _ zk => XS.astore H13.here hx rfl (hb hby at_148) rfl rfl (l' := #[.val (.int p0), .val (.int p1), .val (.int p2), .val (.int p3), .val (.int p4), .val (.int ex), .val (.ref a1), .val (.ref a6), .val (.ref a9), .unset, .unset]) rfl zk
    obtain ⟨a14, T14, h14, e14, H14, K14, E14, D14, st14⟩ := H13.newO (hw _ (List.mem_of_getElem? (i := 78) rfl)) (hw _ (List.mem_of_getElem? (i := 79) rfl)) (hw _ (List.mem_of_getElem? (i := 80) rfl)) (g := (mkF m 150 #[.val (.int p0), .val (.int p1), .val (.int p2), .val (.int p3), .val (.int p4), .val (.int ex), .val (.ref a1), .val (.ref a6), .val (.ref a9), .unset, .unset] [])) rfl (hb hby at_150) (by decide) (by decide)
    have zh14 := K14.1
    have l14 := natlt (E14).lt
    have g14 : s.heap.size ≤ a14 := by omega
    have F14_collection : Fld Z h14 a14 "com/example/timely_errand/timelyerrand/engine/JobId" "collection" "Lcom/example/timely_errand/timelyerrand/engine/JobCollectionId;" .null := D14 (Or.inr (hw _ (List.mem_of_getElem? (i := 93) rfl))) (ty := (.object "com/example/timely_errand/timelyerrand/engine/JobCollectionId")) (by decide)
    have F14_name : Fld Z h14 a14 "com/example/timely_errand/timelyerrand/engine/JobId" "name" "Ljava/lang/String;" .null := D14 (Or.inr (hw _ (List.mem_of_getElem? (i := 97) rfl))) (ty := (.object "java/lang/String")) (by decide)
    refine Rn.pu (g' := (mkF m 153 #[.val (.int p0), .val (.int p1), .val (.int p2), .val (.int p3), .val (.int p4), .val (.int ex), .val (.ref a1), .val (.ref a6), .val (.ref a9), .unset, .unset] [(.ref a14)])) ?_ st14
    refine Rn.pu (T' := T14) (g' := (mkF m 154 #[.val (.int p0), .val (.int p1), .val (.int p2), .val (.int p3), .val (.int p4), .val (.int ex), .val (.ref a1), .val (.ref a6), .val (.ref a9), .unset, .unset] [(.ref a14), (.ref a14)])) ?_ fun _ zk => XS.dup H14.here hx rfl (hb hby at_153) rfl rfl zk
    refine Rn.pu (T' := T14) (g' := (mkF m 156 #[.val (.int p0), .val (.int p1), .val (.int p2), .val (.int p3), .val (.int p4), .val (.int ex), .val (.ref a1), .val (.ref a6), .val (.ref a9), .unset, .unset] [(.ref a9), (.ref a14), (.ref a14)])) ?_ fun _ zk => XS.aload H14.here hx rfl (hb hby at_154) rfl rfl zk
    refine Rn.pu (T' := T14) (g' := (mkF m 157 #[.val (.int p0), .val (.int p1), .val (.int p2), .val (.int p3), .val (.int p4), .val (.int ex), .val (.ref a1), .val (.ref a6), .val (.ref a9), .unset, .unset] [(.int p0), (.ref a9), (.ref a14), (.ref a14)])) ?_ fun _ zk => XS.iloadN H14.here hx rfl (hb hby at_156) rfl zk
    refine Rn.pu (T' := T14) (g' := (mkF m 158 #[.val (.int p0), .val (.int p1), .val (.int p2), .val (.int p3), .val (.int p4), .val (.int ex), .val (.ref a1), .val (.ref a6), .val (.ref a9), .unset, .unset] [(.int p1), (.int p0), (.ref a9), (.ref a14), (.ref a14)])) ?_ fun _ zk => XS.iloadN H14.here hx rfl (hb hby at_157) rfl zk
    refine Rn.pu (T' := T14) (g' := (mkF m 159 #[.val (.int p0), .val (.int p1), .val (.int p2), .val (.int p3), .val (.int p4), .val (.int ex), .val (.ref a1), .val (.ref a6), .val (.ref a9), .unset, .unset] [(.int p2), (.int p1), (.int p0), (.ref a9), (.ref a14), (.ref a14)])) ?_ fun _ zk => XS.iloadN H14.here hx rfl (hb hby at_158) rfl zk
    refine Rn.pu (T' := T14) (g' := (mkF m 160 #[.val (.int p0), .val (.int p1), .val (.int p2), .val (.int p3), .val (.int p4), .val (.int ex), .val (.ref a1), .val (.ref a6), .val (.ref a9), .unset, .unset] [(.int p3), (.int p2), (.int p1), (.int p0), (.ref a9), (.ref a14), (.ref a14)])) ?_ fun _ zk => XS.iloadN H14.here hx rfl (hb hby at_159) rfl zk
    refine Rn.pu (T' := T14) (g' := (mkF m 162 #[.val (.int p0), .val (.int p1), .val (.int p2), .val (.int p3), .val (.int p4), .val (.int ex), .val (.ref a1), .val (.ref a6), .val (.ref a9), .unset, .unset] [(.int p4), (.int p3), (.int p2), (.int p1), (.int p0), (.ref a9), (.ref a14), (.ref a14)])) ?_ fun _ zk => XS.iload H14.here hx rfl (hb hby at_160) rfl zk
    refine Rn.pu (T' := T14) (g' := (mkF m 163 #[.val (.int p0), .val (.int p1), .val (.int p2), .val (.int p3), .val (.int p4), .val (.int ex), .val (.ref a1), .val (.ref a6), .val (.ref a9), .unset, .unset] [(.int (3 : Int32)), (.int p4), (.int p3), (.int p2), (.int p1), (.int p0), (.ref a9), (.ref a14), (.ref a14)])) ?_ fun _ zk => XS.iconst H14.here hx rfl (hb hby at_162) zk
    obtain ⟨_, T15, h15, H15, ⟨m15, t15, rfl, S15, ga15, la15, gt15, lt15⟩, K15, st15⟩ := H14.callS (hw _ (List.mem_of_getElem? (i := 98) rfl)) (hw _ (List.mem_of_getElem? (i := 99) rfl)) (hw _ (List.mem_of_getElem? (i := 2) rfl)) (hw _ (List.mem_of_getElem? (i := 100) rfl)) (by decide) (MetN.pay (W := 3) (c_right l ⟨hw, S0, hz0⟩ p0 p1 p2 p3 p4 (3 : Int32) h14 H14.old) (hw _ (List.mem_of_getElem? (i := 100) rfl)) (hw _ (List.mem_of_getElem? (i := 2) rfl)) (by decide) (by decide)) (g := (mkF m 163 #[.val (.int p0), .val (.int p1), .val (.int p2), .val (.int p3), .val (.int p4), .val (.int ex), .val (.ref a1), .val (.ref a6), .val (.ref a9), .unset, .unset] [(.int (3 : Int32)), (.int p4), (.int p3), (.int p2), (.int p1), (.int p0), (.ref a9), (.ref a14), (.ref a14)])) rfl (by rw [hml]; rfl) (argsL := [(.int p0), (.int p1), (.int p2), (.int p3), (.int p4), (.int (3 : Int32))]) (rest := [(.ref a9), (.ref a14), (.ref a14)]) (lenOf pd__IIIIII_Ljava_lang_String_ rfl) rfl rfl (Nat.le_of_eq rfl) (hb hby at_163) (by decide) (by decide) all0
    have zh15 := K15.1
    refine Rn.pu (g' := (mkF m 166 #[.val (.int p0), .val (.int p1), .val (.int p2), .val (.int p3), .val (.int p4), .val (.int ex), .val (.ref a1), .val (.ref a6), .val (.ref a9), .unset, .unset] [(.ref m15), (.ref a9), (.ref a14), (.ref a14)])) ?_ st15
    obtain ⟨_, T16, h16, H16, ⟨rfl, E16, G16_0, G16_1⟩, K16, st16⟩ := H15.callIW rfl (hw _ (List.mem_of_getElem? (i := 81) rfl)) (hw _ (List.mem_of_getElem? (i := 82) rfl)) (hw _ (List.mem_of_getElem? (i := 83) rfl)) (by decide) (MetW.pay (W := 1) (c_ji l ⟨hw, S0, hz0⟩ a14 a9 m15 t15 (own_right p0 p1 p2 p3 p4 (3 : Int32)) h15 H15.old (E14.keep K15) ((E13.keep K14).keep K15) (F14_collection.keep K15 nin0) (F14_name.keep K15 nin0) S15 (own_str_len _ _ _) (by have := H0.old.1; omega) (by omega)) (hw _ (List.mem_of_getElem? (i := 83) rfl)) (hw _ (List.mem_of_getElem? (i := 80) rfl)) (by decide) (by decide)) (g := (mkF m 166 #[.val (.int p0), .val (.int p1), .val (.int p2), .val (.int p3), .val (.int p4), .val (.int ex), .val (.ref a1), .val (.ref a6), .val (.ref a9), .unset, .unset] [(.ref m15), (.ref a9), (.ref a14), (.ref a14)])) rfl (by rw [hml]; rfl) (argsL := [(.ref a9), (.ref m15)]) (rest := [(.ref a14)]) (lenOf pd__Lcom_example_timely_errand_timelyerrand_engine_JobCollectionId_Ljava_lang_Strin rfl) rfl rfl (Nat.le_of_eq rfl) (hb hby at_166) (by decide) (by decide) (allS (Or.inr (by omega)) all0) (fun _ _ _ _ => trivial)
    have zh16 := K16.1
    have H16 := H16.reV (V' := (fun _ => True)) (fun _ _ => trivial)
    refine Rn.pu (g' := (mkF m 169 #[.val (.int p0), .val (.int p1), .val (.int p2), .val (.int p3), .val (.int p4), .val (.int ex), .val (.ref a1), .val (.ref a6), .val (.ref a9), .unset, .unset] [(.ref a14)])) ?_ st16
    refine Rn.pu (T' := T16) (g' := (mkF m 171 #[.val (.int p0), .val (.int p1), .val (.int p2), .val (.int p3), .val (.int p4), .val (.int ex), .val (.ref a1), .val (.ref a6), .val (.ref a9), .val (.ref a14), .unset] [])) ?_ fun _ zk => XS.astore H16.here hx rfl (hb hby at_169) rfl rfl (l' := #[.val (.int p0), .val (.int p1), .val (.int p2), .val (.int p3), .val (.int p4), .val (.int ex), .val (.ref a1), .val (.ref a6), .val (.ref a9), .val (.ref a14), .unset]) rfl zk
    refine Rn.pu (T' := T16) (g' := (mkF m 173 #[.val (.int p0), .val (.int p1), .val (.int p2), .val (.int p3), .val (.int p4), .val (.int ex), .val (.ref a1), .val (.ref a6), .val (.ref a9), .val (.ref a14), .unset] [(.int p4)])) ?_ fun _ zk => XS.iload H16.here hx rfl (hb hby at_171) rfl zk
    refine Rn.pu (T' := T16) (g' := (mkF m 175 #[.val (.int p0), .val (.int p1), .val (.int p2), .val (.int p3), .val (.int p4), .val (.int ex), .val (.ref a1), .val (.ref a6), .val (.ref a9), .val (.ref a14), .unset] [(.int (20 : Int32)), (.int p4)])) ?_ fun _ zk => XS.bipush H16.here hx rfl (hb hby at_173) zk
    refine Rn.pu (T' := T16) (g' := (mkF m 176 #[.val (.int p0), .val (.int p1), .val (.int p2), .val (.int p3), .val (.int p4), .val (.int ex), .val (.ref a1), .val (.ref a6), .val (.ref a9), .val (.ref a14), .unset] [(.int (XT.ushr p4 (20 : Int32)))])) ?_ fun _ zk => XT.iushr H16.here hx rfl (hb hby at_175) rfl zk
    refine Rn.pu (T' := T16) (g' := (mkF m 177 #[.val (.int p0), .val (.int p1), .val (.int p2), .val (.int p3), .val (.int p4), .val (.int ex), .val (.ref a1), .val (.ref a6), .val (.ref a9), .val (.ref a14), .unset] [(.int (3 : Int32)), (.int (XT.ushr p4 (20 : Int32)))])) ?_ fun _ zk => XS.iconst H16.here hx rfl (hb hby at_176) zk
    refine Rn.pu (T' := T16) (g' := (mkF m 178 #[.val (.int p0), .val (.int p1), .val (.int p2), .val (.int p3), .val (.int p4), .val (.int ex), .val (.ref a1), .val (.ref a6), .val (.ref a9), .val (.ref a14), .unset] [(.int ((XT.ushr p4 (20 : Int32)) &&& (3 : Int32)))])) ?_ fun _ zk => XS.iand H16.here hx rfl (hb hby at_177) rfl zk
    refine Rn.pu (T' := T16) (g' := (mkF m 180 #[.val (.int p0), .val (.int p1), .val (.int p2), .val (.int p3), .val (.int p4), .val (.int ex), .val (.ref a1), .val (.ref a6), .val (.ref a9), .val (.ref a14), .val (.int ((XT.ushr p4 (20 : Int32)) &&& (3 : Int32)))] [])) ?_ fun _ zk => XS.istore H16.here hx rfl (hb hby at_178) rfl (l' := #[.val (.int p0), .val (.int p1), .val (.int p2), .val (.int p3), .val (.int p4), .val (.int ex), .val (.ref a1), .val (.ref a6), .val (.ref a9), .val (.ref a14), .val (.int ((XT.ushr p4 (20 : Int32)) &&& (3 : Int32)))]) rfl zk
    refine Rn.pu (T' := T16) (g' := (mkF m 182 #[.val (.int p0), .val (.int p1), .val (.int p2), .val (.int p3), .val (.int p4), .val (.int ex), .val (.ref a1), .val (.ref a6), .val (.ref a9), .val (.ref a14), .val (.int ((XT.ushr p4 (20 : Int32)) &&& (3 : Int32)))] [(.int ((XT.ushr p4 (20 : Int32)) &&& (3 : Int32)))])) ?_ fun _ zk => XS.iload H16.here hx rfl (hb hby at_180) rfl zk
    refine Rn.pu (T' := T16) (g' := (mkF m 183 #[.val (.int p0), .val (.int p1), .val (.int p2), .val (.int p3), .val (.int p4), .val (.int ex), .val (.ref a1), .val (.ref a6), .val (.ref a9), .val (.ref a14), .val (.int ((XT.ushr p4 (20 : Int32)) &&& (3 : Int32)))] [(.int (1 : Int32)), (.int ((XT.ushr p4 (20 : Int32)) &&& (3 : Int32)))])) ?_ fun _ zk => XS.iconst H16.here hx rfl (hb hby at_182) zk
    by_cases b183_17 : ((XT.ushr p4 (20 : Int32)) &&& (3 : Int32)) = (1 : Int32)
    ·
      refine Rn.pu (T' := T16) (g' := (mkF m 186 #[.val (.int p0), .val (.int p1), .val (.int p2), .val (.int p3), .val (.int p4), .val (.int ex), .val (.ref a1), .val (.ref a6), .val (.ref a9), .val (.ref a14), .val (.int ((XT.ushr p4 (20 : Int32)) &&& (3 : Int32)))] [])) ?_ fun _ zk => XS.icmpNo H16.here hx rfl (hb hby at_183) rfl (c_ne_f b183_17) zk
      refine Rn.pu (T' := T16) (g' := (mkF m 188 #[.val (.int p0), .val (.int p1), .val (.int p2), .val (.int p3), .val (.int p4), .val (.int ex), .val (.ref a1), .val (.ref a6), .val (.ref a9), .val (.ref a14), .val (.int ((XT.ushr p4 (20 : Int32)) &&& (3 : Int32)))] [(.ref a6)])) ?_ fun _ zk => XS.aload H16.here hx rfl (hb hby at_186) rfl rfl zk
      refine Rn.pu (T' := T16) (g' := (mkF m 189 #[.val (.int p0), .val (.int p1), .val (.int p2), .val (.int p3), .val (.int p4), .val (.int ex), .val (.ref a1), .val (.ref a6), .val (.ref a9), .val (.ref a14), .val (.int ((XT.ushr p4 (20 : Int32)) &&& (3 : Int32)))] [.null, (.ref a6)])) ?_ fun _ zk => XS.aconstNull H16.here hx rfl (hb hby at_188) zk
      obtain ⟨_, T18, h18, H18, ⟨rfl, rfl⟩, -, st18⟩ := H16.callV (C := "com/example/timely_errand/timelyerrand/engine/JobId") (hw _ (List.mem_of_getElem? (i := 104) rfl)) (hw _ (List.mem_of_getElem? (i := 105) rfl)) (hw _ (List.mem_of_getElem? (i := 107) rfl)) (hw _ (List.mem_of_getElem? (i := 106) rfl)) (by decide) (MetN.pay (W := 0) (c_jeq0 l ⟨hw, S0, hz0⟩ a6 h16 H16.old) (hw _ (List.mem_of_getElem? (i := 108) rfl)) (hw _ (List.mem_of_getElem? (i := 80) rfl)) (by decide) (by decide)) ((((((((E8.keep K9).keep K10).keep K11).keep K12).keep K13).keep K14).keep K15).keep K16) (g := (mkF m 189 #[.val (.int p0), .val (.int p1), .val (.int p2), .val (.int p3), .val (.int p4), .val (.int ex), .val (.ref a1), .val (.ref a6), .val (.ref a9), .val (.ref a14), .val (.int ((XT.ushr p4 (20 : Int32)) &&& (3 : Int32)))] [.null, (.ref a6)])) rfl (by rw [hml]; rfl) (argsL := [.null]) (rest := []) (lenOf pd__Ljava_lang_Object__Z rfl) rfl rfl (Nat.le_of_eq rfl) (hb hby at_189) (by decide) (by decide) all0
      refine Rn.pu (g' := (mkF m 192 #[.val (.int p0), .val (.int p1), .val (.int p2), .val (.int p3), .val (.int p4), .val (.int ex), .val (.ref a1), .val (.ref a6), .val (.ref a9), .val (.ref a14), .val (.int ((XT.ushr p4 (20 : Int32)) &&& (3 : Int32)))] [(.int (0 : Int32))])) ?_ st18
      refine Rn.pu (T' := T18) (g' := (mkF m 195 #[.val (.int p0), .val (.int p1), .val (.int p2), .val (.int p3), .val (.int p4), .val (.int ex), .val (.ref a1), .val (.ref a6), .val (.ref a9), .val (.ref a14), .val (.int ((XT.ushr p4 (20 : Int32)) &&& (3 : Int32)))] [])) ?_ fun _ zk => XS.ifNo H18.here hx rfl (hb hby at_192) rfl (z_ne_f rfl) zk
      refine Rn.pu (T' := T18) (g' := (mkF m 196 #[.val (.int p0), .val (.int p1), .val (.int p2), .val (.int p3), .val (.int p4), .val (.int ex), .val (.ref a1), .val (.ref a6), .val (.ref a9), .val (.ref a14), .val (.int ((XT.ushr p4 (20 : Int32)) &&& (3 : Int32)))] [(.int (1 : Int32))])) ?_ fun _ zk => XS.iconst H18.here hx rfl (hb hby at_195) zk
      refine Rn.pu (T' := T18) (g' := (mkF m 200 #[.val (.int p0), .val (.int p1), .val (.int p2), .val (.int p3), .val (.int p4), .val (.int ex), .val (.ref a1), .val (.ref a6), .val (.ref a9), .val (.ref a14), .val (.int ((XT.ushr p4 (20 : Int32)) &&& (3 : Int32)))] [(.int (1 : Int32))])) ?_ fun _ zk => XS.goto H18.here hx rfl (pc0 := 196) (pc' := 200) rfl (hb hby at_196) (by decide) (by decide) zk
      exact H18.retS ends_W hlk (t := .boolean) hret (by simp) (hb hby at_200) (by decide) (by decide) (fun _ q => nomatch q) rfl
    ·
      refine Rn.pu (T' := T16) (g' := (mkF m 201 #[.val (.int p0), .val (.int p1), .val (.int p2), .val (.int p3), .val (.int p4), .val (.int ex), .val (.ref a1), .val (.ref a6), .val (.ref a9), .val (.ref a14), .val (.int ((XT.ushr p4 (20 : Int32)) &&& (3 : Int32)))] [])) ?_ fun _ zk => XS.icmpYes H16.here hx rfl (pc0 := 183) (pc' := 201) rfl (hb hby at_183) rfl (c_ne_t b183_17) (by decide) (by decide) zk
      refine Rn.pu (T' := T16) (g' := (mkF m 203 #[.val (.int p0), .val (.int p1), .val (.int p2), .val (.int p3), .val (.int p4), .val (.int ex), .val (.ref a1), .val (.ref a6), .val (.ref a9), .val (.ref a14), .val (.int ((XT.ushr p4 (20 : Int32)) &&& (3 : Int32)))] [(.int ((XT.ushr p4 (20 : Int32)) &&& (3 : Int32)))])) ?_ fun _ zk => XS.iload H16.here hx rfl (hb hby at_201) rfl zk
      refine Rn.pu (T' := T16) (g' := (mkF m 204 #[.val (.int p0), .val (.int p1), .val (.int p2), .val (.int p3), .val (.int p4), .val (.int ex), .val (.ref a1), .val (.ref a6), .val (.ref a9), .val (.ref a14), .val (.int ((XT.ushr p4 (20 : Int32)) &&& (3 : Int32)))] [(.int (2 : Int32)), (.int ((XT.ushr p4 (20 : Int32)) &&& (3 : Int32)))])) ?_ fun _ zk => XS.iconst H16.here hx rfl (hb hby at_203) zk
      by_cases b204_19 : ((XT.ushr p4 (20 : Int32)) &&& (3 : Int32)) = (2 : Int32)
      ·
        refine Rn.pu (T' := T16) (g' := (mkF m 207 #[.val (.int p0), .val (.int p1), .val (.int p2), .val (.int p3), .val (.int p4), .val (.int ex), .val (.ref a1), .val (.ref a6), .val (.ref a9), .val (.ref a14), .val (.int ((XT.ushr p4 (20 : Int32)) &&& (3 : Int32)))] [])) ?_ fun _ zk => XS.icmpNo H16.here hx rfl (hb hby at_204) rfl (c_ne_f b204_19) zk
        refine Rn.pu (T' := T16) (g' := (mkF m 209 #[.val (.int p0), .val (.int p1), .val (.int p2), .val (.int p3), .val (.int p4), .val (.int ex), .val (.ref a1), .val (.ref a6), .val (.ref a9), .val (.ref a14), .val (.int ((XT.ushr p4 (20 : Int32)) &&& (3 : Int32)))] [(.ref a6)])) ?_ fun _ zk => XS.aload H16.here hx rfl (hb hby at_207) rfl rfl zk
        refine Rn.pu (T' := T16) (g' := (mkF m 211 #[.val (.int p0), .val (.int p1), .val (.int p2), .val (.int p3), .val (.int p4), .val (.int ex), .val (.ref a1), .val (.ref a6), .val (.ref a9), .val (.ref a14), .val (.int ((XT.ushr p4 (20 : Int32)) &&& (3 : Int32)))] [(.ref a1), (.ref a6)])) ?_ fun _ zk => XS.aload H16.here hx rfl (hb hby at_209) rfl rfl zk
        obtain ⟨_, T20, h20, H20, ⟨rfl, rfl⟩, -, st20⟩ := H16.callV (C := "com/example/timely_errand/timelyerrand/engine/JobId") (hw _ (List.mem_of_getElem? (i := 104) rfl)) (hw _ (List.mem_of_getElem? (i := 105) rfl)) (hw _ (List.mem_of_getElem? (i := 107) rfl)) (hw _ (List.mem_of_getElem? (i := 106) rfl)) (by decide) (MetN.pay (W := 0) (c_jeqC l ⟨hw, S0, hz0⟩ a6 a1 h16 H16.old (((((((((((E5.keep K6).keep K7).keep K8).keep K9).keep K10).keep K11).keep K12).keep K13).keep K14).keep K15).keep K16)) (hw _ (List.mem_of_getElem? (i := 108) rfl)) (hw _ (List.mem_of_getElem? (i := 80) rfl)) (by decide) (by decide)) ((((((((E8.keep K9).keep K10).keep K11).keep K12).keep K13).keep K14).keep K15).keep K16) (g := (mkF m 211 #[.val (.int p0), .val (.int p1), .val (.int p2), .val (.int p3), .val (.int p4), .val (.int ex), .val (.ref a1), .val (.ref a6), .val (.ref a9), .val (.ref a14), .val (.int ((XT.ushr p4 (20 : Int32)) &&& (3 : Int32)))] [(.ref a1), (.ref a6)])) rfl (by rw [hml]; rfl) (argsL := [(.ref a1)]) (rest := []) (lenOf pd__Ljava_lang_Object__Z rfl) rfl rfl (Nat.le_of_eq rfl) (hb hby at_211) (by decide) (by decide) all0
        refine Rn.pu (g' := (mkF m 214 #[.val (.int p0), .val (.int p1), .val (.int p2), .val (.int p3), .val (.int p4), .val (.int ex), .val (.ref a1), .val (.ref a6), .val (.ref a9), .val (.ref a14), .val (.int ((XT.ushr p4 (20 : Int32)) &&& (3 : Int32)))] [(.int (0 : Int32))])) ?_ st20
        refine Rn.pu (T' := T20) (g' := (mkF m 217 #[.val (.int p0), .val (.int p1), .val (.int p2), .val (.int p3), .val (.int p4), .val (.int ex), .val (.ref a1), .val (.ref a6), .val (.ref a9), .val (.ref a14), .val (.int ((XT.ushr p4 (20 : Int32)) &&& (3 : Int32)))] [])) ?_ fun _ zk => XS.ifNo H20.here hx rfl (hb hby at_214) rfl (z_ne_f rfl) zk
        refine Rn.pu (T' := T20) (g' := (mkF m 218 #[.val (.int p0), .val (.int p1), .val (.int p2), .val (.int p3), .val (.int p4), .val (.int ex), .val (.ref a1), .val (.ref a6), .val (.ref a9), .val (.ref a14), .val (.int ((XT.ushr p4 (20 : Int32)) &&& (3 : Int32)))] [(.int (1 : Int32))])) ?_ fun _ zk => XS.iconst H20.here hx rfl (hb hby at_217) zk
        refine Rn.pu (T' := T20) (g' := (mkF m 222 #[.val (.int p0), .val (.int p1), .val (.int p2), .val (.int p3), .val (.int p4), .val (.int ex), .val (.ref a1), .val (.ref a6), .val (.ref a9), .val (.ref a14), .val (.int ((XT.ushr p4 (20 : Int32)) &&& (3 : Int32)))] [(.int (1 : Int32))])) ?_ fun _ zk => XS.goto H20.here hx rfl (pc0 := 218) (pc' := 222) rfl (hb hby at_218) (by decide) (by decide) zk
        exact H20.retS ends_W hlk (t := .boolean) hret (by simp) (hb hby at_222) (by decide) (by decide) (fun _ q => nomatch q) rfl
      ·
        refine Rn.pu (T' := T16) (g' := (mkF m 223 #[.val (.int p0), .val (.int p1), .val (.int p2), .val (.int p3), .val (.int p4), .val (.int ex), .val (.ref a1), .val (.ref a6), .val (.ref a9), .val (.ref a14), .val (.int ((XT.ushr p4 (20 : Int32)) &&& (3 : Int32)))] [])) ?_ fun _ zk => XS.icmpYes H16.here hx rfl (pc0 := 204) (pc' := 223) rfl (hb hby at_204) rfl (c_ne_t b204_19) (by decide) (by decide) zk
        refine Rn.pu (T' := T16) (g' := (mkF m 225 #[.val (.int p0), .val (.int p1), .val (.int p2), .val (.int p3), .val (.int p4), .val (.int ex), .val (.ref a1), .val (.ref a6), .val (.ref a9), .val (.ref a14), .val (.int ((XT.ushr p4 (20 : Int32)) &&& (3 : Int32)))] [(.int ((XT.ushr p4 (20 : Int32)) &&& (3 : Int32)))])) ?_ fun _ zk => XS.iload H16.here hx rfl (hb hby at_223) rfl zk
        refine Rn.pu (T' := T16) (g' := (mkF m 226 #[.val (.int p0), .val (.int p1), .val (.int p2), .val (.int p3), .val (.int p4), .val (.int ex), .val (.ref a1), .val (.ref a6), .val (.ref a9), .val (.ref a14), .val (.int ((XT.ushr p4 (20 : Int32)) &&& (3 : Int32)))] [(.int (3 : Int32)), (.int ((XT.ushr p4 (20 : Int32)) &&& (3 : Int32)))])) ?_ fun _ zk => XS.iconst H16.here hx rfl (hb hby at_225) zk
        by_cases b226_21 : ((XT.ushr p4 (20 : Int32)) &&& (3 : Int32)) = (3 : Int32)
        ·
          refine Rn.pu (T' := T16) (g' := (mkF m 229 #[.val (.int p0), .val (.int p1), .val (.int p2), .val (.int p3), .val (.int p4), .val (.int ex), .val (.ref a1), .val (.ref a6), .val (.ref a9), .val (.ref a14), .val (.int ((XT.ushr p4 (20 : Int32)) &&& (3 : Int32)))] [])) ?_ fun _ zk => XS.icmpNo H16.here hx rfl (hb hby at_226) rfl (c_ne_f b226_21) zk
          refine Rn.pu (T' := T16) (g' := (mkF m 231 #[.val (.int p0), .val (.int p1), .val (.int p2), .val (.int p3), .val (.int p4), .val (.int ex), .val (.ref a1), .val (.ref a6), .val (.ref a9), .val (.ref a14), .val (.int ((XT.ushr p4 (20 : Int32)) &&& (3 : Int32)))] [(.ref a6)])) ?_ fun _ zk => XS.aload H16.here hx rfl (hb hby at_229) rfl rfl zk
          refine Rn.pu (T' := T16) (g' := (mkF m 233 #[.val (.int p0), .val (.int p1), .val (.int p2), .val (.int p3), .val (.int p4), .val (.int ex), .val (.ref a1), .val (.ref a6), .val (.ref a9), .val (.ref a14), .val (.int ((XT.ushr p4 (20 : Int32)) &&& (3 : Int32)))] [(.ref a6), (.ref a6)])) ?_ fun _ zk => XS.aload H16.here hx rfl (hb hby at_231) rfl rfl zk
          obtain ⟨_, T22, h22, H22, ⟨rfl, rfl⟩, -, st22⟩ := H16.callV (C := "com/example/timely_errand/timelyerrand/engine/JobId") (hw _ (List.mem_of_getElem? (i := 104) rfl)) (hw _ (List.mem_of_getElem? (i := 105) rfl)) (hw _ (List.mem_of_getElem? (i := 107) rfl)) (hw _ (List.mem_of_getElem? (i := 106) rfl)) (by decide) (MetN.pay (W := 0) (c_jeqY l ⟨hw, S0, hz0⟩ a6 a6 a1 a1 m2 m3 m4 m7 t2 t3 t4 t7 m2 m3 m4 m7 t2 t3 t4 t7 (own_left p0 p2 p4 (0 : Int32)) (own_left p0 p2 p4 (1 : Int32)) (own_left p0 p2 p4 (2 : Int32)) (own_left p0 p2 p4 (3 : Int32)) (own_left p0 p2 p4 (0 : Int32)) (own_left p0 p2 p4 (1 : Int32)) (own_left p0 p2 p4 (2 : Int32)) (own_left p0 p2 p4 (3 : Int32)) h16 H16.old ((((((((E8.keep K9).keep K10).keep K11).keep K12).keep K13).keep K14).keep K15).keep K16) ((((((((E8.keep K9).keep K10).keep K11).keep K12).keep K13).keep K14).keep K15).keep K16) (((((((((((E5.keep K6).keep K7).keep K8).keep K9).keep K10).keep K11).keep K12).keep K13).keep K14).keep K15).keep K16) (((((((((((E5.keep K6).keep K7).keep K8).keep K9).keep K10).keep K11).keep K12).keep K13).keep K14).keep K15).keep K16) ((((((((G8_0.keep K9 nin0).keep K10 nin0).keep K11 nin0).keep K12 nin0).keep K13 (ninS (adne (by omega)) nin0)).keep K14 nin0).keep K15 nin0).keep K16 (ninS (adne (by omega)) nin0)) ((((((((G8_0.keep K9 nin0).keep K10 nin0).keep K11 nin0).keep K12 nin0).keep K13 (ninS (adne (by omega)) nin0)).keep K14 nin0).keep K15 nin0).keep K16 (ninS (adne (by omega)) nin0)) ((((((((G8_1.keep K9 nin0).keep K10 nin0).keep K11 nin0).keep K12 nin0).keep K13 (ninS (adne (by omega)) nin0)).keep K14 nin0).keep K15 nin0).keep K16 (ninS (adne (by omega)) nin0)) ((((((((G8_1.keep K9 nin0).keep K10 nin0).keep K11 nin0).keep K12 nin0).keep K13 (ninS (adne (by omega)) nin0)).keep K14 nin0).keep K15 nin0).keep K16 (ninS (adne (by omega)) nin0)) (((((((((((G5_0.keep K6 nin0).keep K7 nin0).keep K8 (ninS (adne (by omega)) nin0)).keep K9 nin0).keep K10 nin0).keep K11 nin0).keep K12 nin0).keep K13 (ninS (adne (by omega)) nin0)).keep K14 nin0).keep K15 nin0).keep K16 (ninS (adne (by omega)) nin0)) (((((((((((G5_0.keep K6 nin0).keep K7 nin0).keep K8 (ninS (adne (by omega)) nin0)).keep K9 nin0).keep K10 nin0).keep K11 nin0).keep K12 nin0).keep K13 (ninS (adne (by omega)) nin0)).keep K14 nin0).keep K15 nin0).keep K16 (ninS (adne (by omega)) nin0)) (((((((((((G5_1.keep K6 nin0).keep K7 nin0).keep K8 (ninS (adne (by omega)) nin0)).keep K9 nin0).keep K10 nin0).keep K11 nin0).keep K12 nin0).keep K13 (ninS (adne (by omega)) nin0)).keep K14 nin0).keep K15 nin0).keep K16 (ninS (adne (by omega)) nin0)) (((((((((((G5_1.keep K6 nin0).keep K7 nin0).keep K8 (ninS (adne (by omega)) nin0)).keep K9 nin0).keep K10 nin0).keep K11 nin0).keep K12 nin0).keep K13 (ninS (adne (by omega)) nin0)).keep K14 nin0).keep K15 nin0).keep K16 (ninS (adne (by omega)) nin0)) (((((((((((G5_2.keep K6 nin0).keep K7 nin0).keep K8 (ninS (adne (by omega)) nin0)).keep K9 nin0).keep K10 nin0).keep K11 nin0).keep K12 nin0).keep K13 (ninS (adne (by omega)) nin0)).keep K14 nin0).keep K15 nin0).keep K16 (ninS (adne (by omega)) nin0)) (((((((((((G5_2.keep K6 nin0).keep K7 nin0).keep K8 (ninS (adne (by omega)) nin0)).keep K9 nin0).keep K10 nin0).keep K11 nin0).keep K12 nin0).keep K13 (ninS (adne (by omega)) nin0)).keep K14 nin0).keep K15 nin0).keep K16 (ninS (adne (by omega)) nin0)) ((((((((((((((S2.keep K3 nin0 nin0).keep K4 nin0 nin0).keep K5 (ninS (adne (by omega)) nin0) (ninS (adne (by omega)) nin0)).keep K6 nin0 nin0).keep K7 nin0 nin0).keep K8 (ninS (adne (by omega)) nin0) (ninS (adne (by omega)) nin0)).keep K9 nin0 nin0).keep K10 nin0 nin0).keep K11 nin0 nin0).keep K12 nin0 nin0).keep K13 (ninS (adne (by omega)) nin0) (ninS (adne (by omega)) nin0)).keep K14 nin0 nin0).keep K15 nin0 nin0).keep K16 (ninS (adne (by omega)) nin0) (ninS (adne (by omega)) nin0)) ((((((((((((((S2.keep K3 nin0 nin0).keep K4 nin0 nin0).keep K5 (ninS (adne (by omega)) nin0) (ninS (adne (by omega)) nin0)).keep K6 nin0 nin0).keep K7 nin0 nin0).keep K8 (ninS (adne (by omega)) nin0) (ninS (adne (by omega)) nin0)).keep K9 nin0 nin0).keep K10 nin0 nin0).keep K11 nin0 nin0).keep K12 nin0 nin0).keep K13 (ninS (adne (by omega)) nin0) (ninS (adne (by omega)) nin0)).keep K14 nin0 nin0).keep K15 nin0 nin0).keep K16 (ninS (adne (by omega)) nin0) (ninS (adne (by omega)) nin0)) (((((((((((((S3.keep K4 nin0 nin0).keep K5 (ninS (adne (by omega)) nin0) (ninS (adne (by omega)) nin0)).keep K6 nin0 nin0).keep K7 nin0 nin0).keep K8 (ninS (adne (by omega)) nin0) (ninS (adne (by omega)) nin0)).keep K9 nin0 nin0).keep K10 nin0 nin0).keep K11 nin0 nin0).keep K12 nin0 nin0).keep K13 (ninS (adne (by omega)) nin0) (ninS (adne (by omega)) nin0)).keep K14 nin0 nin0).keep K15 nin0 nin0).keep K16 (ninS (adne (by omega)) nin0) (ninS (adne (by omega)) nin0)) (((((((((((((S3.keep K4 nin0 nin0).keep K5 (ninS (adne (by omega)) nin0) (ninS (adne (by omega)) nin0)).keep K6 nin0 nin0).keep K7 nin0 nin0).keep K8 (ninS (adne (by omega)) nin0) (ninS (adne (by omega)) nin0)).keep K9 nin0 nin0).keep K10 nin0 nin0).keep K11 nin0 nin0).keep K12 nin0 nin0).keep K13 (ninS (adne (by omega)) nin0) (ninS (adne (by omega)) nin0)).keep K14 nin0 nin0).keep K15 nin0 nin0).keep K16 (ninS (adne (by omega)) nin0) (ninS (adne (by omega)) nin0)) ((((((((((((S4.keep K5 (ninS (adne (by omega)) nin0) (ninS (adne (by omega)) nin0)).keep K6 nin0 nin0).keep K7 nin0 nin0).keep K8 (ninS (adne (by omega)) nin0) (ninS (adne (by omega)) nin0)).keep K9 nin0 nin0).keep K10 nin0 nin0).keep K11 nin0 nin0).keep K12 nin0 nin0).keep K13 (ninS (adne (by omega)) nin0) (ninS (adne (by omega)) nin0)).keep K14 nin0 nin0).keep K15 nin0 nin0).keep K16 (ninS (adne (by omega)) nin0) (ninS (adne (by omega)) nin0)) ((((((((((((S4.keep K5 (ninS (adne (by omega)) nin0) (ninS (adne (by omega)) nin0)).keep K6 nin0 nin0).keep K7 nin0 nin0).keep K8 (ninS (adne (by omega)) nin0) (ninS (adne (by omega)) nin0)).keep K9 nin0 nin0).keep K10 nin0 nin0).keep K11 nin0 nin0).keep K12 nin0 nin0).keep K13 (ninS (adne (by omega)) nin0) (ninS (adne (by omega)) nin0)).keep K14 nin0 nin0).keep K15 nin0 nin0).keep K16 (ninS (adne (by omega)) nin0) (ninS (adne (by omega)) nin0)) (((((((((S7.keep K8 (ninS (adne (by omega)) nin0) (ninS (adne (by omega)) nin0)).keep K9 nin0 nin0).keep K10 nin0 nin0).keep K11 nin0 nin0).keep K12 nin0 nin0).keep K13 (ninS (adne (by omega)) nin0) (ninS (adne (by omega)) nin0)).keep K14 nin0 nin0).keep K15 nin0 nin0).keep K16 (ninS (adne (by omega)) nin0) (ninS (adne (by omega)) nin0)) (((((((((S7.keep K8 (ninS (adne (by omega)) nin0) (ninS (adne (by omega)) nin0)).keep K9 nin0 nin0).keep K10 nin0 nin0).keep K11 nin0 nin0).keep K12 nin0 nin0).keep K13 (ninS (adne (by omega)) nin0) (ninS (adne (by omega)) nin0)).keep K14 nin0 nin0).keep K15 nin0 nin0).keep K16 (ninS (adne (by omega)) nin0) (ninS (adne (by omega)) nin0)) ⟨⟨rfl, rfl, rfl⟩, rfl⟩) (hw _ (List.mem_of_getElem? (i := 108) rfl)) (hw _ (List.mem_of_getElem? (i := 80) rfl)) (by decide) (by decide)) ((((((((E8.keep K9).keep K10).keep K11).keep K12).keep K13).keep K14).keep K15).keep K16) (g := (mkF m 233 #[.val (.int p0), .val (.int p1), .val (.int p2), .val (.int p3), .val (.int p4), .val (.int ex), .val (.ref a1), .val (.ref a6), .val (.ref a9), .val (.ref a14), .val (.int ((XT.ushr p4 (20 : Int32)) &&& (3 : Int32)))] [(.ref a6), (.ref a6)])) rfl (by rw [hml]; rfl) (argsL := [(.ref a6)]) (rest := []) (lenOf pd__Ljava_lang_Object__Z rfl) rfl rfl (Nat.le_of_eq rfl) (hb hby at_233) (by decide) (by decide) all0
          refine Rn.pu (g' := (mkF m 236 #[.val (.int p0), .val (.int p1), .val (.int p2), .val (.int p3), .val (.int p4), .val (.int ex), .val (.ref a1), .val (.ref a6), .val (.ref a9), .val (.ref a14), .val (.int ((XT.ushr p4 (20 : Int32)) &&& (3 : Int32)))] [(.int (1 : Int32))])) ?_ st22
          exact H22.retS ends_W hlk (t := .boolean) hret (by simp) (hb hby at_236) (by decide) (by decide) (fun _ q => nomatch q) rfl
        ·
          refine Rn.pu (T' := T16) (g' := (mkF m 237 #[.val (.int p0), .val (.int p1), .val (.int p2), .val (.int p3), .val (.int p4), .val (.int ex), .val (.ref a1), .val (.ref a6), .val (.ref a9), .val (.ref a14), .val (.int ((XT.ushr p4 (20 : Int32)) &&& (3 : Int32)))] [])) ?_ fun _ zk => XS.icmpYes H16.here hx rfl (pc0 := 226) (pc' := 237) rfl (hb hby at_226) rfl (c_ne_t b226_21) (by decide) (by decide) zk
          rcases yJ57 with ⟨rfl, q1, q2, q3, q4⟩ | ⟨rfl, q1⟩
          ·
            refine Rn.pu (T' := T16) (g' := (mkF m 239 #[.val (.int p0), .val (.int p1), .val (.int p2), .val (.int p3), .val (.int p4), .val (.int (1 : Int32)), .val (.ref a1), .val (.ref a6), .val (.ref a9), .val (.ref a14), .val (.int ((XT.ushr p4 (20 : Int32)) &&& (3 : Int32)))] [(.ref a6)])) ?_ fun _ zk => XS.aload H16.here hx rfl (hb hby at_237) rfl rfl zk
            refine Rn.pu (T' := T16) (g' := (mkF m 241 #[.val (.int p0), .val (.int p1), .val (.int p2), .val (.int p3), .val (.int p4), .val (.int (1 : Int32)), .val (.ref a1), .val (.ref a6), .val (.ref a9), .val (.ref a14), .val (.int ((XT.ushr p4 (20 : Int32)) &&& (3 : Int32)))] [(.ref a14), (.ref a6)])) ?_ fun _ zk => XS.aload H16.here hx rfl (hb hby at_239) rfl rfl zk
            obtain ⟨_, T23, h23, H23, ⟨rfl, rfl⟩, -, st23⟩ := H16.callV (C := "com/example/timely_errand/timelyerrand/engine/JobId") (hw _ (List.mem_of_getElem? (i := 104) rfl)) (hw _ (List.mem_of_getElem? (i := 105) rfl)) (hw _ (List.mem_of_getElem? (i := 107) rfl)) (hw _ (List.mem_of_getElem? (i := 106) rfl)) (by decide) (MetN.pay (W := 0) (c_jeqY l ⟨hw, S0, hz0⟩ a6 a14 a1 a9 m2 m3 m4 m7 t2 t3 t4 t7 m10 m11 m12 m15 t10 t11 t12 t15 (own_left p0 p2 p4 (0 : Int32)) (own_left p0 p2 p4 (1 : Int32)) (own_left p0 p2 p4 (2 : Int32)) (own_left p0 p2 p4 (3 : Int32)) (own_right p0 p1 p2 p3 p4 (0 : Int32)) (own_right p0 p1 p2 p3 p4 (1 : Int32)) (own_right p0 p1 p2 p3 p4 (2 : Int32)) (own_right p0 p1 p2 p3 p4 (3 : Int32)) h16 H16.old ((((((((E8.keep K9).keep K10).keep K11).keep K12).keep K13).keep K14).keep K15).keep K16) E16 (((((((((((E5.keep K6).keep K7).keep K8).keep K9).keep K10).keep K11).keep K12).keep K13).keep K14).keep K15).keep K16) (((E13.keep K14).keep K15).keep K16) ((((((((G8_0.keep K9 nin0).keep K10 nin0).keep K11 nin0).keep K12 nin0).keep K13 (ninS (adne (by omega)) nin0)).keep K14 nin0).keep K15 nin0).keep K16 (ninS (adne (by omega)) nin0)) G16_0 ((((((((G8_1.keep K9 nin0).keep K10 nin0).keep K11 nin0).keep K12 nin0).keep K13 (ninS (adne (by omega)) nin0)).keep K14 nin0).keep K15 nin0).keep K16 (ninS (adne (by omega)) nin0)) G16_1 (((((((((((G5_0.keep K6 nin0).keep K7 nin0).keep K8 (ninS (adne (by omega)) nin0)).keep K9 nin0).keep K10 nin0).keep K11 nin0).keep K12 nin0).keep K13 (ninS (adne (by omega)) nin0)).keep K14 nin0).keep K15 nin0).keep K16 (ninS (adne (by omega)) nin0)) (((G13_0.keep K14 nin0).keep K15 nin0).keep K16 (ninS (adne (by omega)) nin0)) (((((((((((G5_1.keep K6 nin0).keep K7 nin0).keep K8 (ninS (adne (by omega)) nin0)).keep K9 nin0).keep K10 nin0).keep K11 nin0).keep K12 nin0).keep K13 (ninS (adne (by omega)) nin0)).keep K14 nin0).keep K15 nin0).keep K16 (ninS (adne (by omega)) nin0)) (((G13_1.keep K14 nin0).keep K15 nin0).keep K16 (ninS (adne (by omega)) nin0)) (((((((((((G5_2.keep K6 nin0).keep K7 nin0).keep K8 (ninS (adne (by omega)) nin0)).keep K9 nin0).keep K10 nin0).keep K11 nin0).keep K12 nin0).keep K13 (ninS (adne (by omega)) nin0)).keep K14 nin0).keep K15 nin0).keep K16 (ninS (adne (by omega)) nin0)) (((G13_2.keep K14 nin0).keep K15 nin0).keep K16 (ninS (adne (by omega)) nin0)) ((((((((((((((S2.keep K3 nin0 nin0).keep K4 nin0 nin0).keep K5 (ninS (adne (by omega)) nin0) (ninS (adne (by omega)) nin0)).keep K6 nin0 nin0).keep K7 nin0 nin0).keep K8 (ninS (adne (by omega)) nin0) (ninS (adne (by omega)) nin0)).keep K9 nin0 nin0).keep K10 nin0 nin0).keep K11 nin0 nin0).keep K12 nin0 nin0).keep K13 (ninS (adne (by omega)) nin0) (ninS (adne (by omega)) nin0)).keep K14 nin0 nin0).keep K15 nin0 nin0).keep K16 (ninS (adne (by omega)) nin0) (ninS (adne (by omega)) nin0)) ((((((S10.keep K11 nin0 nin0).keep K12 nin0 nin0).keep K13 (ninS (adne (by omega)) nin0) (ninS (adne (by omega)) nin0)).keep K14 nin0 nin0).keep K15 nin0 nin0).keep K16 (ninS (adne (by omega)) nin0) (ninS (adne (by omega)) nin0)) (((((((((((((S3.keep K4 nin0 nin0).keep K5 (ninS (adne (by omega)) nin0) (ninS (adne (by omega)) nin0)).keep K6 nin0 nin0).keep K7 nin0 nin0).keep K8 (ninS (adne (by omega)) nin0) (ninS (adne (by omega)) nin0)).keep K9 nin0 nin0).keep K10 nin0 nin0).keep K11 nin0 nin0).keep K12 nin0 nin0).keep K13 (ninS (adne (by omega)) nin0) (ninS (adne (by omega)) nin0)).keep K14 nin0 nin0).keep K15 nin0 nin0).keep K16 (ninS (adne (by omega)) nin0) (ninS (adne (by omega)) nin0)) (((((S11.keep K12 nin0 nin0).keep K13 (ninS (adne (by omega)) nin0) (ninS (adne (by omega)) nin0)).keep K14 nin0 nin0).keep K15 nin0 nin0).keep K16 (ninS (adne (by omega)) nin0) (ninS (adne (by omega)) nin0)) ((((((((((((S4.keep K5 (ninS (adne (by omega)) nin0) (ninS (adne (by omega)) nin0)).keep K6 nin0 nin0).keep K7 nin0 nin0).keep K8 (ninS (adne (by omega)) nin0) (ninS (adne (by omega)) nin0)).keep K9 nin0 nin0).keep K10 nin0 nin0).keep K11 nin0 nin0).keep K12 nin0 nin0).keep K13 (ninS (adne (by omega)) nin0) (ninS (adne (by omega)) nin0)).keep K14 nin0 nin0).keep K15 nin0 nin0).keep K16 (ninS (adne (by omega)) nin0) (ninS (adne (by omega)) nin0)) ((((S12.keep K13 (ninS (adne (by omega)) nin0) (ninS (adne (by omega)) nin0)).keep K14 nin0 nin0).keep K15 nin0 nin0).keep K16 (ninS (adne (by omega)) nin0) (ninS (adne (by omega)) nin0)) (((((((((S7.keep K8 (ninS (adne (by omega)) nin0) (ninS (adne (by omega)) nin0)).keep K9 nin0 nin0).keep K10 nin0 nin0).keep K11 nin0 nin0).keep K12 nin0 nin0).keep K13 (ninS (adne (by omega)) nin0) (ninS (adne (by omega)) nin0)).keep K14 nin0 nin0).keep K15 nin0 nin0).keep K16 (ninS (adne (by omega)) nin0) (ninS (adne (by omega)) nin0)) (S15.keep K16 (ninS (adne (by omega)) nin0) (ninS (adne (by omega)) nin0)) ⟨⟨q1, q2, q3⟩, q4⟩) (hw _ (List.mem_of_getElem? (i := 108) rfl)) (hw _ (List.mem_of_getElem? (i := 80) rfl)) (by decide) (by decide)) ((((((((E8.keep K9).keep K10).keep K11).keep K12).keep K13).keep K14).keep K15).keep K16) (g := (mkF m 241 #[.val (.int p0), .val (.int p1), .val (.int p2), .val (.int p3), .val (.int p4), .val (.int (1 : Int32)), .val (.ref a1), .val (.ref a6), .val (.ref a9), .val (.ref a14), .val (.int ((XT.ushr p4 (20 : Int32)) &&& (3 : Int32)))] [(.ref a14), (.ref a6)])) rfl (by rw [hml]; rfl) (argsL := [(.ref a14)]) (rest := []) (lenOf pd__Ljava_lang_Object__Z rfl) rfl rfl (Nat.le_of_eq rfl) (hb hby at_241) (by decide) (by decide) all0
            refine Rn.pu (g' := (mkF m 244 #[.val (.int p0), .val (.int p1), .val (.int p2), .val (.int p3), .val (.int p4), .val (.int (1 : Int32)), .val (.ref a1), .val (.ref a6), .val (.ref a9), .val (.ref a14), .val (.int ((XT.ushr p4 (20 : Int32)) &&& (3 : Int32)))] [(.int (1 : Int32))])) ?_ st23
            refine Rn.pu (T' := T23) (g' := (mkF m 246 #[.val (.int p0), .val (.int p1), .val (.int p2), .val (.int p3), .val (.int p4), .val (.int (1 : Int32)), .val (.ref a1), .val (.ref a6), .val (.ref a9), .val (.ref a14), .val (.int ((XT.ushr p4 (20 : Int32)) &&& (3 : Int32)))] [(.int (1 : Int32)), (.int (1 : Int32))])) ?_ fun _ zk => XS.iload H23.here hx rfl (hb hby at_244) rfl zk
            refine Rn.pu (T' := T23) (g' := (mkF m 249 #[.val (.int p0), .val (.int p1), .val (.int p2), .val (.int p3), .val (.int p4), .val (.int (1 : Int32)), .val (.ref a1), .val (.ref a6), .val (.ref a9), .val (.ref a14), .val (.int ((XT.ushr p4 (20 : Int32)) &&& (3 : Int32)))] [])) ?_ fun _ zk => XS.icmpNo H23.here hx rfl (hb hby at_246) rfl (c_ne_f rfl) zk
            refine Rn.pu (T' := T23) (g' := (mkF m 251 #[.val (.int p0), .val (.int p1), .val (.int p2), .val (.int p3), .val (.int p4), .val (.int (1 : Int32)), .val (.ref a1), .val (.ref a6), .val (.ref a9), .val (.ref a14), .val (.int ((XT.ushr p4 (20 : Int32)) &&& (3 : Int32)))] [(.ref a14)])) ?_ fun _ zk => XS.aload H23.here hx rfl (hb hby at_249) rfl rfl zk
            refine Rn.pu (T' := T23) (g' := (mkF m 253 #[.val (.int p0), .val (.int p1), .val (.int p2), .val (.int p3), .val (.int p4), .val (.int (1 : Int32)), .val (.ref a1), .val (.ref a6), .val (.ref a9), .val (.ref a14), .val (.int ((XT.ushr p4 (20 : Int32)) &&& (3 : Int32)))] [(.ref a6), (.ref a14)])) ?_ fun _ zk => XS.aload H23.here hx rfl (hb hby at_251) rfl rfl zk
            obtain ⟨_, T24, h24, H24, ⟨rfl, rfl⟩, -, st24⟩ := H23.callV (C := "com/example/timely_errand/timelyerrand/engine/JobId") (hw _ (List.mem_of_getElem? (i := 104) rfl)) (hw _ (List.mem_of_getElem? (i := 105) rfl)) (hw _ (List.mem_of_getElem? (i := 107) rfl)) (hw _ (List.mem_of_getElem? (i := 106) rfl)) (by decide) (MetN.pay (W := 0) (c_jeqY l ⟨hw, S0, hz0⟩ a14 a6 a9 a1 m10 m11 m12 m15 t10 t11 t12 t15 m2 m3 m4 m7 t2 t3 t4 t7 (own_right p0 p1 p2 p3 p4 (0 : Int32)) (own_right p0 p1 p2 p3 p4 (1 : Int32)) (own_right p0 p1 p2 p3 p4 (2 : Int32)) (own_right p0 p1 p2 p3 p4 (3 : Int32)) (own_left p0 p2 p4 (0 : Int32)) (own_left p0 p2 p4 (1 : Int32)) (own_left p0 p2 p4 (2 : Int32)) (own_left p0 p2 p4 (3 : Int32)) h16 H23.old E16 ((((((((E8.keep K9).keep K10).keep K11).keep K12).keep K13).keep K14).keep K15).keep K16) (((E13.keep K14).keep K15).keep K16) (((((((((((E5.keep K6).keep K7).keep K8).keep K9).keep K10).keep K11).keep K12).keep K13).keep K14).keep K15).keep K16) G16_0 ((((((((G8_0.keep K9 nin0).keep K10 nin0).keep K11 nin0).keep K12 nin0).keep K13 (ninS (adne (by omega)) nin0)).keep K14 nin0).keep K15 nin0).keep K16 (ninS (adne (by omega)) nin0)) G16_1 ((((((((G8_1.keep K9 nin0).keep K10 nin0).keep K11 nin0).keep K12 nin0).keep K13 (ninS (adne (by omega)) nin0)).keep K14 nin0).keep K15 nin0).keep K16 (ninS (adne (by omega)) nin0)) (((G13_0.keep K14 nin0).keep K15 nin0).keep K16 (ninS (adne (by omega)) nin0)) (((((((((((G5_0.keep K6 nin0).keep K7 nin0).keep K8 (ninS (adne (by omega)) nin0)).keep K9 nin0).keep K10 nin0).keep K11 nin0).keep K12 nin0).keep K13 (ninS (adne (by omega)) nin0)).keep K14 nin0).keep K15 nin0).keep K16 (ninS (adne (by omega)) nin0)) (((G13_1.keep K14 nin0).keep K15 nin0).keep K16 (ninS (adne (by omega)) nin0)) (((((((((((G5_1.keep K6 nin0).keep K7 nin0).keep K8 (ninS (adne (by omega)) nin0)).keep K9 nin0).keep K10 nin0).keep K11 nin0).keep K12 nin0).keep K13 (ninS (adne (by omega)) nin0)).keep K14 nin0).keep K15 nin0).keep K16 (ninS (adne (by omega)) nin0)) (((G13_2.keep K14 nin0).keep K15 nin0).keep K16 (ninS (adne (by omega)) nin0)) (((((((((((G5_2.keep K6 nin0).keep K7 nin0).keep K8 (ninS (adne (by omega)) nin0)).keep K9 nin0).keep K10 nin0).keep K11 nin0).keep K12 nin0).keep K13 (ninS (adne (by omega)) nin0)).keep K14 nin0).keep K15 nin0).keep K16 (ninS (adne (by omega)) nin0)) ((((((S10.keep K11 nin0 nin0).keep K12 nin0 nin0).keep K13 (ninS (adne (by omega)) nin0) (ninS (adne (by omega)) nin0)).keep K14 nin0 nin0).keep K15 nin0 nin0).keep K16 (ninS (adne (by omega)) nin0) (ninS (adne (by omega)) nin0)) ((((((((((((((S2.keep K3 nin0 nin0).keep K4 nin0 nin0).keep K5 (ninS (adne (by omega)) nin0) (ninS (adne (by omega)) nin0)).keep K6 nin0 nin0).keep K7 nin0 nin0).keep K8 (ninS (adne (by omega)) nin0) (ninS (adne (by omega)) nin0)).keep K9 nin0 nin0).keep K10 nin0 nin0).keep K11 nin0 nin0).keep K12 nin0 nin0).keep K13 (ninS (adne (by omega)) nin0) (ninS (adne (by omega)) nin0)).keep K14 nin0 nin0).keep K15 nin0 nin0).keep K16 (ninS (adne (by omega)) nin0) (ninS (adne (by omega)) nin0)) (((((S11.keep K12 nin0 nin0).keep K13 (ninS (adne (by omega)) nin0) (ninS (adne (by omega)) nin0)).keep K14 nin0 nin0).keep K15 nin0 nin0).keep K16 (ninS (adne (by omega)) nin0) (ninS (adne (by omega)) nin0)) (((((((((((((S3.keep K4 nin0 nin0).keep K5 (ninS (adne (by omega)) nin0) (ninS (adne (by omega)) nin0)).keep K6 nin0 nin0).keep K7 nin0 nin0).keep K8 (ninS (adne (by omega)) nin0) (ninS (adne (by omega)) nin0)).keep K9 nin0 nin0).keep K10 nin0 nin0).keep K11 nin0 nin0).keep K12 nin0 nin0).keep K13 (ninS (adne (by omega)) nin0) (ninS (adne (by omega)) nin0)).keep K14 nin0 nin0).keep K15 nin0 nin0).keep K16 (ninS (adne (by omega)) nin0) (ninS (adne (by omega)) nin0)) ((((S12.keep K13 (ninS (adne (by omega)) nin0) (ninS (adne (by omega)) nin0)).keep K14 nin0 nin0).keep K15 nin0 nin0).keep K16 (ninS (adne (by omega)) nin0) (ninS (adne (by omega)) nin0)) ((((((((((((S4.keep K5 (ninS (adne (by omega)) nin0) (ninS (adne (by omega)) nin0)).keep K6 nin0 nin0).keep K7 nin0 nin0).keep K8 (ninS (adne (by omega)) nin0) (ninS (adne (by omega)) nin0)).keep K9 nin0 nin0).keep K10 nin0 nin0).keep K11 nin0 nin0).keep K12 nin0 nin0).keep K13 (ninS (adne (by omega)) nin0) (ninS (adne (by omega)) nin0)).keep K14 nin0 nin0).keep K15 nin0 nin0).keep K16 (ninS (adne (by omega)) nin0) (ninS (adne (by omega)) nin0)) (S15.keep K16 (ninS (adne (by omega)) nin0) (ninS (adne (by omega)) nin0)) (((((((((S7.keep K8 (ninS (adne (by omega)) nin0) (ninS (adne (by omega)) nin0)).keep K9 nin0 nin0).keep K10 nin0 nin0).keep K11 nin0 nin0).keep K12 nin0 nin0).keep K13 (ninS (adne (by omega)) nin0) (ninS (adne (by omega)) nin0)).keep K14 nin0 nin0).keep K15 nin0 nin0).keep K16 (ninS (adne (by omega)) nin0) (ninS (adne (by omega)) nin0)) ⟨⟨q1.symm, q2.symm, q3.symm⟩, q4.symm⟩) (hw _ (List.mem_of_getElem? (i := 108) rfl)) (hw _ (List.mem_of_getElem? (i := 80) rfl)) (by decide) (by decide)) E16 (g := (mkF m 253 #[.val (.int p0), .val (.int p1), .val (.int p2), .val (.int p3), .val (.int p4), .val (.int (1 : Int32)), .val (.ref a1), .val (.ref a6), .val (.ref a9), .val (.ref a14), .val (.int ((XT.ushr p4 (20 : Int32)) &&& (3 : Int32)))] [(.ref a6), (.ref a14)])) rfl (by rw [hml]; rfl) (argsL := [(.ref a6)]) (rest := []) (lenOf pd__Ljava_lang_Object__Z rfl) rfl rfl (Nat.le_of_eq rfl) (hb hby at_253) (by decide) (by decide) all0
            refine Rn.pu (g' := (mkF m 256 #[.val (.int p0), .val (.int p1), .val (.int p2), .val (.int p3), .val (.int p4), .val (.int (1 : Int32)), .val (.ref a1), .val (.ref a6), .val (.ref a9), .val (.ref a14), .val (.int ((XT.ushr p4 (20 : Int32)) &&& (3 : Int32)))] [(.int (1 : Int32))])) ?_ st24
            refine Rn.pu (T' := T24) (g' := (mkF m 258 #[.val (.int p0), .val (.int p1), .val (.int p2), .val (.int p3), .val (.int p4), .val (.int (1 : Int32)), .val (.ref a1), .val (.ref a6), .val (.ref a9), .val (.ref a14), .val (.int ((XT.ushr p4 (20 : Int32)) &&& (3 : Int32)))] [(.int (1 : Int32)), (.int (1 : Int32))])) ?_ fun _ zk => XS.iload H24.here hx rfl (hb hby at_256) rfl zk
            refine Rn.pu (T' := T24) (g' := (mkF m 261 #[.val (.int p0), .val (.int p1), .val (.int p2), .val (.int p3), .val (.int p4), .val (.int (1 : Int32)), .val (.ref a1), .val (.ref a6), .val (.ref a9), .val (.ref a14), .val (.int ((XT.ushr p4 (20 : Int32)) &&& (3 : Int32)))] [])) ?_ fun _ zk => XS.icmpNo H24.here hx rfl (hb hby at_258) rfl (c_ne_f rfl) zk
            refine Rn.pu (T' := T24) (g' := (mkF m 262 #[.val (.int p0), .val (.int p1), .val (.int p2), .val (.int p3), .val (.int p4), .val (.int (1 : Int32)), .val (.ref a1), .val (.ref a6), .val (.ref a9), .val (.ref a14), .val (.int ((XT.ushr p4 (20 : Int32)) &&& (3 : Int32)))] [(.int (1 : Int32))])) ?_ fun _ zk => XS.iconst H24.here hx rfl (hb hby at_261) zk
            refine Rn.pu (T' := T24) (g' := (mkF m 266 #[.val (.int p0), .val (.int p1), .val (.int p2), .val (.int p3), .val (.int p4), .val (.int (1 : Int32)), .val (.ref a1), .val (.ref a6), .val (.ref a9), .val (.ref a14), .val (.int ((XT.ushr p4 (20 : Int32)) &&& (3 : Int32)))] [(.int (1 : Int32))])) ?_ fun _ zk => XS.goto H24.here hx rfl (pc0 := 262) (pc' := 266) rfl (hb hby at_262) (by decide) (by decide) zk
            exact H24.retS ends_W hlk (t := .boolean) hret (by simp) (hb hby at_266) (by decide) (by decide) (fun _ q => nomatch q) rfl
          ·
            refine Rn.pu (T' := T16) (g' := (mkF m 239 #[.val (.int p0), .val (.int p1), .val (.int p2), .val (.int p3), .val (.int p4), .val (.int (0 : Int32)), .val (.ref a1), .val (.ref a6), .val (.ref a9), .val (.ref a14), .val (.int ((XT.ushr p4 (20 : Int32)) &&& (3 : Int32)))] [(.ref a6)])) ?_ fun _ zk => XS.aload H16.here hx rfl (hb hby at_237) rfl rfl zk
            refine Rn.pu (T' := T16) (g' := (mkF m 241 #[.val (.int p0), .val (.int p1), .val (.int p2), .val (.int p3), .val (.int p4), .val (.int (0 : Int32)), .val (.ref a1), .val (.ref a6), .val (.ref a9), .val (.ref a14), .val (.int ((XT.ushr p4 (20 : Int32)) &&& (3 : Int32)))] [(.ref a14), (.ref a6)])) ?_ fun _ zk => XS.aload H16.here hx rfl (hb hby at_239) rfl rfl zk
            obtain ⟨_, T25, h25, H25, ⟨rfl, rfl⟩, -, st25⟩ := H16.callV (C := "com/example/timely_errand/timelyerrand/engine/JobId") (hw _ (List.mem_of_getElem? (i := 104) rfl)) (hw _ (List.mem_of_getElem? (i := 105) rfl)) (hw _ (List.mem_of_getElem? (i := 107) rfl)) (hw _ (List.mem_of_getElem? (i := 106) rfl)) (by decide) (MetN.pay (W := 0) (c_jeqN l ⟨hw, S0, hz0⟩ a6 a14 a1 a9 m2 m3 m4 m7 t2 t3 t4 t7 m10 m11 m12 m15 t10 t11 t12 t15 (own_left p0 p2 p4 (0 : Int32)) (own_left p0 p2 p4 (1 : Int32)) (own_left p0 p2 p4 (2 : Int32)) (own_left p0 p2 p4 (3 : Int32)) (own_right p0 p1 p2 p3 p4 (0 : Int32)) (own_right p0 p1 p2 p3 p4 (1 : Int32)) (own_right p0 p1 p2 p3 p4 (2 : Int32)) (own_right p0 p1 p2 p3 p4 (3 : Int32)) h16 H16.old ((((((((E8.keep K9).keep K10).keep K11).keep K12).keep K13).keep K14).keep K15).keep K16) E16 (((((((((((E5.keep K6).keep K7).keep K8).keep K9).keep K10).keep K11).keep K12).keep K13).keep K14).keep K15).keep K16) (((E13.keep K14).keep K15).keep K16) ((((((((G8_0.keep K9 nin0).keep K10 nin0).keep K11 nin0).keep K12 nin0).keep K13 (ninS (adne (by omega)) nin0)).keep K14 nin0).keep K15 nin0).keep K16 (ninS (adne (by omega)) nin0)) G16_0 ((((((((G8_1.keep K9 nin0).keep K10 nin0).keep K11 nin0).keep K12 nin0).keep K13 (ninS (adne (by omega)) nin0)).keep K14 nin0).keep K15 nin0).keep K16 (ninS (adne (by omega)) nin0)) G16_1 (((((((((((G5_0.keep K6 nin0).keep K7 nin0).keep K8 (ninS (adne (by omega)) nin0)).keep K9 nin0).keep K10 nin0).keep K11 nin0).keep K12 nin0).keep K13 (ninS (adne (by omega)) nin0)).keep K14 nin0).keep K15 nin0).keep K16 (ninS (adne (by omega)) nin0)) (((G13_0.keep K14 nin0).keep K15 nin0).keep K16 (ninS (adne (by omega)) nin0)) (((((((((((G5_1.keep K6 nin0).keep K7 nin0).keep K8 (ninS (adne (by omega)) nin0)).keep K9 nin0).keep K10 nin0).keep K11 nin0).keep K12 nin0).keep K13 (ninS (adne (by omega)) nin0)).keep K14 nin0).keep K15 nin0).keep K16 (ninS (adne (by omega)) nin0)) (((G13_1.keep K14 nin0).keep K15 nin0).keep K16 (ninS (adne (by omega)) nin0)) (((((((((((G5_2.keep K6 nin0).keep K7 nin0).keep K8 (ninS (adne (by omega)) nin0)).keep K9 nin0).keep K10 nin0).keep K11 nin0).keep K12 nin0).keep K13 (ninS (adne (by omega)) nin0)).keep K14 nin0).keep K15 nin0).keep K16 (ninS (adne (by omega)) nin0)) (((G13_2.keep K14 nin0).keep K15 nin0).keep K16 (ninS (adne (by omega)) nin0)) ((((((((((((((S2.keep K3 nin0 nin0).keep K4 nin0 nin0).keep K5 (ninS (adne (by omega)) nin0) (ninS (adne (by omega)) nin0)).keep K6 nin0 nin0).keep K7 nin0 nin0).keep K8 (ninS (adne (by omega)) nin0) (ninS (adne (by omega)) nin0)).keep K9 nin0 nin0).keep K10 nin0 nin0).keep K11 nin0 nin0).keep K12 nin0 nin0).keep K13 (ninS (adne (by omega)) nin0) (ninS (adne (by omega)) nin0)).keep K14 nin0 nin0).keep K15 nin0 nin0).keep K16 (ninS (adne (by omega)) nin0) (ninS (adne (by omega)) nin0)) ((((((S10.keep K11 nin0 nin0).keep K12 nin0 nin0).keep K13 (ninS (adne (by omega)) nin0) (ninS (adne (by omega)) nin0)).keep K14 nin0 nin0).keep K15 nin0 nin0).keep K16 (ninS (adne (by omega)) nin0) (ninS (adne (by omega)) nin0)) (((((((((((((S3.keep K4 nin0 nin0).keep K5 (ninS (adne (by omega)) nin0) (ninS (adne (by omega)) nin0)).keep K6 nin0 nin0).keep K7 nin0 nin0).keep K8 (ninS (adne (by omega)) nin0) (ninS (adne (by omega)) nin0)).keep K9 nin0 nin0).keep K10 nin0 nin0).keep K11 nin0 nin0).keep K12 nin0 nin0).keep K13 (ninS (adne (by omega)) nin0) (ninS (adne (by omega)) nin0)).keep K14 nin0 nin0).keep K15 nin0 nin0).keep K16 (ninS (adne (by omega)) nin0) (ninS (adne (by omega)) nin0)) (((((S11.keep K12 nin0 nin0).keep K13 (ninS (adne (by omega)) nin0) (ninS (adne (by omega)) nin0)).keep K14 nin0 nin0).keep K15 nin0 nin0).keep K16 (ninS (adne (by omega)) nin0) (ninS (adne (by omega)) nin0)) ((((((((((((S4.keep K5 (ninS (adne (by omega)) nin0) (ninS (adne (by omega)) nin0)).keep K6 nin0 nin0).keep K7 nin0 nin0).keep K8 (ninS (adne (by omega)) nin0) (ninS (adne (by omega)) nin0)).keep K9 nin0 nin0).keep K10 nin0 nin0).keep K11 nin0 nin0).keep K12 nin0 nin0).keep K13 (ninS (adne (by omega)) nin0) (ninS (adne (by omega)) nin0)).keep K14 nin0 nin0).keep K15 nin0 nin0).keep K16 (ninS (adne (by omega)) nin0) (ninS (adne (by omega)) nin0)) ((((S12.keep K13 (ninS (adne (by omega)) nin0) (ninS (adne (by omega)) nin0)).keep K14 nin0 nin0).keep K15 nin0 nin0).keep K16 (ninS (adne (by omega)) nin0) (ninS (adne (by omega)) nin0)) (((((((((S7.keep K8 (ninS (adne (by omega)) nin0) (ninS (adne (by omega)) nin0)).keep K9 nin0 nin0).keep K10 nin0 nin0).keep K11 nin0 nin0).keep K12 nin0 nin0).keep K13 (ninS (adne (by omega)) nin0) (ninS (adne (by omega)) nin0)).keep K14 nin0 nin0).keep K15 nin0 nin0).keep K16 (ninS (adne (by omega)) nin0) (ninS (adne (by omega)) nin0)) (S15.keep K16 (ninS (adne (by omega)) nin0) (ninS (adne (by omega)) nin0)) (fun r => q1 ⟨(r.1.1), (r.1.2.1), (r.1.2.2), (r.2)⟩)) (hw _ (List.mem_of_getElem? (i := 108) rfl)) (hw _ (List.mem_of_getElem? (i := 80) rfl)) (by decide) (by decide)) ((((((((E8.keep K9).keep K10).keep K11).keep K12).keep K13).keep K14).keep K15).keep K16) (g := (mkF m 241 #[.val (.int p0), .val (.int p1), .val (.int p2), .val (.int p3), .val (.int p4), .val (.int (0 : Int32)), .val (.ref a1), .val (.ref a6), .val (.ref a9), .val (.ref a14), .val (.int ((XT.ushr p4 (20 : Int32)) &&& (3 : Int32)))] [(.ref a14), (.ref a6)])) rfl (by rw [hml]; rfl) (argsL := [(.ref a14)]) (rest := []) (lenOf pd__Ljava_lang_Object__Z rfl) rfl rfl (Nat.le_of_eq rfl) (hb hby at_241) (by decide) (by decide) all0
            refine Rn.pu (g' := (mkF m 244 #[.val (.int p0), .val (.int p1), .val (.int p2), .val (.int p3), .val (.int p4), .val (.int (0 : Int32)), .val (.ref a1), .val (.ref a6), .val (.ref a9), .val (.ref a14), .val (.int ((XT.ushr p4 (20 : Int32)) &&& (3 : Int32)))] [(.int (0 : Int32))])) ?_ st25
            refine Rn.pu (T' := T25) (g' := (mkF m 246 #[.val (.int p0), .val (.int p1), .val (.int p2), .val (.int p3), .val (.int p4), .val (.int (0 : Int32)), .val (.ref a1), .val (.ref a6), .val (.ref a9), .val (.ref a14), .val (.int ((XT.ushr p4 (20 : Int32)) &&& (3 : Int32)))] [(.int (0 : Int32)), (.int (0 : Int32))])) ?_ fun _ zk => XS.iload H25.here hx rfl (hb hby at_244) rfl zk
            refine Rn.pu (T' := T25) (g' := (mkF m 249 #[.val (.int p0), .val (.int p1), .val (.int p2), .val (.int p3), .val (.int p4), .val (.int (0 : Int32)), .val (.ref a1), .val (.ref a6), .val (.ref a9), .val (.ref a14), .val (.int ((XT.ushr p4 (20 : Int32)) &&& (3 : Int32)))] [])) ?_ fun _ zk => XS.icmpNo H25.here hx rfl (hb hby at_246) rfl (c_ne_f rfl) zk
            refine Rn.pu (T' := T25) (g' := (mkF m 251 #[.val (.int p0), .val (.int p1), .val (.int p2), .val (.int p3), .val (.int p4), .val (.int (0 : Int32)), .val (.ref a1), .val (.ref a6), .val (.ref a9), .val (.ref a14), .val (.int ((XT.ushr p4 (20 : Int32)) &&& (3 : Int32)))] [(.ref a14)])) ?_ fun _ zk => XS.aload H25.here hx rfl (hb hby at_249) rfl rfl zk
            refine Rn.pu (T' := T25) (g' := (mkF m 253 #[.val (.int p0), .val (.int p1), .val (.int p2), .val (.int p3), .val (.int p4), .val (.int (0 : Int32)), .val (.ref a1), .val (.ref a6), .val (.ref a9), .val (.ref a14), .val (.int ((XT.ushr p4 (20 : Int32)) &&& (3 : Int32)))] [(.ref a6), (.ref a14)])) ?_ fun _ zk => XS.aload H25.here hx rfl (hb hby at_251) rfl rfl zk
            obtain ⟨_, T26, h26, H26, ⟨rfl, rfl⟩, -, st26⟩ := H25.callV (C := "com/example/timely_errand/timelyerrand/engine/JobId") (hw _ (List.mem_of_getElem? (i := 104) rfl)) (hw _ (List.mem_of_getElem? (i := 105) rfl)) (hw _ (List.mem_of_getElem? (i := 107) rfl)) (hw _ (List.mem_of_getElem? (i := 106) rfl)) (by decide) (MetN.pay (W := 0) (c_jeqN l ⟨hw, S0, hz0⟩ a14 a6 a9 a1 m10 m11 m12 m15 t10 t11 t12 t15 m2 m3 m4 m7 t2 t3 t4 t7 (own_right p0 p1 p2 p3 p4 (0 : Int32)) (own_right p0 p1 p2 p3 p4 (1 : Int32)) (own_right p0 p1 p2 p3 p4 (2 : Int32)) (own_right p0 p1 p2 p3 p4 (3 : Int32)) (own_left p0 p2 p4 (0 : Int32)) (own_left p0 p2 p4 (1 : Int32)) (own_left p0 p2 p4 (2 : Int32)) (own_left p0 p2 p4 (3 : Int32)) h16 H25.old E16 ((((((((E8.keep K9).keep K10).keep K11).keep K12).keep K13).keep K14).keep K15).keep K16) (((E13.keep K14).keep K15).keep K16) (((((((((((E5.keep K6).keep K7).keep K8).keep K9).keep K10).keep K11).keep K12).keep K13).keep K14).keep K15).keep K16) G16_0 ((((((((G8_0.keep K9 nin0).keep K10 nin0).keep K11 nin0).keep K12 nin0).keep K13 (ninS (adne (by omega)) nin0)).keep K14 nin0).keep K15 nin0).keep K16 (ninS (adne (by omega)) nin0)) G16_1 ((((((((G8_1.keep K9 nin0).keep K10 nin0).keep K11 nin0).keep K12 nin0).keep K13 (ninS (adne (by omega)) nin0)).keep K14 nin0).keep K15 nin0).keep K16 (ninS (adne (by omega)) nin0)) (((G13_0.keep K14 nin0).keep K15 nin0).keep K16 (ninS (adne (by omega)) nin0)) (((((((((((G5_0.keep K6 nin0).keep K7 nin0).keep K8 (ninS (adne (by omega)) nin0)).keep K9 nin0).keep K10 nin0).keep K11 nin0).keep K12 nin0).keep K13 (ninS (adne (by omega)) nin0)).keep K14 nin0).keep K15 nin0).keep K16 (ninS (adne (by omega)) nin0)) (((G13_1.keep K14 nin0).keep K15 nin0).keep K16 (ninS (adne (by omega)) nin0)) (((((((((((G5_1.keep K6 nin0).keep K7 nin0).keep K8 (ninS (adne (by omega)) nin0)).keep K9 nin0).keep K10 nin0).keep K11 nin0).keep K12 nin0).keep K13 (ninS (adne (by omega)) nin0)).keep K14 nin0).keep K15 nin0).keep K16 (ninS (adne (by omega)) nin0)) (((G13_2.keep K14 nin0).keep K15 nin0).keep K16 (ninS (adne (by omega)) nin0)) (((((((((((G5_2.keep K6 nin0).keep K7 nin0).keep K8 (ninS (adne (by omega)) nin0)).keep K9 nin0).keep K10 nin0).keep K11 nin0).keep K12 nin0).keep K13 (ninS (adne (by omega)) nin0)).keep K14 nin0).keep K15 nin0).keep K16 (ninS (adne (by omega)) nin0)) ((((((S10.keep K11 nin0 nin0).keep K12 nin0 nin0).keep K13 (ninS (adne (by omega)) nin0) (ninS (adne (by omega)) nin0)).keep K14 nin0 nin0).keep K15 nin0 nin0).keep K16 (ninS (adne (by omega)) nin0) (ninS (adne (by omega)) nin0)) ((((((((((((((S2.keep K3 nin0 nin0).keep K4 nin0 nin0).keep K5 (ninS (adne (by omega)) nin0) (ninS (adne (by omega)) nin0)).keep K6 nin0 nin0).keep K7 nin0 nin0).keep K8 (ninS (adne (by omega)) nin0) (ninS (adne (by omega)) nin0)).keep K9 nin0 nin0).keep K10 nin0 nin0).keep K11 nin0 nin0).keep K12 nin0 nin0).keep K13 (ninS (adne (by omega)) nin0) (ninS (adne (by omega)) nin0)).keep K14 nin0 nin0).keep K15 nin0 nin0).keep K16 (ninS (adne (by omega)) nin0) (ninS (adne (by omega)) nin0)) (((((S11.keep K12 nin0 nin0).keep K13 (ninS (adne (by omega)) nin0) (ninS (adne (by omega)) nin0)).keep K14 nin0 nin0).keep K15 nin0 nin0).keep K16 (ninS (adne (by omega)) nin0) (ninS (adne (by omega)) nin0)) (((((((((((((S3.keep K4 nin0 nin0).keep K5 (ninS (adne (by omega)) nin0) (ninS (adne (by omega)) nin0)).keep K6 nin0 nin0).keep K7 nin0 nin0).keep K8 (ninS (adne (by omega)) nin0) (ninS (adne (by omega)) nin0)).keep K9 nin0 nin0).keep K10 nin0 nin0).keep K11 nin0 nin0).keep K12 nin0 nin0).keep K13 (ninS (adne (by omega)) nin0) (ninS (adne (by omega)) nin0)).keep K14 nin0 nin0).keep K15 nin0 nin0).keep K16 (ninS (adne (by omega)) nin0) (ninS (adne (by omega)) nin0)) ((((S12.keep K13 (ninS (adne (by omega)) nin0) (ninS (adne (by omega)) nin0)).keep K14 nin0 nin0).keep K15 nin0 nin0).keep K16 (ninS (adne (by omega)) nin0) (ninS (adne (by omega)) nin0)) ((((((((((((S4.keep K5 (ninS (adne (by omega)) nin0) (ninS (adne (by omega)) nin0)).keep K6 nin0 nin0).keep K7 nin0 nin0).keep K8 (ninS (adne (by omega)) nin0) (ninS (adne (by omega)) nin0)).keep K9 nin0 nin0).keep K10 nin0 nin0).keep K11 nin0 nin0).keep K12 nin0 nin0).keep K13 (ninS (adne (by omega)) nin0) (ninS (adne (by omega)) nin0)).keep K14 nin0 nin0).keep K15 nin0 nin0).keep K16 (ninS (adne (by omega)) nin0) (ninS (adne (by omega)) nin0)) (S15.keep K16 (ninS (adne (by omega)) nin0) (ninS (adne (by omega)) nin0)) (((((((((S7.keep K8 (ninS (adne (by omega)) nin0) (ninS (adne (by omega)) nin0)).keep K9 nin0 nin0).keep K10 nin0 nin0).keep K11 nin0 nin0).keep K12 nin0 nin0).keep K13 (ninS (adne (by omega)) nin0) (ninS (adne (by omega)) nin0)).keep K14 nin0 nin0).keep K15 nin0 nin0).keep K16 (ninS (adne (by omega)) nin0) (ninS (adne (by omega)) nin0)) (fun r => q1 ⟨(r.1.1).symm, (r.1.2.1).symm, (r.1.2.2).symm, (r.2).symm⟩)) (hw _ (List.mem_of_getElem? (i := 108) rfl)) (hw _ (List.mem_of_getElem? (i := 80) rfl)) (by decide) (by decide)) E16 (g := (mkF m 253 #[.val (.int p0), .val (.int p1), .val (.int p2), .val (.int p3), .val (.int p4), .val (.int (0 : Int32)), .val (.ref a1), .val (.ref a6), .val (.ref a9), .val (.ref a14), .val (.int ((XT.ushr p4 (20 : Int32)) &&& (3 : Int32)))] [(.ref a6), (.ref a14)])) rfl (by rw [hml]; rfl) (argsL := [(.ref a6)]) (rest := []) (lenOf pd__Ljava_lang_Object__Z rfl) rfl rfl (Nat.le_of_eq rfl) (hb hby at_253) (by decide) (by decide) all0
            refine Rn.pu (g' := (mkF m 256 #[.val (.int p0), .val (.int p1), .val (.int p2), .val (.int p3), .val (.int p4), .val (.int (0 : Int32)), .val (.ref a1), .val (.ref a6), .val (.ref a9), .val (.ref a14), .val (.int ((XT.ushr p4 (20 : Int32)) &&& (3 : Int32)))] [(.int (0 : Int32))])) ?_ st26
            refine Rn.pu (T' := T26) (g' := (mkF m 258 #[.val (.int p0), .val (.int p1), .val (.int p2), .val (.int p3), .val (.int p4), .val (.int (0 : Int32)), .val (.ref a1), .val (.ref a6), .val (.ref a9), .val (.ref a14), .val (.int ((XT.ushr p4 (20 : Int32)) &&& (3 : Int32)))] [(.int (0 : Int32)), (.int (0 : Int32))])) ?_ fun _ zk => XS.iload H26.here hx rfl (hb hby at_256) rfl zk
            refine Rn.pu (T' := T26) (g' := (mkF m 261 #[.val (.int p0), .val (.int p1), .val (.int p2), .val (.int p3), .val (.int p4), .val (.int (0 : Int32)), .val (.ref a1), .val (.ref a6), .val (.ref a9), .val (.ref a14), .val (.int ((XT.ushr p4 (20 : Int32)) &&& (3 : Int32)))] [])) ?_ fun _ zk => XS.icmpNo H26.here hx rfl (hb hby at_258) rfl (c_ne_f rfl) zk
            refine Rn.pu (T' := T26) (g' := (mkF m 262 #[.val (.int p0), .val (.int p1), .val (.int p2), .val (.int p3), .val (.int p4), .val (.int (0 : Int32)), .val (.ref a1), .val (.ref a6), .val (.ref a9), .val (.ref a14), .val (.int ((XT.ushr p4 (20 : Int32)) &&& (3 : Int32)))] [(.int (1 : Int32))])) ?_ fun _ zk => XS.iconst H26.here hx rfl (hb hby at_261) zk
            refine Rn.pu (T' := T26) (g' := (mkF m 266 #[.val (.int p0), .val (.int p1), .val (.int p2), .val (.int p3), .val (.int p4), .val (.int (0 : Int32)), .val (.ref a1), .val (.ref a6), .val (.ref a9), .val (.ref a14), .val (.int ((XT.ushr p4 (20 : Int32)) &&& (3 : Int32)))] [(.int (1 : Int32))])) ?_ fun _ zk => XS.goto H26.here hx rfl (pc0 := 262) (pc' := 266) rfl (hb hby at_262) (by decide) (by decide) zk
            exact H26.retS ends_W hlk (t := .boolean) hret (by simp) (hb hby at_266) (by decide) (by decide) (fun _ q => nomatch q) rfl
  refine Rn.pu (T' := T0) (g' := (mkF m 1 #[.val (.int p0), .val (.int p1), .val (.int p2), .val (.int p3), .val (.int p4), .unset, .unset, .unset, .unset, .unset, .unset] [(.int p0)])) ?_ fun _ zk => XS.iloadN H0.here hx rfl (hb hby at_0) rfl zk
  refine Rn.pu (T' := T0) (g' := (mkF m 2 #[.val (.int p0), .val (.int p1), .val (.int p2), .val (.int p3), .val (.int p4), .unset, .unset, .unset, .unset, .unset, .unset] [(.int p1), (.int p0)])) ?_ fun _ zk => XS.iloadN H0.here hx rfl (hb hby at_1) rfl zk
  refine Rn.pu (T' := T0) (g' := (mkF m 3 #[.val (.int p0), .val (.int p1), .val (.int p2), .val (.int p3), .val (.int p4), .unset, .unset, .unset, .unset, .unset, .unset] [(.int p2), (.int p1), (.int p0)])) ?_ fun _ zk => XS.iloadN H0.here hx rfl (hb hby at_2) rfl zk
  refine Rn.pu (T' := T0) (g' := (mkF m 4 #[.val (.int p0), .val (.int p1), .val (.int p2), .val (.int p3), .val (.int p4), .unset, .unset, .unset, .unset, .unset, .unset] [(.int p3), (.int p2), (.int p1), (.int p0)])) ?_ fun _ zk => XS.iloadN H0.here hx rfl (hb hby at_3) rfl zk
  refine Rn.pu (T' := T0) (g' := (mkF m 6 #[.val (.int p0), .val (.int p1), .val (.int p2), .val (.int p3), .val (.int p4), .unset, .unset, .unset, .unset, .unset, .unset] [(.int p4), (.int p3), (.int p2), (.int p1), (.int p0)])) ?_ fun _ zk => XS.iload H0.here hx rfl (hb hby at_4) rfl zk
  refine Rn.pu (T' := T0) (g' := (mkF m 7 #[.val (.int p0), .val (.int p1), .val (.int p2), .val (.int p3), .val (.int p4), .unset, .unset, .unset, .unset, .unset, .unset] [(.int (0 : Int32)), (.int p4), (.int p3), (.int p2), (.int p1), (.int p0)])) ?_ fun _ zk => XS.iconst H0.here hx rfl (hb hby at_6) zk
  by_cases q7_27 : own_left p0 p2 p4 (0 : Int32) = own_right p0 p1 p2 p3 p4 (0 : Int32)
  ·
    obtain ⟨_, T28, h28, H28, ⟨rfl, rfl⟩, -, st28⟩ := H0.callS (hw _ (List.mem_of_getElem? (i := 0) rfl)) (hw _ (List.mem_of_getElem? (i := 1) rfl)) (hw _ (List.mem_of_getElem? (i := 2) rfl)) (hw _ (List.mem_of_getElem? (i := 3) rfl)) (by decide) (MetN.pay (W := 0) (c_smY l ⟨hw, S0, hz0⟩ p0 p1 p2 p3 p4 (0 : Int32) h0 H0.old q7_27) (hw _ (List.mem_of_getElem? (i := 3) rfl)) (hw _ (List.mem_of_getElem? (i := 2) rfl)) (by decide) (by decide)) (g := (mkF m 7 #[.val (.int p0), .val (.int p1), .val (.int p2), .val (.int p3), .val (.int p4), .unset, .unset, .unset, .unset, .unset, .unset] [(.int (0 : Int32)), (.int p4), (.int p3), (.int p2), (.int p1), (.int p0)])) rfl (by rw [hml]; rfl) (argsL := [(.int p0), (.int p1), (.int p2), (.int p3), (.int p4), (.int (0 : Int32))]) (rest := []) (lenOf pd__IIIIII_Z rfl) rfl rfl (Nat.le_of_eq rfl) (hb hby at_7) (by decide) (by decide) all0
    refine Rn.pu (g' := (mkF m 10 #[.val (.int p0), .val (.int p1), .val (.int p2), .val (.int p3), .val (.int p4), .unset, .unset, .unset, .unset, .unset, .unset] [(.int (1 : Int32))])) ?_ st28
    refine Rn.pu (T' := T28) (g' := (mkF m 13 #[.val (.int p0), .val (.int p1), .val (.int p2), .val (.int p3), .val (.int p4), .unset, .unset, .unset, .unset, .unset, .unset] [])) ?_ fun _ zk => XS.ifNo H28.here hx rfl (hb hby at_10) rfl (z_eq_f (by decide)) zk
    refine Rn.pu (T' := T28) (g' := (mkF m 14 #[.val (.int p0), .val (.int p1), .val (.int p2), .val (.int p3), .val (.int p4), .unset, .unset, .unset, .unset, .unset, .unset] [(.int p0)])) ?_ fun _ zk => XS.iloadN H28.here hx rfl (hb hby at_13) rfl zk
    refine Rn.pu (T' := T28) (g' := (mkF m 15 #[.val (.int p0), .val (.int p1), .val (.int p2), .val (.int p3), .val (.int p4), .unset, .unset, .unset, .unset, .unset, .unset] [(.int p1), (.int p0)])) ?_ fun _ zk => XS.iloadN H28.here hx rfl (hb hby at_14) rfl zk
    refine Rn.pu (T' := T28) (g' := (mkF m 16 #[.val (.int p0), .val (.int p1), .val (.int p2), .val (.int p3), .val (.int p4), .unset, .unset, .unset, .unset, .unset, .unset] [(.int p2), (.int p1), (.int p0)])) ?_ fun _ zk => XS.iloadN H28.here hx rfl (hb hby at_15) rfl zk
    refine Rn.pu (T' := T28) (g' := (mkF m 17 #[.val (.int p0), .val (.int p1), .val (.int p2), .val (.int p3), .val (.int p4), .unset, .unset, .unset, .unset, .unset, .unset] [(.int p3), (.int p2), (.int p1), (.int p0)])) ?_ fun _ zk => XS.iloadN H28.here hx rfl (hb hby at_16) rfl zk
    refine Rn.pu (T' := T28) (g' := (mkF m 19 #[.val (.int p0), .val (.int p1), .val (.int p2), .val (.int p3), .val (.int p4), .unset, .unset, .unset, .unset, .unset, .unset] [(.int p4), (.int p3), (.int p2), (.int p1), (.int p0)])) ?_ fun _ zk => XS.iload H28.here hx rfl (hb hby at_17) rfl zk
    refine Rn.pu (T' := T28) (g' := (mkF m 20 #[.val (.int p0), .val (.int p1), .val (.int p2), .val (.int p3), .val (.int p4), .unset, .unset, .unset, .unset, .unset, .unset] [(.int (1 : Int32)), (.int p4), (.int p3), (.int p2), (.int p1), (.int p0)])) ?_ fun _ zk => XS.iconst H28.here hx rfl (hb hby at_19) zk
    by_cases q20_29 : own_left p0 p2 p4 (1 : Int32) = own_right p0 p1 p2 p3 p4 (1 : Int32)
    ·
      obtain ⟨_, T30, h30, H30, ⟨rfl, rfl⟩, -, st30⟩ := H28.callS (hw _ (List.mem_of_getElem? (i := 0) rfl)) (hw _ (List.mem_of_getElem? (i := 1) rfl)) (hw _ (List.mem_of_getElem? (i := 2) rfl)) (hw _ (List.mem_of_getElem? (i := 3) rfl)) (by decide) (MetN.pay (W := 0) (c_smY l ⟨hw, S0, hz0⟩ p0 p1 p2 p3 p4 (1 : Int32) h0 H28.old q20_29) (hw _ (List.mem_of_getElem? (i := 3) rfl)) (hw _ (List.mem_of_getElem? (i := 2) rfl)) (by decide) (by decide)) (g := (mkF m 20 #[.val (.int p0), .val (.int p1), .val (.int p2), .val (.int p3), .val (.int p4), .unset, .unset, .unset, .unset, .unset, .unset] [(.int (1 : Int32)), (.int p4), (.int p3), (.int p2), (.int p1), (.int p0)])) rfl (by rw [hml]; rfl) (argsL := [(.int p0), (.int p1), (.int p2), (.int p3), (.int p4), (.int (1 : Int32))]) (rest := []) (lenOf pd__IIIIII_Z rfl) rfl rfl (Nat.le_of_eq rfl) (hb hby at_20) (by decide) (by decide) all0
      refine Rn.pu (g' := (mkF m 23 #[.val (.int p0), .val (.int p1), .val (.int p2), .val (.int p3), .val (.int p4), .unset, .unset, .unset, .unset, .unset, .unset] [(.int (1 : Int32))])) ?_ st30
      refine Rn.pu (T' := T30) (g' := (mkF m 26 #[.val (.int p0), .val (.int p1), .val (.int p2), .val (.int p3), .val (.int p4), .unset, .unset, .unset, .unset, .unset, .unset] [])) ?_ fun _ zk => XS.ifNo H30.here hx rfl (hb hby at_23) rfl (z_eq_f (by decide)) zk
      refine Rn.pu (T' := T30) (g' := (mkF m 27 #[.val (.int p0), .val (.int p1), .val (.int p2), .val (.int p3), .val (.int p4), .unset, .unset, .unset, .unset, .unset, .unset] [(.int p0)])) ?_ fun _ zk => XS.iloadN H30.here hx rfl (hb hby at_26) rfl zk
      refine Rn.pu (T' := T30) (g' := (mkF m 28 #[.val (.int p0), .val (.int p1), .val (.int p2), .val (.int p3), .val (.int p4), .unset, .unset, .unset, .unset, .unset, .unset] [(.int p1), (.int p0)])) ?_ fun _ zk => XS.iloadN H30.here hx rfl (hb hby at_27) rfl zk
      refine Rn.pu (T' := T30) (g' := (mkF m 29 #[.val (.int p0), .val (.int p1), .val (.int p2), .val (.int p3), .val (.int p4), .unset, .unset, .unset, .unset, .unset, .unset] [(.int p2), (.int p1), (.int p0)])) ?_ fun _ zk => XS.iloadN H30.here hx rfl (hb hby at_28) rfl zk
      refine Rn.pu (T' := T30) (g' := (mkF m 30 #[.val (.int p0), .val (.int p1), .val (.int p2), .val (.int p3), .val (.int p4), .unset, .unset, .unset, .unset, .unset, .unset] [(.int p3), (.int p2), (.int p1), (.int p0)])) ?_ fun _ zk => XS.iloadN H30.here hx rfl (hb hby at_29) rfl zk
      refine Rn.pu (T' := T30) (g' := (mkF m 32 #[.val (.int p0), .val (.int p1), .val (.int p2), .val (.int p3), .val (.int p4), .unset, .unset, .unset, .unset, .unset, .unset] [(.int p4), (.int p3), (.int p2), (.int p1), (.int p0)])) ?_ fun _ zk => XS.iload H30.here hx rfl (hb hby at_30) rfl zk
      refine Rn.pu (T' := T30) (g' := (mkF m 33 #[.val (.int p0), .val (.int p1), .val (.int p2), .val (.int p3), .val (.int p4), .unset, .unset, .unset, .unset, .unset, .unset] [(.int (2 : Int32)), (.int p4), (.int p3), (.int p2), (.int p1), (.int p0)])) ?_ fun _ zk => XS.iconst H30.here hx rfl (hb hby at_32) zk
      by_cases q33_31 : own_left p0 p2 p4 (2 : Int32) = own_right p0 p1 p2 p3 p4 (2 : Int32)
      ·
        obtain ⟨_, T32, h32, H32, ⟨rfl, rfl⟩, -, st32⟩ := H30.callS (hw _ (List.mem_of_getElem? (i := 0) rfl)) (hw _ (List.mem_of_getElem? (i := 1) rfl)) (hw _ (List.mem_of_getElem? (i := 2) rfl)) (hw _ (List.mem_of_getElem? (i := 3) rfl)) (by decide) (MetN.pay (W := 0) (c_smY l ⟨hw, S0, hz0⟩ p0 p1 p2 p3 p4 (2 : Int32) h0 H30.old q33_31) (hw _ (List.mem_of_getElem? (i := 3) rfl)) (hw _ (List.mem_of_getElem? (i := 2) rfl)) (by decide) (by decide)) (g := (mkF m 33 #[.val (.int p0), .val (.int p1), .val (.int p2), .val (.int p3), .val (.int p4), .unset, .unset, .unset, .unset, .unset, .unset] [(.int (2 : Int32)), (.int p4), (.int p3), (.int p2), (.int p1), (.int p0)])) rfl (by rw [hml]; rfl) (argsL := [(.int p0), (.int p1), (.int p2), (.int p3), (.int p4), (.int (2 : Int32))]) (rest := []) (lenOf pd__IIIIII_Z rfl) rfl rfl (Nat.le_of_eq rfl) (hb hby at_33) (by decide) (by decide) all0
        refine Rn.pu (g' := (mkF m 36 #[.val (.int p0), .val (.int p1), .val (.int p2), .val (.int p3), .val (.int p4), .unset, .unset, .unset, .unset, .unset, .unset] [(.int (1 : Int32))])) ?_ st32
        refine Rn.pu (T' := T32) (g' := (mkF m 39 #[.val (.int p0), .val (.int p1), .val (.int p2), .val (.int p3), .val (.int p4), .unset, .unset, .unset, .unset, .unset, .unset] [])) ?_ fun _ zk => XS.ifNo H32.here hx rfl (hb hby at_36) rfl (z_eq_f (by decide)) zk
        refine Rn.pu (T' := T32) (g' := (mkF m 40 #[.val (.int p0), .val (.int p1), .val (.int p2), .val (.int p3), .val (.int p4), .unset, .unset, .unset, .unset, .unset, .unset] [(.int p0)])) ?_ fun _ zk => XS.iloadN H32.here hx rfl (hb hby at_39) rfl zk
        refine Rn.pu (T' := T32) (g' := (mkF m 41 #[.val (.int p0), .val (.int p1), .val (.int p2), .val (.int p3), .val (.int p4), .unset, .unset, .unset, .unset, .unset, .unset] [(.int p1), (.int p0)])) ?_ fun _ zk => XS.iloadN H32.here hx rfl (hb hby at_40) rfl zk
        refine Rn.pu (T' := T32) (g' := (mkF m 42 #[.val (.int p0), .val (.int p1), .val (.int p2), .val (.int p3), .val (.int p4), .unset, .unset, .unset, .unset, .unset, .unset] [(.int p2), (.int p1), (.int p0)])) ?_ fun _ zk => XS.iloadN H32.here hx rfl (hb hby at_41) rfl zk
        refine Rn.pu (T' := T32) (g' := (mkF m 43 #[.val (.int p0), .val (.int p1), .val (.int p2), .val (.int p3), .val (.int p4), .unset, .unset, .unset, .unset, .unset, .unset] [(.int p3), (.int p2), (.int p1), (.int p0)])) ?_ fun _ zk => XS.iloadN H32.here hx rfl (hb hby at_42) rfl zk
        refine Rn.pu (T' := T32) (g' := (mkF m 45 #[.val (.int p0), .val (.int p1), .val (.int p2), .val (.int p3), .val (.int p4), .unset, .unset, .unset, .unset, .unset, .unset] [(.int p4), (.int p3), (.int p2), (.int p1), (.int p0)])) ?_ fun _ zk => XS.iload H32.here hx rfl (hb hby at_43) rfl zk
        refine Rn.pu (T' := T32) (g' := (mkF m 46 #[.val (.int p0), .val (.int p1), .val (.int p2), .val (.int p3), .val (.int p4), .unset, .unset, .unset, .unset, .unset, .unset] [(.int (3 : Int32)), (.int p4), (.int p3), (.int p2), (.int p1), (.int p0)])) ?_ fun _ zk => XS.iconst H32.here hx rfl (hb hby at_45) zk
        by_cases q46_33 : own_left p0 p2 p4 (3 : Int32) = own_right p0 p1 p2 p3 p4 (3 : Int32)
        ·
          obtain ⟨_, T34, h34, H34, ⟨rfl, rfl⟩, -, st34⟩ := H32.callS (hw _ (List.mem_of_getElem? (i := 0) rfl)) (hw _ (List.mem_of_getElem? (i := 1) rfl)) (hw _ (List.mem_of_getElem? (i := 2) rfl)) (hw _ (List.mem_of_getElem? (i := 3) rfl)) (by decide) (MetN.pay (W := 0) (c_smY l ⟨hw, S0, hz0⟩ p0 p1 p2 p3 p4 (3 : Int32) h0 H32.old q46_33) (hw _ (List.mem_of_getElem? (i := 3) rfl)) (hw _ (List.mem_of_getElem? (i := 2) rfl)) (by decide) (by decide)) (g := (mkF m 46 #[.val (.int p0), .val (.int p1), .val (.int p2), .val (.int p3), .val (.int p4), .unset, .unset, .unset, .unset, .unset, .unset] [(.int (3 : Int32)), (.int p4), (.int p3), (.int p2), (.int p1), (.int p0)])) rfl (by rw [hml]; rfl) (argsL := [(.int p0), (.int p1), (.int p2), (.int p3), (.int p4), (.int (3 : Int32))]) (rest := []) (lenOf pd__IIIIII_Z rfl) rfl rfl (Nat.le_of_eq rfl) (hb hby at_46) (by decide) (by decide) all0
          refine Rn.pu (g' := (mkF m 49 #[.val (.int p0), .val (.int p1), .val (.int p2), .val (.int p3), .val (.int p4), .unset, .unset, .unset, .unset, .unset, .unset] [(.int (1 : Int32))])) ?_ st34
          refine Rn.pu (T' := T34) (g' := (mkF m 52 #[.val (.int p0), .val (.int p1), .val (.int p2), .val (.int p3), .val (.int p4), .unset, .unset, .unset, .unset, .unset, .unset] [])) ?_ fun _ zk => XS.ifNo H34.here hx rfl (hb hby at_49) rfl (z_eq_f (by decide)) zk
          refine Rn.pu (T' := T34) (g' := (mkF m 53 #[.val (.int p0), .val (.int p1), .val (.int p2), .val (.int p3), .val (.int p4), .unset, .unset, .unset, .unset, .unset, .unset] [(.int (1 : Int32))])) ?_ fun _ zk => XS.iconst H34.here hx rfl (hb hby at_52) zk
          refine Rn.pu (T' := T34) (g' := (mkF m 57 #[.val (.int p0), .val (.int p1), .val (.int p2), .val (.int p3), .val (.int p4), .unset, .unset, .unset, .unset, .unset, .unset] [(.int (1 : Int32))])) ?_ fun _ zk => XS.goto H34.here hx rfl (pc0 := 53) (pc' := 57) rfl (hb hby at_53) (by decide) (by decide) zk
          exact J57 _ _ H34 (Or.inl ⟨rfl, q7_27, q20_29, q33_31, q46_33⟩)
        ·
          obtain ⟨_, T35, h35, H35, ⟨rfl, rfl⟩, -, st35⟩ := H32.callS (hw _ (List.mem_of_getElem? (i := 0) rfl)) (hw _ (List.mem_of_getElem? (i := 1) rfl)) (hw _ (List.mem_of_getElem? (i := 2) rfl)) (hw _ (List.mem_of_getElem? (i := 3) rfl)) (by decide) (MetN.pay (W := 0) (c_smN l ⟨hw, S0, hz0⟩ p0 p1 p2 p3 p4 (3 : Int32) h0 H32.old q46_33) (hw _ (List.mem_of_getElem? (i := 3) rfl)) (hw _ (List.mem_of_getElem? (i := 2) rfl)) (by decide) (by decide)) (g := (mkF m 46 #[.val (.int p0), .val (.int p1), .val (.int p2), .val (.int p3), .val (.int p4), .unset, .unset, .unset, .unset, .unset, .unset] [(.int (3 : Int32)), (.int p4), (.int p3), (.int p2), (.int p1), (.int p0)])) rfl (by rw [hml]; rfl) (argsL := [(.int p0), (.int p1), (.int p2), (.int p3), (.int p4), (.int (3 : Int32))]) (rest := []) (lenOf pd__IIIIII_Z rfl) rfl rfl (Nat.le_of_eq rfl) (hb hby at_46) (by decide) (by decide) all0
          refine Rn.pu (g' := (mkF m 49 #[.val (.int p0), .val (.int p1), .val (.int p2), .val (.int p3), .val (.int p4), .unset, .unset, .unset, .unset, .unset, .unset] [(.int (0 : Int32))])) ?_ st35
          refine Rn.pu (T' := T35) (g' := (mkF m 56 #[.val (.int p0), .val (.int p1), .val (.int p2), .val (.int p3), .val (.int p4), .unset, .unset, .unset, .unset, .unset, .unset] [])) ?_ fun _ zk => XS.ifYes H35.here hx rfl (pc0 := 49) (pc' := 56) rfl (hb hby at_49) rfl (z_eq_t rfl) (by decide) (by decide) zk
          refine Rn.pu (T' := T35) (g' := (mkF m 57 #[.val (.int p0), .val (.int p1), .val (.int p2), .val (.int p3), .val (.int p4), .unset, .unset, .unset, .unset, .unset, .unset] [(.int (0 : Int32))])) ?_ fun _ zk => XS.iconst H35.here hx rfl (hb hby at_56) zk
          exact J57 _ _ H35 (Or.inr ⟨rfl, fun r => q46_33 r.2.2.2⟩)
      ·
        obtain ⟨_, T36, h36, H36, ⟨rfl, rfl⟩, -, st36⟩ := H30.callS (hw _ (List.mem_of_getElem? (i := 0) rfl)) (hw _ (List.mem_of_getElem? (i := 1) rfl)) (hw _ (List.mem_of_getElem? (i := 2) rfl)) (hw _ (List.mem_of_getElem? (i := 3) rfl)) (by decide) (MetN.pay (W := 0) (c_smN l ⟨hw, S0, hz0⟩ p0 p1 p2 p3 p4 (2 : Int32) h0 H30.old q33_31) (hw _ (List.mem_of_getElem? (i := 3) rfl)) (hw _ (List.mem_of_getElem? (i := 2) rfl)) (by decide) (by decide)) (g := (mkF m 33 #[.val (.int p0), .val (.int p1), .val (.int p2), .val (.int p3), .val (.int p4), .unset, .unset, .unset, .unset, .unset, .unset] [(.int (2 : Int32)), (.int p4), (.int p3), (.int p2), (.int p1), (.int p0)])) rfl (by rw [hml]; rfl) (argsL := [(.int p0), (.int p1), (.int p2), (.int p3), (.int p4), (.int (2 : Int32))]) (rest := []) (lenOf pd__IIIIII_Z rfl) rfl rfl (Nat.le_of_eq rfl) (hb hby at_33) (by decide) (by decide) all0
        refine Rn.pu (g' := (mkF m 36 #[.val (.int p0), .val (.int p1), .val (.int p2), .val (.int p3), .val (.int p4), .unset, .unset, .unset, .unset, .unset, .unset] [(.int (0 : Int32))])) ?_ st36
        refine Rn.pu (T' := T36) (g' := (mkF m 56 #[.val (.int p0), .val (.int p1), .val (.int p2), .val (.int p3), .val (.int p4), .unset, .unset, .unset, .unset, .unset, .unset] [])) ?_ fun _ zk => XS.ifYes H36.here hx rfl (pc0 := 36) (pc' := 56) rfl (hb hby at_36) rfl (z_eq_t rfl) (by decide) (by decide) zk
        refine Rn.pu (T' := T36) (g' := (mkF m 57 #[.val (.int p0), .val (.int p1), .val (.int p2), .val (.int p3), .val (.int p4), .unset, .unset, .unset, .unset, .unset, .unset] [(.int (0 : Int32))])) ?_ fun _ zk => XS.iconst H36.here hx rfl (hb hby at_56) zk
        exact J57 _ _ H36 (Or.inr ⟨rfl, fun r => q33_31 r.2.2.1⟩)
    ·
      obtain ⟨_, T37, h37, H37, ⟨rfl, rfl⟩, -, st37⟩ := H28.callS (hw _ (List.mem_of_getElem? (i := 0) rfl)) (hw _ (List.mem_of_getElem? (i := 1) rfl)) (hw _ (List.mem_of_getElem? (i := 2) rfl)) (hw _ (List.mem_of_getElem? (i := 3) rfl)) (by decide) (MetN.pay (W := 0) (c_smN l ⟨hw, S0, hz0⟩ p0 p1 p2 p3 p4 (1 : Int32) h0 H28.old q20_29) (hw _ (List.mem_of_getElem? (i := 3) rfl)) (hw _ (List.mem_of_getElem? (i := 2) rfl)) (by decide) (by decide)) (g := (mkF m 20 #[.val (.int p0), .val (.int p1), .val (.int p2), .val (.int p3), .val (.int p4), .unset, .unset, .unset, .unset, .unset, .unset] [(.int (1 : Int32)), (.int p4), (.int p3), (.int p2), (.int p1), (.int p0)])) rfl (by rw [hml]; rfl) (argsL := [(.int p0), (.int p1), (.int p2), (.int p3), (.int p4), (.int (1 : Int32))]) (rest := []) (lenOf pd__IIIIII_Z rfl) rfl rfl (Nat.le_of_eq rfl) (hb hby at_20) (by decide) (by decide) all0
      refine Rn.pu (g' := (mkF m 23 #[.val (.int p0), .val (.int p1), .val (.int p2), .val (.int p3), .val (.int p4), .unset, .unset, .unset, .unset, .unset, .unset] [(.int (0 : Int32))])) ?_ st37
      refine Rn.pu (T' := T37) (g' := (mkF m 56 #[.val (.int p0), .val (.int p1), .val (.int p2), .val (.int p3), .val (.int p4), .unset, .unset, .unset, .unset, .unset, .unset] [])) ?_ fun _ zk => XS.ifYes H37.here hx rfl (pc0 := 23) (pc' := 56) rfl (hb hby at_23) rfl (z_eq_t rfl) (by decide) (by decide) zk
      refine Rn.pu (T' := T37) (g' := (mkF m 57 #[.val (.int p0), .val (.int p1), .val (.int p2), .val (.int p3), .val (.int p4), .unset, .unset, .unset, .unset, .unset, .unset] [(.int (0 : Int32))])) ?_ fun _ zk => XS.iconst H37.here hx rfl (hb hby at_56) zk
      exact J57 _ _ H37 (Or.inr ⟨rfl, fun r => q20_29 r.2.1⟩)
  ·
    obtain ⟨_, T38, h38, H38, ⟨rfl, rfl⟩, -, st38⟩ := H0.callS (hw _ (List.mem_of_getElem? (i := 0) rfl)) (hw _ (List.mem_of_getElem? (i := 1) rfl)) (hw _ (List.mem_of_getElem? (i := 2) rfl)) (hw _ (List.mem_of_getElem? (i := 3) rfl)) (by decide) (MetN.pay (W := 0) (c_smN l ⟨hw, S0, hz0⟩ p0 p1 p2 p3 p4 (0 : Int32) h0 H0.old q7_27) (hw _ (List.mem_of_getElem? (i := 3) rfl)) (hw _ (List.mem_of_getElem? (i := 2) rfl)) (by decide) (by decide)) (g := (mkF m 7 #[.val (.int p0), .val (.int p1), .val (.int p2), .val (.int p3), .val (.int p4), .unset, .unset, .unset, .unset, .unset, .unset] [(.int (0 : Int32)), (.int p4), (.int p3), (.int p2), (.int p1), (.int p0)])) rfl (by rw [hml]; rfl) (argsL := [(.int p0), (.int p1), (.int p2), (.int p3), (.int p4), (.int (0 : Int32))]) (rest := []) (lenOf pd__IIIIII_Z rfl) rfl rfl (Nat.le_of_eq rfl) (hb hby at_7) (by decide) (by decide) all0
    refine Rn.pu (g' := (mkF m 10 #[.val (.int p0), .val (.int p1), .val (.int p2), .val (.int p3), .val (.int p4), .unset, .unset, .unset, .unset, .unset, .unset] [(.int (0 : Int32))])) ?_ st38
    refine Rn.pu (T' := T38) (g' := (mkF m 56 #[.val (.int p0), .val (.int p1), .val (.int p2), .val (.int p3), .val (.int p4), .unset, .unset, .unset, .unset, .unset, .unset] [])) ?_ fun _ zk => XS.ifYes H38.here hx rfl (pc0 := 10) (pc' := 56) rfl (hb hby at_10) rfl (z_eq_t rfl) (by decide) (by decide) zk
    refine Rn.pu (T' := T38) (g' := (mkF m 57 #[.val (.int p0), .val (.int p1), .val (.int p2), .val (.int p3), .val (.int p4), .unset, .unset, .unset, .unset, .unset, .unset] [(.int (0 : Int32))])) ?_ fun _ zk => XS.iconst H38.here hx rfl (hb hby at_56) zk
    exact J57 _ _ H38 (Or.inr ⟨rfl, fun r => q7_27 r.1⟩)
set_option maxRecDepth 65536 in
set_option maxHeartbeats 40000000 in
theorem comes_1 {Post : Tables → Env → Array Value → State → Outcome → State → Prop} (hpost : ∀ tb e args s v u, (limb_1_1.after args s (.returned v) u = true ∧ limb_1_2.after args s (.returned v) u = true ∧ True) → ReturnedEndW s (.returned v) u (Jvm.fieldLocs frame_1_writes args s ++ Jvm.arrayLocs frame_1_arrays args s ++ Jvm.staticLocs frame_1_statics s) 80 5376 → Post tb e args s (.returned v) u) :
    ArmFor flags0 classFile x code maxLocals ret World_1 tables_1 room_1 Calls_1 rest_1 Pre_1 Post := by
  intro l hfl _ _ p e ha hc hk s m args below hf hA hF happ hP
  obtain ⟨hcalls, hrest, hpre⟩ := hP
  obtain ⟨-, -, -, hnamed, -, -, -, hat⟩ := (Spec.applies_iff hf).mp happ
  obtain ⟨hg, hn⟩ := and_e (Cond.before_iff.mp (show (Jvm.Cond.and given_1 narrow_1).before args s = true from hpre))
  obtain ⟨hcount, g0⟩ := and_e hg
  obtain ⟨i0, g1⟩ := and_e g0
  obtain ⟨i1, g2⟩ := and_e g1
  obtain ⟨i2, g3⟩ := and_e g2
  obtain ⟨i3, g4⟩ := and_e g3
  obtain ⟨w0, w1, w2, w3, w4, rfl⟩ : ∃ w0 w1 w2 w3 w4 : Value, args = #[w0, w1, w2, w3, w4] := by
    have hs : args.size = 5 := by simpa [Cond.value, given_1] using hcount
    obtain ⟨L⟩ := args
    match L, hs with
    | [w0, w1, w2, w3, w4], _ => exact ⟨w0, w1, w2, w3, w4, rfl⟩
  have hw := fun d (hd : d ∈ tables_1) => atoms_spec (ws := Jvm.Cond.code x code maxLocals ret :: tables_1) hat d (List.mem_cons_of_mem _ hd)
  obtain ⟨hsets, hown0⟩ := atoms_of _ (rest_1_c_eq ▸ (show rest_1_c.before _ s = true from hrest))
  have hfit : Fit s := fun {y c} hc i hi => by
    obtain ⟨ha, rfl⟩ := Array.getElem?_eq_some_iff.mp hc
    have q := List.all_eq_true.mp ((Array.all_eq_true_iff_forall_mem.mp hF) _ (Array.getElem_mem ha)) i (List.mem_range.mpr hi)
    simpa [Array.getElem?_eq_getElem hi] using q
  obtain ⟨p0, ep0⟩ := is_v i0
  obtain rfl : w0 = (.int p0) := Option.some.inj ep0
  obtain ⟨p1, ep1⟩ := is_v i1
  obtain rfl : w1 = (.int p1) := Option.some.inj ep1
  obtain ⟨p2, ep2⟩ := is_v i2
  obtain rfl : w2 = (.int p2) := Option.some.inj ep2
  obtain ⟨p3, ep3⟩ := is_v i3
  obtain rfl : w3 = (.int p3) := Option.some.inj ep3
  obtain ⟨p4, ep4⟩ := is_v g4
  obtain rfl : w4 = (.int p4) := Option.some.inj ep4
  obtain ⟨zc, ezc⟩ := is_v (Cond.before_iff.mp (hsets _ (List.mem_of_getElem? (i := 1) rfl)))
  have S0 : Sta s s.heap "java/lang/String" "COMPACT_STRINGS" "Z" (.int zc) := Sta.start ezc (Or.inl (hsets _ (List.mem_of_getElem? (i := 0) rfl)))
  have hz0 : ¬ (zc = (0 : Int32)) := gotF (Cond.eq_ints ezc (Term.int_eval (0))) (not_v (Cond.before_iff.mp (hsets _ (List.mem_of_getElem? (i := 2) rfl))))
  obtain ⟨fm, efm, rf1⟩ := isR_v (Cond.before_iff.mp (hsets _ (List.mem_of_getElem? (i := 8) rfl)))
  have S1 : Sta s s.heap "jdk/internal/util/Preconditions" "SIOOBE_FORMATTER" "Ljava/util/function/BiFunction;" fm := Sta.start efm (Or.inl (hsets _ (List.mem_of_getElem? (i := 7) rfl)))
  obtain ⟨n, o, h1, h2, h3, _, L, rfl, ⟨rfl, N, -⟩, hq⟩ := c_law l (Z := s) ⟨hw, S0, hz0⟩ p0 p1 p2 p3 p4 p e ha hc hk s m _ below hf ((Spec.applies_iff_loose hf).mp happ).1 ⟨rfl, State.Warmed39.refl s, rfl, trivial⟩ trivial
  have N' : ∀ y ∈ L, s.heap.size ≤ y.base := fun y hy => (N y hy).elim (fun q => nomatch q) id
  refine ⟨n, _, h1, h2, h3, hpost _ _ _ _ _ _ ⟨Cond.after_iff.mpr rfl, Cond.after_iff.mpr (eq_i res_at (Term.int_eval (1)) rfl), trivial⟩ ⟨hq.1, hq.2.1, hq.2.2.1, (hq.2.2.2.sift fun y hy => Or.inr (N' y hy)).mono (by decide) (by decide)⟩⟩
theorem main_1_1 : Claimed_1_1 := comes_1 fun _ _ _ _ _ _ h hF => ⟨h.1, hF⟩
theorem main_1_2 : Claimed_1_2 := comes_1 fun _ _ _ _ _ _ h hF => ⟨h.2.1, hF⟩
end Jvm.Pilot.@@N@@
namespace Jvm.Pilot.@@N@@
open Jvm Jvm.ClassFile Sem Op Lib Jvm.Free Jvm.Stand Jvm.Pilot.@@N@@.Jvm.D
/-! MADE BY PROGRAM (witnessworld.py) out of the Statement's table words and the real class files: 22 classes; the members and pool entries that the words name. The judged class is class 1, her method 10. -/
namespace start1
open Jvm.ClassFile
def u (s : String) : CpInfo := .utf8 (stringToUtf16 s)
/-- a pool by its gaps: so many unusable entries, then the entry; so many at the end -/
def gap : Nat → List CpInfo → List CpInfo
  | 0, r => r
  | n + 1, r => .unusable :: gap n r
def poolList (es : List (Nat × CpInfo)) (last : Nat) : List CpInfo := es.foldr (fun e r => gap e.1 (e.2 :: r)) (gap last [])
def pool (es : List (Nat × CpInfo)) (last : Nat) : Array CpInfo := ⟨poolList es last⟩
def fileOf (pool : Array CpInfo) (this : Nat) (attrs : Array Attribute := #[]) (ms : Array MethodInfo := #[]) (fl : Nat := 33) (sup : Nat := 0) (ifs : Array Nat := #[]) (fds : Array FieldInfo := #[]) : ClassFile where
  minorVersion := 0
  majorVersion := 65
  constantPool := pool
  accessFlags := fl
  thisClass := this
  superClass := sup
  interfaces := ifs
  fields := fds
  methods := ms
  attributes := attrs
def plain (name : String) (sup : Option ClassId) : Class where
  name := name
  kind := .ordinary
  loader := none
  accessFlags := 33
  super := sup
  interfaces := #[]
  cf := none
  fields := #[]
  methods := #[]
  instanceTypes := #[]
  staticTypes := #[]
  resolved := #[]
  callSites := []
  init := .initialized
  statics := none
  mirror := none

def pool0 : Array CpInfo := pool [(5, u "<init>"), (0, u "()V"), (1, .class_ 10), (1, u "java/lang/Object")] 113

def k0c0 : Code := { maxStack := 0, maxLocals := 1, code := object_method_1_code, exceptionTable := #[], attributes := #[] }
def k0m0 : Method := { name := "<init>", desc := "()V", sig := { parameters := [], returnType := none }, accessFlags := 1, code := some k0c0 }
/-- java/lang/Object -/
def k0 : Class := { plain "java/lang/Object" none with
  accessFlags := 33
  interfaces := #[]
  cf := some (fileOf pool0 8 #[] #[{ accessFlags := 1, nameIndex := 5, descriptorIndex := 6, attributes := #[] }] 33 0 #[] #[])
  fields := #[]
  methods := #[k0m0]
  instanceTypes := #[]
  staticTypes := #[]
  resolved := Array.replicate 124 none
  statics := none }

def pool1 : Array CpInfo := pool [(2, .class_ 4), (1, u "java/lang/Object"), (0, u "<init>"), (0, u "()V"), (0, .class_ 8), (0, u "java/lang/String"), (0, .methodref 7 10), (0, .nameAndType 5 11), (0, u "([C)V"), (0, .methodref 13 14), (0, .class_ 15), (0, .nameAndType 16 17), (0, u "com/example/timely_errand/timelyerrand/engine/JobIdEqualsPinLaw"), (0, u "bit"), (0, u "(II)Z"), (0, .methodref 13 19), (0, .nameAndType 20 21), (0, u "byteAt"), (0, u "(II)I"), (0, .methodref 13 23), (0, .nameAndType 24 25), (0, u "str"), (0, u "(IIZ)Ljava/lang/String;"), (0, .methodref 13 27), (0, .nameAndType 28 29), (0, u "rc1"), (0, u "(IIII)I"), (0, .methodref 13 31), (0, .nameAndType 32 29), (0, u "rc2"), (0, .methodref 13 34), (0, .nameAndType 35 17), (0, u "rtwo"), (0, .methodref 13 37), (0, .nameAndType 38 39), (0, u "same"), (0, u "(IIIIII)Z"), (0, .class_ 41), (0, u "com/example/timely_errand/timelyerrand/engine/JobCollectionId"), (0, .methodref 13 43), (0, .nameAndType 44 45), (0, u "left"), (0, u "(IIII)Ljava/lang/String;"), (0, .methodref 40 47), (0, .nameAndType 5 48), (0, u "(Ljava/lang/String;Ljava/lang/String;Ljava/lang/String;)V"), (0, .class_ 50), (0, u "com/example/timely_errand/timelyerrand/engine/JobId"), (0, .methodref 49 52), (0, .nameAndType 5 53), (0, u "(Lcom/example/timely_errand/timelyerrand/engine/JobCollectionId;Ljava/lang/String;)V"), (0, .methodref 13 55), (0, .nameAndType 56 57), (0, u "right"), (0, u "(IIIIII)Ljava/lang/String;"), (0, .methodref 49 59), (0, .nameAndType 60 61), (0, u "equals"), (0, u "(Ljava/lang/Object;)Z"), (3, u "law"), (0, u "(IIIII)Z")] 2

def k1m0 : Method := { name := "<init>", desc := "()V", sig := { parameters := [], returnType := none }, accessFlags := 1, code := none }
def k1c1 : Code := { maxStack := 3, maxLocals := 2, code := method_2_code, exceptionTable := #[], attributes := #[] }
def k1m1 : Method := { name := "byteAt", desc := "(II)I", sig := { parameters := [.int, .int], returnType := some .int }, accessFlags := 10, code := some k1c1 }
def k1c2 : Code := { maxStack := 2, maxLocals := 2, code := method_3_code, exceptionTable := #[], attributes := #[] }
def k1m2 : Method := { name := "bit", desc := "(II)Z", sig := { parameters := [.int, .int], returnType := some .boolean }, accessFlags := 10, code := some k1c2 }
def k1c3 : Code := { maxStack := 6, maxLocals := 3, code := method_4_code, exceptionTable := #[], attributes := #[] }
def k1m3 : Method := { name := "str", desc := "(IIZ)Ljava/lang/String;", sig := { parameters := [.int, .int, .boolean], returnType := some (.object "java/lang/String") }, accessFlags := 10, code := some k1c3 }
def k1c4 : Code := { maxStack := 2, maxLocals := 4, code := method_5_code, exceptionTable := #[], attributes := #[] }
def k1m4 : Method := { name := "rc1", desc := "(IIII)I", sig := { parameters := [.int, .int, .int, .int], returnType := some .int }, accessFlags := 10, code := some k1c4 }
def k1c5 : Code := { maxStack := 3, maxLocals := 4, code := method_6_code, exceptionTable := #[], attributes := #[] }
def k1m5 : Method := { name := "rc2", desc := "(IIII)I", sig := { parameters := [.int, .int, .int, .int], returnType := some .int }, accessFlags := 10, code := some k1c5 }
def k1c6 : Code := { maxStack := 3, maxLocals := 2, code := method_7_code, exceptionTable := #[], attributes := #[] }
def k1m6 : Method := { name := "rtwo", desc := "(II)Z", sig := { parameters := [.int, .int], returnType := some .boolean }, accessFlags := 10, code := some k1c6 }
def k1c7 : Code := { maxStack := 5, maxLocals := 4, code := method_8_code, exceptionTable := #[], attributes := #[] }
def k1m7 : Method := { name := "left", desc := "(IIII)Ljava/lang/String;", sig := { parameters := [.int, .int, .int, .int], returnType := some (.object "java/lang/String") }, accessFlags := 10, code := some k1c7 }
def k1c8 : Code := { maxStack := 5, maxLocals := 6, code := method_9_code, exceptionTable := #[], attributes := #[] }
def k1m8 : Method := { name := "right", desc := "(IIIIII)Ljava/lang/String;", sig := { parameters := [.int, .int, .int, .int, .int, .int], returnType := some (.object "java/lang/String") }, accessFlags := 10, code := some k1c8 }
def k1c9 : Code := { maxStack := 5, maxLocals := 8, code := method_10_code, exceptionTable := #[], attributes := #[] }
def k1m9 : Method := { name := "same", desc := "(IIIIII)Z", sig := { parameters := [.int, .int, .int, .int, .int, .int], returnType := some .boolean }, accessFlags := 10, code := some k1c9 }
def k1c10 : Code := { maxStack := 10, maxLocals := 11, code := code, exceptionTable := #[], attributes := #[] }
def k1m10 : Method := { name := "law", desc := "(IIIII)Z", sig := { parameters := [.int, .int, .int, .int, .int], returnType := some .boolean }, accessFlags := 9, code := some k1c10 }
/-- com/example/timely_errand/timelyerrand/engine/JobIdEqualsPinLaw -/
def k1 : Class := { plain "com/example/timely_errand/timelyerrand/engine/JobIdEqualsPinLaw" (some 0) with
  accessFlags := 49
  interfaces := #[]
  cf := some (fileOf pool1 13 #[] #[{ accessFlags := 1, nameIndex := 5, descriptorIndex := 6, attributes := #[] }, { accessFlags := 10, nameIndex := 20, descriptorIndex := 21, attributes := #[] }, { accessFlags := 10, nameIndex := 16, descriptorIndex := 17, attributes := #[] }, { accessFlags := 10, nameIndex := 24, descriptorIndex := 25, attributes := #[] }, { accessFlags := 10, nameIndex := 28, descriptorIndex := 29, attributes := #[] }, { accessFlags := 10, nameIndex := 32, descriptorIndex := 29, attributes := #[] }, { accessFlags := 10, nameIndex := 35, descriptorIndex := 17, attributes := #[] }, { accessFlags := 10, nameIndex := 44, descriptorIndex := 45, attributes := #[] }, { accessFlags := 10, nameIndex := 56, descriptorIndex := 57, attributes := #[] }, { accessFlags := 10, nameIndex := 38, descriptorIndex := 39, attributes := #[] }, { accessFlags := 9, nameIndex := 65, descriptorIndex := 66, attributes := #[] }] 49 2 #[] #[])
  fields := #[]
  methods := #[k1m0, k1m1, k1m2, k1m3, k1m4, k1m5, k1m6, k1m7, k1m8, k1m9, k1m10]
  instanceTypes := #[]
  staticTypes := #[]
  resolved := Array.replicate 69 none
  statics := none }

def pool2 : Array CpInfo := pool [(1, .methodref 2 3), (0, .class_ 4), (0, .nameAndType 5 6), (0, u "java/lang/Object"), (0, u "<init>"), (0, u "()V"), (0, .string 8), (0, u "subscriptionId"), (0, .methodref 10 11), (0, .class_ 12), (0, .nameAndType 13 14), (0, u "com/example/timely_errand/timelyerrand/engine/JobCollectionId"), (0, u "requireNonEmpty"), (0, u "(Ljava/lang/String;Ljava/lang/String;)Ljava/lang/String;"), (0, .fieldref 10 16), (0, .nameAndType 8 17), (0, u "Ljava/lang/String;"), (0, .string 19), (0, u "resourceGroupName"), (0, .fieldref 10 21), (0, .nameAndType 19 17), (0, .string 23), (0, u "name"), (0, .fieldref 10 25), (0, .nameAndType 23 17), (4, .methodref 31 32), (0, .class_ 33), (0, .nameAndType 34 35), (0, u "java/lang/String"), (0, u "equals"), (0, u "(Ljava/lang/Object;)Z"), (10, .methodref 31 47), (0, .nameAndType 48 49), (0, u "isEmpty"), (0, u "()Z"), (8, u "(Ljava/lang/String;Ljava/lang/String;Ljava/lang/String;)V")] 25

def k2c0 : Code := { maxStack := 3, maxLocals := 4, code := prog_18_method_1_code, exceptionTable := #[], attributes := #[] }
def k2m0 : Method := { name := "<init>", desc := "(Ljava/lang/String;Ljava/lang/String;Ljava/lang/String;)V", sig := { parameters := [(.object "java/lang/String"), (.object "java/lang/String"), (.object "java/lang/String")], returnType := none }, accessFlags := 1, code := some k2c0 }
def k2c1 : Code := { maxStack := 2, maxLocals := 3, code := prog_18_method_6_code, exceptionTable := #[], attributes := #[] }
def k2m1 : Method := { name := "equals", desc := "(Ljava/lang/Object;)Z", sig := { parameters := [(.object "java/lang/Object")], returnType := some .boolean }, accessFlags := 1, code := some k2c1 }
def k2c2 : Code := { maxStack := 3, maxLocals := 2, code := prog_18_method_9_code, exceptionTable := #[], attributes := #[] }
def k2m2 : Method := { name := "requireNonEmpty", desc := "(Ljava/lang/String;Ljava/lang/String;)Ljava/lang/String;", sig := { parameters := [(.object "java/lang/String"), (.object "java/lang/String")], returnType := some (.object "java/lang/String") }, accessFlags := 8, code := some k2c2 }
/-- com/example/timely_errand/timelyerrand/engine/JobCollectionId -/
def k2 : Class := { plain "com/example/timely_errand/timelyerrand/engine/JobCollectionId" (some 0) with
  accessFlags := 49
  interfaces := #[]
  cf := some (fileOf pool2 10 #[] #[{ accessFlags := 1, nameIndex := 5, descriptorIndex := 58, attributes := #[] }, { accessFlags := 1, nameIndex := 34, descriptorIndex := 35, attributes := #[] }, { accessFlags := 8, nameIndex := 13, descriptorIndex := 14, attributes := #[] }] 49 2 #[] #[{ accessFlags := 18, nameIndex := 8, descriptorIndex := 17, attributes := #[] }, { accessFlags := 18, nameIndex := 19, descriptorIndex := 17, attributes := #[] }, { accessFlags := 18, nameIndex := 23, descriptorIndex := 17, attributes := #[] }])
  fields := #[{ name := "subscriptionId", type := (.object "java/lang/String"), accessFlags := 18, slot := 0, constantValue := 0 }, { name := "resourceGroupName", type := (.object "java/lang/String"), accessFlags := 18, slot := 1, constantValue := 0 }, { name := "name", type := (.object "java/lang/String"), accessFlags := 18, slot := 2, constantValue := 0 }]
  methods := #[k2m0, k2m1, k2m2]
  instanceTypes := #[(.object "java/lang/String"), (.object "java/lang/String"), (.object "java/lang/String")]
  staticTypes := #[]
  resolved := Array.replicate 84 none
  statics := none }

def pool3 : Array CpInfo := pool [(1, .class_ 2), (0, u "java/io/Serializable"), (0, .class_ 4), (0, u "java/lang/Object")] 2

/-- java/io/Serializable -/
def k3 : Class := { plain "java/io/Serializable" (some 0) with
  accessFlags := 1537
  interfaces := #[]
  cf := some (fileOf pool3 1 #[] #[] 1537 3 #[] #[])
  fields := #[]
  methods := #[]
  instanceTypes := #[]
  staticTypes := #[]
  resolved := Array.replicate 7 none
  statics := none }

def pool4 : Array CpInfo := pool [(1, .class_ 2), (0, u "java/lang/Comparable"), (0, .class_ 4), (0, u "java/lang/Object")] 7

/-- java/lang/Comparable -/
def k4 : Class := { plain "java/lang/Comparable" (some 0) with
  accessFlags := 1537
  interfaces := #[]
  cf := some (fileOf pool4 1 #[] #[] 1537 3 #[] #[])
  fields := #[]
  methods := #[]
  instanceTypes := #[]
  staticTypes := #[]
  resolved := Array.replicate 12 none
  statics := none }

def pool5 : Array CpInfo := pool [(2, .class_ 4), (1, u "java/lang/CharSequence"), (42, .class_ 48), (0, u "java/lang/CharSequence$1CodePointIterator"), (10, .class_ 60), (0, u "java/lang/CharSequence$1CharIterator"), (5, .class_ 67), (0, u "java/lang/Object")] 63

/-- java/lang/CharSequence -/
def k5 : Class := { plain "java/lang/CharSequence" (some 0) with
  accessFlags := 1537
  interfaces := #[]
  cf := some (fileOf pool5 2 #[.nestMembers #[47, 59]] #[] 1537 66 #[] #[])
  fields := #[]
  methods := #[]
  instanceTypes := #[]
  staticTypes := #[]
  resolved := Array.replicate 131 none
  statics := none }

def pool6 : Array CpInfo := pool [(1, .class_ 2), (0, u "java/lang/constant/Constable"), (0, .class_ 4), (0, u "java/lang/Object")] 6

/-- java/lang/constant/Constable -/
def k6 : Class := { plain "java/lang/constant/Constable" (some 0) with
  accessFlags := 1537
  interfaces := #[]
  cf := some (fileOf pool6 1 #[] #[] 1537 3 #[] #[])
  fields := #[]
  methods := #[]
  instanceTypes := #[]
  staticTypes := #[]
  resolved := Array.replicate 11 none
  statics := none }

def pool7 : Array CpInfo := pool [(1, .class_ 2), (0, u "java/lang/constant/ConstantDesc"), (0, .class_ 4), (0, u "java/lang/Object")] 32

/-- java/lang/constant/ConstantDesc -/
def k7 : Class := { plain "java/lang/constant/ConstantDesc" (some 0) with
  accessFlags := 1537
  interfaces := #[]
  cf := some (fileOf pool7 1 #[] #[] 1537 3 #[] #[])
  fields := #[]
  methods := #[]
  instanceTypes := #[]
  staticTypes := #[]
  resolved := Array.replicate 37 none
  statics := none }

def pool8 : Array CpInfo := pool [(1, .methodref 2 3), (0, .class_ 4), (0, .nameAndType 5 6), (0, u "java/lang/Object"), (0, u "<init>"), (0, u "()V"), (2, .fieldref 10 11), (0, .class_ 12), (0, .nameAndType 13 14), (0, u "java/lang/String"), (0, u "value"), (0, u "[B"), (0, .fieldref 10 16), (0, .nameAndType 17 18), (0, u "coder"), (0, u "B"), (2, u "hash"), (0, u "I"), (2, u "hashIsZero"), (0, u "Z"), (0, .methodref 10 28), (0, .nameAndType 5 29), (0, u "([CIILjava/lang/Void;)V"), (8, .fieldref 10 39), (0, .nameAndType 40 26), (0, u "COMPACT_STRINGS"), (1, .class_ 44), (1, u "java/lang/StringUTF16"), (0, u "compress"), (1, .methodref 42 48), (0, .nameAndType 49 50), (0, u "coderFromArrayLen"), (0, u "([BI)B"), (56, .class_ 109), (1, u "java/lang/StringLatin1"), (32, u "()Z"), (34, .methodref 42 178), (0, .nameAndType 45 179), (0, u "([CII)[B"), (361, .methodref 107 542), (0, .nameAndType 543 544), (0, u "equals"), (0, u "([B[B)Z"), (28, u "(Ljava/lang/Object;)Z"), (1, .class_ 576), (0, u "java/lang/CharSequence"), (22, u "CASE_INSENSITIVE_ORDER"), (0, u "Ljava/util/Comparator;"), (91, u "isEmpty"), (317, u "([C)V"), (90, u "serialPersistentFields"), (0, u "[Ljava/io/ObjectStreamField;"), (0, .class_ 1104), (0, u "java/lang/String$CaseInsensitiveComparator"), (1, .class_ 1107), (0, u "java/io/Serializable"), (0, .class_ 1109), (0, u "java/lang/Comparable"), (0, .class_ 1111), (0, u "java/lang/constant/Constable"), (0, .class_ 1113), (0, u "java/lang/constant/ConstantDesc"), (2, u "serialVersionUID"), (0, u "J"), (3, u "REPL"), (0, u "C"), (2, u "LATIN1"), (1, u "UTF16")] 323

def k8m0 : Method := { name := "<init>", desc := "()V", sig := { parameters := [], returnType := none }, accessFlags := 1, code := none }
def k8c1 : Code := { maxStack := 5, maxLocals := 2, code := jdk_42_method_3_code, exceptionTable := #[], attributes := #[] }
def k8m1 : Method := { name := "<init>", desc := "([C)V", sig := { parameters := [(.array .char)], returnType := none }, accessFlags := 1, code := some k8c1 }
def k8c2 : Code := { maxStack := 1, maxLocals := 1, code := jdk_42_method_55_code, exceptionTable := #[], attributes := #[] }
def k8m2 : Method := { name := "isEmpty", desc := "()Z", sig := { parameters := [], returnType := some .boolean }, accessFlags := 1, code := some k8c2 }
def k8c3 : Code := { maxStack := 2, maxLocals := 3, code := jdk_42_method_66_code, exceptionTable := #[], attributes := #[] }
def k8m3 : Method := { name := "equals", desc := "(Ljava/lang/Object;)Z", sig := { parameters := [(.object "java/lang/Object")], returnType := some .boolean }, accessFlags := 1, code := some k8c3 }
def k8c4 : Code := { maxStack := 4, maxLocals := 6, code := jdk_42_method_149_code, exceptionTable := #[], attributes := #[] }
def k8m4 : Method := { name := "<init>", desc := "([CIILjava/lang/Void;)V", sig := { parameters := [(.array .char), .int, .int, (.object "java/lang/Void")], returnType := none }, accessFlags := 2, code := some k8c4 }
/-- java/lang/String -/
def k8 : Class := { plain "java/lang/String" (some 0) with
  accessFlags := 49
  interfaces := #[3, 4, 5, 6, 7]
  cf := some (fileOf pool8 10 #[.nestMembers #[1103]] #[{ accessFlags := 1, nameIndex := 5, descriptorIndex := 6, attributes := #[] }, { accessFlags := 1, nameIndex := 5, descriptorIndex := 1010, attributes := #[] }, { accessFlags := 1, nameIndex := 692, descriptorIndex := 142, attributes := #[] }, { accessFlags := 1, nameIndex := 543, descriptorIndex := 573, attributes := #[] }, { accessFlags := 2, nameIndex := 5, descriptorIndex := 29, attributes := #[] }] 49 2 #[1106, 1108, 575, 1110, 1112] #[{ accessFlags := 18, nameIndex := 13, descriptorIndex := 14, attributes := #[] }, { accessFlags := 18, nameIndex := 17, descriptorIndex := 18, attributes := #[] }, { accessFlags := 2, nameIndex := 21, descriptorIndex := 22, attributes := #[] }, { accessFlags := 2, nameIndex := 25, descriptorIndex := 26, attributes := #[] }, { accessFlags := 26, nameIndex := 1116, descriptorIndex := 1117, attributes := #[] }, { accessFlags := 24, nameIndex := 40, descriptorIndex := 26, attributes := #[] }, { accessFlags := 26, nameIndex := 1101, descriptorIndex := 1102, attributes := #[] }, { accessFlags := 26, nameIndex := 1121, descriptorIndex := 1122, attributes := #[] }, { accessFlags := 25, nameIndex := 599, descriptorIndex := 600, attributes := #[] }, { accessFlags := 24, nameIndex := 1125, descriptorIndex := 18, attributes := #[] }, { accessFlags := 24, nameIndex := 1127, descriptorIndex := 18, attributes := #[] }])
  fields := #[{ name := "value", type := (.array .byte), accessFlags := 18, slot := 0, constantValue := 0 }, { name := "coder", type := .byte, accessFlags := 18, slot := 1, constantValue := 0 }, { name := "hash", type := .int, accessFlags := 2, slot := 2, constantValue := 0 }, { name := "hashIsZero", type := .boolean, accessFlags := 2, slot := 3, constantValue := 0 }, { name := "serialVersionUID", type := .long, accessFlags := 26, slot := 0, constantValue := 0 }, { name := "COMPACT_STRINGS", type := .boolean, accessFlags := 24, slot := 1, constantValue := 0 }, { name := "serialPersistentFields", type := (.array (.object "java/io/ObjectStreamField")), accessFlags := 26, slot := 2, constantValue := 0 }, { name := "REPL", type := .char, accessFlags := 26, slot := 3, constantValue := 0 }, { name := "CASE_INSENSITIVE_ORDER", type := (.object "java/util/Comparator"), accessFlags := 25, slot := 4, constantValue := 0 }, { name := "LATIN1", type := .byte, accessFlags := 24, slot := 5, constantValue := 0 }, { name := "UTF16", type := .byte, accessFlags := 24, slot := 6, constantValue := 0 }]
  methods := #[k8m0, k8m1, k8m2, k8m3, k8m4]
  instanceTypes := #[(.array .byte), .byte, .int, .boolean]
  staticTypes := #[.long, .boolean, (.array (.object "java/io/ObjectStreamField")), .char, (.object "java/util/Comparator"), .byte, .byte]
  resolved := Array.replicate 1451 none
  statics := some 0 }

def pool9 : Array CpInfo := pool [(6, .class_ 8), (1, u "java/lang/Object"), (0, u "<init>"), (0, u "()V"), (1, .class_ 14), (1, u "java/lang/StringUTF16"), (31, u "$assertionsDisabled"), (0, u "Z"), (13, u "HI_BYTE_SHIFT"), (0, u "I"), (2, u "LO_BYTE_SHIFT"), (49, .methodref 12 116), (0, .nameAndType 117 118), (0, u "compress"), (0, u "([CI[BII)I"), (3, u "([CII)[B"), (138, u "coderFromArrayLen"), (0, u "([BI)B"), (106, .class_ 371), (1, u "java/lang/StringUTF16$LinesSpliterator"), (58, u "MAX_LENGTH"), (196, .class_ 628), (0, u "java/lang/StringUTF16$CodePointsSpliterator"), (0, .class_ 630), (0, u "java/lang/StringUTF16$CharsSpliterator")] 4

def k9m0 : Method := { name := "<init>", desc := "()V", sig := { parameters := [], returnType := none }, accessFlags := 0, code := none }
def k9c1 : Code := { maxStack := 2, maxLocals := 2, code := jdk_52_method_15_code, exceptionTable := #[], attributes := #[] }
def k9m1 : Method := { name := "coderFromArrayLen", desc := "([BI)B", sig := { parameters := [(.array .byte), .int], returnType := some .byte }, accessFlags := 8, code := some k9c1 }
def k9c2 : Code := { maxStack := 5, maxLocals := 6, code := jdk_52_method_16_code, exceptionTable := #[], attributes := #[] }
def k9m2 : Method := { name := "compress", desc := "([CII)[B", sig := { parameters := [(.array .char), .int, .int], returnType := some (.array .byte) }, accessFlags := 9, code := some k9c2 }
def k9c3 : Code := { maxStack := 3, maxLocals := 7, code := jdk_52_method_21_code, exceptionTable := #[], attributes := #[] }
def k9m3 : Method := { name := "compress", desc := "([CI[BII)I", sig := { parameters := [(.array .char), .int, (.array .byte), .int, .int], returnType := some .int }, accessFlags := 9, code := some k9c3 }
/-- java/lang/StringUTF16 -/
def k9 : Class := { plain "java/lang/StringUTF16" (some 0) with
  accessFlags := 48
  interfaces := #[]
  cf := some (fileOf pool9 12 #[.nestMembers #[627, 629, 369]] #[{ accessFlags := 0, nameIndex := 9, descriptorIndex := 10, attributes := #[] }, { accessFlags := 8, nameIndex := 261, descriptorIndex := 262, attributes := #[] }, { accessFlags := 9, nameIndex := 117, descriptorIndex := 122, attributes := #[] }, { accessFlags := 9, nameIndex := 117, descriptorIndex := 118, attributes := #[] }] 48 6 #[] #[{ accessFlags := 26, nameIndex := 61, descriptorIndex := 62, attributes := #[] }, { accessFlags := 26, nameIndex := 65, descriptorIndex := 62, attributes := #[] }, { accessFlags := 24, nameIndex := 430, descriptorIndex := 62, attributes := #[] }, { accessFlags := 4120, nameIndex := 46, descriptorIndex := 47, attributes := #[] }])
  fields := #[{ name := "HI_BYTE_SHIFT", type := .int, accessFlags := 26, slot := 0, constantValue := 0 }, { name := "LO_BYTE_SHIFT", type := .int, accessFlags := 26, slot := 1, constantValue := 0 }, { name := "MAX_LENGTH", type := .int, accessFlags := 24, slot := 2, constantValue := 0 }, { name := "$assertionsDisabled", type := .boolean, accessFlags := 4120, slot := 3, constantValue := 0 }]
  methods := #[k9m0, k9m1, k9m2, k9m3]
  instanceTypes := #[]
  staticTypes := #[.int, .int, .int, .boolean]
  resolved := Array.replicate 635 none
  statics := none }

def pool10 : Array CpInfo := pool [(1, .methodref 2 3), (0, .class_ 4), (0, .nameAndType 5 6), (0, u "java/lang/Object"), (0, u "<init>"), (0, u "()V"), (0, .string 8), (0, u "collection"), (0, .methodref 10 11), (0, .class_ 12), (0, .nameAndType 13 14), (0, u "java/util/Objects"), (0, u "requireNonNull"), (0, u "(Ljava/lang/Object;Ljava/lang/String;)Ljava/lang/Object;"), (0, .class_ 16), (0, u "com/example/timely_errand/timelyerrand/engine/JobCollectionId"), (0, .fieldref 18 19), (0, .class_ 20), (0, .nameAndType 8 21), (0, u "com/example/timely_errand/timelyerrand/engine/JobId"), (0, u "Lcom/example/timely_errand/timelyerrand/engine/JobCollectionId;"), (0, .string 23), (0, u "name"), (0, .methodref 15 25), (0, .nameAndType 26 27), (0, u "requireNonEmpty"), (0, u "(Ljava/lang/String;Ljava/lang/String;)Ljava/lang/String;"), (0, .fieldref 18 29), (0, .nameAndType 23 30), (0, u "Ljava/lang/String;"), (7, .methodref 15 39), (0, .nameAndType 40 41), (0, u "equals"), (0, u "(Ljava/lang/Object;)Z"), (0, .methodref 43 39), (0, .class_ 44), (0, u "java/lang/String"), (5, u "(Lcom/example/timely_errand/timelyerrand/engine/JobCollectionId;Ljava/lang/String;)V")] 24

def k10c0 : Code := { maxStack := 3, maxLocals := 3, code := prog_19_method_1_code, exceptionTable := #[], attributes := #[] }
def k10m0 : Method := { name := "<init>", desc := "(Lcom/example/timely_errand/timelyerrand/engine/JobCollectionId;Ljava/lang/String;)V", sig := { parameters := [(.object "com/example/timely_errand/timelyerrand/engine/JobCollectionId"), (.object "java/lang/String")], returnType := none }, accessFlags := 1, code := some k10c0 }
def k10c1 : Code := { maxStack := 2, maxLocals := 3, code := prog_19_method_5_code, exceptionTable := #[], attributes := #[] }
def k10m1 : Method := { name := "equals", desc := "(Ljava/lang/Object;)Z", sig := { parameters := [(.object "java/lang/Object")], returnType := some .boolean }, accessFlags := 1, code := some k10c1 }
/-- com/example/timely_errand/timelyerrand/engine/JobId -/
def k10 : Class := { plain "com/example/timely_errand/timelyerrand/engine/JobId" (some 0) with
  accessFlags := 49
  interfaces := #[]
  cf := some (fileOf pool10 18 #[] #[{ accessFlags := 1, nameIndex := 5, descriptorIndex := 50, attributes := #[] }, { accessFlags := 1, nameIndex := 40, descriptorIndex := 41, attributes := #[] }] 49 2 #[] #[{ accessFlags := 18, nameIndex := 8, descriptorIndex := 21, attributes := #[] }, { accessFlags := 18, nameIndex := 23, descriptorIndex := 30, attributes := #[] }])
  fields := #[{ name := "collection", type := (.object "com/example/timely_errand/timelyerrand/engine/JobCollectionId"), accessFlags := 18, slot := 0, constantValue := 0 }, { name := "name", type := (.object "java/lang/String"), accessFlags := 18, slot := 1, constantValue := 0 }]
  methods := #[k10m0, k10m1]
  instanceTypes := #[(.object "com/example/timely_errand/timelyerrand/engine/JobCollectionId"), (.object "java/lang/String")]
  staticTypes := #[]
  resolved := Array.replicate 75 none
  statics := none }

def pool11 : Array CpInfo := pool [(2, .class_ 4), (1, u "java/lang/Object"), (0, u "<init>"), (0, u "()V"), (35, .class_ 44), (1, u "java/util/Objects"), (0, u "requireNonNull"), (48, u "(Ljava/lang/Object;Ljava/lang/String;)Ljava/lang/Object;")] 89

def k11m0 : Method := { name := "<init>", desc := "()V", sig := { parameters := [], returnType := none }, accessFlags := 2, code := none }
def k11c1 : Code := { maxStack := 3, maxLocals := 2, code := jdk_31_method_11_code, exceptionTable := #[], attributes := #[] }
def k11m1 : Method := { name := "requireNonNull", desc := "(Ljava/lang/Object;Ljava/lang/String;)Ljava/lang/Object;", sig := { parameters := [(.object "java/lang/Object"), (.object "java/lang/String")], returnType := some (.object "java/lang/Object") }, accessFlags := 9, code := some k11c1 }
/-- java/util/Objects -/
def k11 : Class := { plain "java/util/Objects" (some 0) with
  accessFlags := 49
  interfaces := #[]
  cf := some (fileOf pool11 42 #[] #[{ accessFlags := 2, nameIndex := 5, descriptorIndex := 6, attributes := #[] }, { accessFlags := 9, nameIndex := 45, descriptorIndex := 94, attributes := #[] }] 49 2 #[] #[])
  fields := #[]
  methods := #[k11m0, k11m1]
  instanceTypes := #[]
  staticTypes := #[]
  resolved := Array.replicate 184 none
  statics := none }

def pool12 : Array CpInfo := pool [(4, .class_ 6), (1, u "java/lang/Object"), (0, u "<init>"), (0, u "()V"), (5, .class_ 16), (1, u "java/lang/StringLatin1"), (104, u "$assertionsDisabled"), (0, u "Z"), (98, .class_ 223), (1, u "java/lang/StringLatin1$LinesSpliterator"), (57, u "equals"), (0, u "([B[B)Z"), (107, .class_ 391), (0, u "java/lang/StringLatin1$CharsSpliterator")] 3

def k12m0 : Method := { name := "<init>", desc := "()V", sig := { parameters := [], returnType := none }, accessFlags := 0, code := none }
def k12c1 : Code := { maxStack := 3, maxLocals := 3, code := jdk_43_method_13_code, exceptionTable := #[], attributes := #[] }
def k12m1 : Method := { name := "equals", desc := "([B[B)Z", sig := { parameters := [(.array .byte), (.array .byte)], returnType := some .boolean }, accessFlags := 9, code := some k12c1 }
/-- java/lang/StringLatin1 -/
def k12 : Class := { plain "java/lang/StringLatin1" (some 0) with
  accessFlags := 48
  interfaces := #[]
  cf := some (fileOf pool12 14 #[.nestMembers #[390, 221]] #[{ accessFlags := 0, nameIndex := 7, descriptorIndex := 8, attributes := #[] }, { accessFlags := 9, nameIndex := 281, descriptorIndex := 282, attributes := #[] }] 48 4 #[] #[{ accessFlags := 4120, nameIndex := 121, descriptorIndex := 122, attributes := #[] }])
  fields := #[{ name := "$assertionsDisabled", type := .boolean, accessFlags := 4120, slot := 0, constantValue := 0 }]
  methods := #[k12m0, k12m1]
  instanceTypes := #[]
  staticTypes := #[.boolean]
  resolved := Array.replicate 395 none
  statics := none }

def pool13 : Array CpInfo := pool [(2, .class_ 4), (1, u "java/lang/Object"), (0, u "<init>"), (0, u "()V"), (17, .class_ 26), (1, u "jdk/internal/util/Preconditions"), (28, .class_ 56), (0, u "jdk/internal/util/Preconditions$4"), (57, .class_ 115), (0, u "jdk/internal/util/Preconditions$1"), (7, u "SIOOBE_FORMATTER"), (0, u "Ljava/util/function/BiFunction;"), (0, .class_ 126), (0, u "jdk/internal/util/Preconditions$2"), (3, u "AIOOBE_FORMATTER"), (0, .class_ 132), (0, u "jdk/internal/util/Preconditions$3"), (3, u "IOOBE_FORMATTER")] 57

def k13m0 : Method := { name := "<init>", desc := "()V", sig := { parameters := [], returnType := none }, accessFlags := 1, code := none }
/-- jdk/internal/util/Preconditions -/
def k13 : Class := { plain "jdk/internal/util/Preconditions" (some 0) with
  accessFlags := 33
  interfaces := #[]
  cf := some (fileOf pool13 24 #[.nestMembers #[55, 131, 125, 114]] #[{ accessFlags := 1, nameIndex := 5, descriptorIndex := 6, attributes := #[] }] 33 2 #[] #[{ accessFlags := 25, nameIndex := 123, descriptorIndex := 124, attributes := #[] }, { accessFlags := 25, nameIndex := 130, descriptorIndex := 124, attributes := #[] }, { accessFlags := 25, nameIndex := 136, descriptorIndex := 124, attributes := #[] }])
  fields := #[{ name := "SIOOBE_FORMATTER", type := (.object "java/util/function/BiFunction"), accessFlags := 25, slot := 0, constantValue := 0 }, { name := "AIOOBE_FORMATTER", type := (.object "java/util/function/BiFunction"), accessFlags := 25, slot := 1, constantValue := 0 }, { name := "IOOBE_FORMATTER", type := (.object "java/util/function/BiFunction"), accessFlags := 25, slot := 2, constantValue := 0 }]
  methods := #[k13m0]
  instanceTypes := #[]
  staticTypes := #[(.object "java/util/function/BiFunction"), (.object "java/util/function/BiFunction"), (.object "java/util/function/BiFunction")]
  resolved := Array.replicate 194 none
  statics := some 1 }

def pool14 : Array CpInfo := pool [(9, u "<init>"), (6, .class_ 18), (1, u "java/lang/Object"), (0, u "()V"), (1, .class_ 23), (1, u "jdk/internal/util/ArraysSupport"), (0, u "LOG2_ARRAY_LONG_INDEX_SCALE"), (0, u "I"), (2, u "U"), (0, u "Ljdk/internal/misc/Unsafe;"), (8, u "BIG_ENDIAN"), (0, u "Z"), (8, u "LOG2_BYTE_BIT_SIZE"), (4, u "LOG2_ARRAY_INT_INDEX_SCALE"), (54, u "JLA"), (0, u "Ljdk/internal/access/JavaLangAccess;"), (11, u "LOG2_ARRAY_BOOLEAN_INDEX_SCALE"), (9, u "LOG2_ARRAY_BYTE_INDEX_SCALE"), (5, u "LOG2_ARRAY_CHAR_INDEX_SCALE"), (5, u "LOG2_ARRAY_SHORT_INDEX_SCALE"), (18, u "LOG2_ARRAY_FLOAT_INDEX_SCALE"), (24, u "LOG2_ARRAY_DOUBLE_INDEX_SCALE"), (89, u "T_BOOLEAN"), (2, u "T_CHAR"), (1, u "T_FLOAT"), (1, u "T_DOUBLE"), (1, u "T_BYTE"), (1, u "T_SHORT"), (1, u "T_INT"), (1, u "T_LONG"), (1, u "SOFT_MAX_ARRAY_LENGTH")] 83

def k14m0 : Method := { name := "<init>", desc := "()V", sig := { parameters := [], returnType := none }, accessFlags := 2, code := none }
/-- jdk/internal/util/ArraysSupport -/
def k14 : Class := { plain "jdk/internal/util/ArraysSupport" (some 0) with
  accessFlags := 33
  interfaces := #[]
  cf := some (fileOf pool14 21 #[] #[{ accessFlags := 2, nameIndex := 9, descriptorIndex := 19, attributes := #[] }] 33 16 #[] #[{ accessFlags := 24, nameIndex := 28, descriptorIndex := 29, attributes := #[] }, { accessFlags := 26, nameIndex := 38, descriptorIndex := 39, attributes := #[] }, { accessFlags := 25, nameIndex := 121, descriptorIndex := 25, attributes := #[] }, { accessFlags := 25, nameIndex := 131, descriptorIndex := 25, attributes := #[] }, { accessFlags := 25, nameIndex := 137, descriptorIndex := 25, attributes := #[] }, { accessFlags := 25, nameIndex := 143, descriptorIndex := 25, attributes := #[] }, { accessFlags := 25, nameIndex := 53, descriptorIndex := 25, attributes := #[] }, { accessFlags := 25, nameIndex := 24, descriptorIndex := 25, attributes := #[] }, { accessFlags := 25, nameIndex := 162, descriptorIndex := 25, attributes := #[] }, { accessFlags := 25, nameIndex := 187, descriptorIndex := 25, attributes := #[] }, { accessFlags := 26, nameIndex := 48, descriptorIndex := 25, attributes := #[] }, { accessFlags := 25, nameIndex := 277, descriptorIndex := 25, attributes := #[] }, { accessFlags := 25, nameIndex := 280, descriptorIndex := 25, attributes := #[] }, { accessFlags := 25, nameIndex := 282, descriptorIndex := 25, attributes := #[] }, { accessFlags := 25, nameIndex := 284, descriptorIndex := 25, attributes := #[] }, { accessFlags := 25, nameIndex := 286, descriptorIndex := 25, attributes := #[] }, { accessFlags := 25, nameIndex := 288, descriptorIndex := 25, attributes := #[] }, { accessFlags := 25, nameIndex := 290, descriptorIndex := 25, attributes := #[] }, { accessFlags := 25, nameIndex := 292, descriptorIndex := 25, attributes := #[] }, { accessFlags := 26, nameIndex := 108, descriptorIndex := 109, attributes := #[] }, { accessFlags := 25, nameIndex := 294, descriptorIndex := 25, attributes := #[] }])
  fields := #[{ name := "U", type := (.object "jdk/internal/misc/Unsafe"), accessFlags := 24, slot := 0, constantValue := 0 }, { name := "BIG_ENDIAN", type := .boolean, accessFlags := 26, slot := 1, constantValue := 0 }, { name := "LOG2_ARRAY_BOOLEAN_INDEX_SCALE", type := .int, accessFlags := 25, slot := 2, constantValue := 0 }, { name := "LOG2_ARRAY_BYTE_INDEX_SCALE", type := .int, accessFlags := 25, slot := 3, constantValue := 0 }, { name := "LOG2_ARRAY_CHAR_INDEX_SCALE", type := .int, accessFlags := 25, slot := 4, constantValue := 0 }, { name := "LOG2_ARRAY_SHORT_INDEX_SCALE", type := .int, accessFlags := 25, slot := 5, constantValue := 0 }, { name := "LOG2_ARRAY_INT_INDEX_SCALE", type := .int, accessFlags := 25, slot := 6, constantValue := 0 }, { name := "LOG2_ARRAY_LONG_INDEX_SCALE", type := .int, accessFlags := 25, slot := 7, constantValue := 0 }, { name := "LOG2_ARRAY_FLOAT_INDEX_SCALE", type := .int, accessFlags := 25, slot := 8, constantValue := 0 }, { name := "LOG2_ARRAY_DOUBLE_INDEX_SCALE", type := .int, accessFlags := 25, slot := 9, constantValue := 0 }, { name := "LOG2_BYTE_BIT_SIZE", type := .int, accessFlags := 26, slot := 10, constantValue := 0 }, { name := "T_BOOLEAN", type := .int, accessFlags := 25, slot := 11, constantValue := 0 }, { name := "T_CHAR", type := .int, accessFlags := 25, slot := 12, constantValue := 0 }, { name := "T_FLOAT", type := .int, accessFlags := 25, slot := 13, constantValue := 0 }, { name := "T_DOUBLE", type := .int, accessFlags := 25, slot := 14, constantValue := 0 }, { name := "T_BYTE", type := .int, accessFlags := 25, slot := 15, constantValue := 0 }, { name := "T_SHORT", type := .int, accessFlags := 25, slot := 16, constantValue := 0 }, { name := "T_INT", type := .int, accessFlags := 25, slot := 17, constantValue := 0 }, { name := "T_LONG", type := .int, accessFlags := 25, slot := 18, constantValue := 0 }, { name := "JLA", type := (.object "jdk/internal/access/JavaLangAccess"), accessFlags := 26, slot := 19, constantValue := 0 }, { name := "SOFT_MAX_ARRAY_LENGTH", type := .int, accessFlags := 25, slot := 20, constantValue := 0 }]
  methods := #[k14m0]
  instanceTypes := #[]
  staticTypes := #[(.object "jdk/internal/misc/Unsafe"), .boolean, .int, .int, .int, .int, .int, .int, .int, .int, .int, .int, .int, .int, .int, .int, .int, .int, .int, (.object "jdk/internal/access/JavaLangAccess"), .int]
  resolved := Array.replicate 378 none
  statics := none }

def pool15 : Array CpInfo := pool [(1, u "java/lang/Cloneable"), (0, .class_ 1), (0, u "java/lang/Object"), (0, .class_ 3)] 3

/-- java/lang/Cloneable -/
def k15 : Class := { plain "java/lang/Cloneable" (some 0) with
  accessFlags := 1537
  interfaces := #[]
  cf := some (fileOf pool15 2 #[] #[] 1537 4 #[] #[])
  fields := #[]
  methods := #[]
  instanceTypes := #[]
  staticTypes := #[]
  resolved := Array.replicate 8 none
  statics := none }

/-- the primitive byte -/
def k16 : Class := { plain "byte" none with kind := .primitive 'B', accessFlags := 0x411 }
/-- [B -/
def k17 : Class := { plain "[B" (some 0) with kind := .array 16 .byte, interfaces := #[15, 3], accessFlags := 1041 }

/-- the primitive char -/
def k18 : Class := { plain "char" none with kind := .primitive 'C', accessFlags := 0x411 }
/-- [C -/
def k19 : Class := { plain "[C" (some 0) with kind := .array 18 .char, interfaces := #[15, 3], accessFlags := 1041 }

/-- the primitive int -/
def k20 : Class := { plain "int" none with kind := .primitive 'I', accessFlags := 0x411 }
/-- [I -/
def k21 : Class := { plain "[I" (some 0) with kind := .array 20 .int, interfaces := #[15, 3], accessFlags := 1041 }

def heap : Heap := #[{ cls := 8, slots := #[.long 0, .int 1, .null, .int 0, .null, .int 0, .int 0], vm := .statics 8 },
  { cls := 13, slots := #[.null, .null, .null], vm := .statics 13 }]
def classes : Array Class := #[k0, k1, k2, k3, k4, k5, k6, k7, k8, k9, k10, k11, k12, k13, k14, k15, k16, k17, k18, k19, k20, k21]
def interned : List (Array UInt16 × Addr) := []
def slotsUsed : Nat := 10
def theMethod : MethodId := ⟨1, 10⟩
def args0 : Array Value := #[.int 5, .int 5, .int 5, .int 5, .int 5]
def aboutOver (below : List Frame) : State where
  vm := { classes := classes, interned := interned.toArray }
  heap := heap
  slotsUsed := slotsUsed
  threads := #[{ frames := .invoking theMethod args0 :: below }]
def below0 : List Frame := [.native { method := ⟨0, 0⟩, args := #[] }]
def about1 : State := aboutOver below0
def p0 : Program := .bare "" "" ""
def e0 : Env := launch0.env 0 0 0
theorem w_frames : about1.frames = Frame.invoking theMethod args0 :: below0 := rfl
set_option maxRecDepth 65536 in
theorem w_args : argsFit about1.vm theMethod args0 = true := by decide +kernel
set_option maxRecDepth 65536 in
theorem w_heap : heapFits about1 = true := by decide +kernel
set_option maxRecDepth 65536 in
theorem w_runnable : about1.curStatus? = some .runnable := by decide +kernel
set_option maxRecDepth 65536 in
theorem w_alone : about1.alone = true := by decide +kernel
set_option maxRecDepth 65536 in
theorem w_named : about1.methodNamed? x = some theMethod := by decide +kernel
set_option maxRecDepth 65536 in
theorem w_hears : about1.hears theMethod below0 = true := by decide +kernel
set_option maxRecDepth 65536 in
theorem w_ripe : about1.ripe theMethod args0 below0 = true := by decide +kernel
theorem w_running : about1.status = .running := rfl
set_option maxRecDepth 65536 in
theorem w_room : about1.hasRoom e0.platform room_1 = true :=
  launch0.hasRoom_least _ room_1 (by decide +kernel) (by decide +kernel) (by decide +kernel) (by decide +kernel) (by decide +kernel) (by decide +kernel)
theorem allAtoms_all (ts : List Jvm.Cond) (a : Array Jvm.Value) (st : Jvm.State) : (allAtoms ts).before a st = ts.all (fun c => c.before a st) := by
  induction ts with
  | nil => rfl
  | cons c t ih =>
    show (Jvm.Cond.and c (allAtoms t)).before a st = _
    rw [Jvm.Cond.before_and, ih, List.all_cons]
def words1 : List Jvm.Cond := Jvm.Cond.code x code maxLocals ret :: tables_1
/-- a 'code' word, met by the world's own term for the bytes: nothing is compared byte by byte -/
theorem code_word {y : MethodName} {bytes : ByteArray} {mx : Nat} {rt : Option FieldType} {a : Array Value} {s : State} {m : MethodId} {meth : Method} {c : Code} (h1 : s.methodNamed? y = some m) (h2 : s.vm.method? m = some meth) (h3 : meth.code = some c) (h4 : c.code = bytes)
    (h5 : (c.maxLocals == mx && c.exceptionTable.isEmpty && decide (c.maxStack ≤ mostOperands) && decide (meth.sig.returnType = rt) && !meth.locks && decide (parseMethodDescriptor y.desc = some meth.sig)) = true) : (Jvm.Cond.code y bytes mx rt).before a s = true := by
  simp only [Bool.and_eq_true, beq_iff_eq, Bool.not_eq_true', decide_eq_true_eq] at h5
  obtain ⟨⟨⟨⟨⟨g1, g2⟩, g3⟩, g4⟩, g5⟩, g6⟩ := h5
  simp [Cond.before, Cond.holds, Cond.value, h1, h2, h3, h4, g1, g2, g3, g4, g5, g6]
def isCode : Jvm.Cond → Bool
  | .code _ _ _ _ => true
  | _ => false
theorem all_split {L : List Jvm.Cond} {P : Jvm.Cond → Bool} (h1 : L.all (fun c => isCode c || P c) = true) (h2 : ∀ c ∈ L.filter isCode, P c = true) : L.all P = true := by
  refine List.all_eq_true.mpr fun c hc => ?_
  have h := List.all_eq_true.mp h1 c hc
  rcases Bool.eq_false_or_eq_true (isCode c) with hi | hi
  · exact h2 c (List.mem_filter.mpr ⟨hc, hi⟩)
  · simpa [hi] using h
set_option maxRecDepth 65536 in
theorem w_c0 : (Jvm.Cond.code x code maxLocals ret).before args0 about1 = true := code_word (m := ⟨1, 10⟩) (meth := k1m10) (c := k1c10) (by decide +kernel) rfl rfl rfl (by decide +kernel)
set_option maxRecDepth 65536 in
theorem w_c1 : (Jvm.Cond.code ({ cls := "com/example/timely_errand/timelyerrand/engine/JobIdEqualsPinLaw", name := "same", desc := "(IIIIII)Z" } : Jvm.MethodName) method_10_code (8 : Nat) (Option.some Jvm.ClassFile.FieldType.boolean)).before args0 about1 = true := code_word (m := ⟨1, 9⟩) (meth := k1m9) (c := k1c9) (by decide +kernel) rfl rfl rfl (by decide +kernel)
set_option maxRecDepth 65536 in
theorem w_c2 : (Jvm.Cond.code ({ cls := "com/example/timely_errand/timelyerrand/engine/JobIdEqualsPinLaw", name := "bit", desc := "(II)Z" } : Jvm.MethodName) method_3_code (2 : Nat) (Option.some Jvm.ClassFile.FieldType.boolean)).before args0 about1 = true := code_word (m := ⟨1, 2⟩) (meth := k1m2) (c := k1c2) (by decide +kernel) rfl rfl rfl (by decide +kernel)
set_option maxRecDepth 65536 in
theorem w_c3 : (Jvm.Cond.code ({ cls := "com/example/timely_errand/timelyerrand/engine/JobIdEqualsPinLaw", name := "rtwo", desc := "(II)Z" } : Jvm.MethodName) method_7_code (2 : Nat) (Option.some Jvm.ClassFile.FieldType.boolean)).before args0 about1 = true := code_word (m := ⟨1, 6⟩) (meth := k1m6) (c := k1c6) (by decide +kernel) rfl rfl rfl (by decide +kernel)
set_option maxRecDepth 65536 in
theorem w_c4 : (Jvm.Cond.code ({ cls := "com/example/timely_errand/timelyerrand/engine/JobIdEqualsPinLaw", name := "byteAt", desc := "(II)I" } : Jvm.MethodName) method_2_code (2 : Nat) (Option.some Jvm.ClassFile.FieldType.int)).before args0 about1 = true := code_word (m := ⟨1, 1⟩) (meth := k1m1) (c := k1c1) (by decide +kernel) rfl rfl rfl (by decide +kernel)
set_option maxRecDepth 65536 in
theorem w_c5 : (Jvm.Cond.code ({ cls := "com/example/timely_errand/timelyerrand/engine/JobIdEqualsPinLaw", name := "rc1", desc := "(IIII)I" } : Jvm.MethodName) method_5_code (4 : Nat) (Option.some Jvm.ClassFile.FieldType.int)).before args0 about1 = true := code_word (m := ⟨1, 4⟩) (meth := k1m4) (c := k1c4) (by decide +kernel) rfl rfl rfl (by decide +kernel)
set_option maxRecDepth 65536 in
theorem w_c6 : (Jvm.Cond.code ({ cls := "com/example/timely_errand/timelyerrand/engine/JobIdEqualsPinLaw", name := "left", desc := "(IIII)Ljava/lang/String;" } : Jvm.MethodName) method_8_code (4 : Nat) (Option.some (Jvm.ClassFile.FieldType.object "java/lang/String"))).before args0 about1 = true := code_word (m := ⟨1, 7⟩) (meth := k1m7) (c := k1c7) (by decide +kernel) rfl rfl rfl (by decide +kernel)
set_option maxRecDepth 65536 in
theorem w_c7 : (Jvm.Cond.code ({ cls := "com/example/timely_errand/timelyerrand/engine/JobIdEqualsPinLaw", name := "str", desc := "(IIZ)Ljava/lang/String;" } : Jvm.MethodName) method_4_code (3 : Nat) (Option.some (Jvm.ClassFile.FieldType.object "java/lang/String"))).before args0 about1 = true := code_word (m := ⟨1, 3⟩) (meth := k1m3) (c := k1c3) (by decide +kernel) rfl rfl rfl (by decide +kernel)
set_option maxRecDepth 65536 in
theorem w_c8 : (Jvm.Cond.code ({ cls := "java/lang/String", name := "<init>", desc := "([C)V" } : Jvm.MethodName) jdk_42_method_3_code (2 : Nat) (Option.none : Option Jvm.ClassFile.FieldType)).before args0 about1 = true := code_word (m := ⟨8, 1⟩) (meth := k8m1) (c := k8c1) (by decide +kernel) rfl rfl rfl (by decide +kernel)
set_option maxRecDepth 65536 in
theorem w_c9 : (Jvm.Cond.code ({ cls := "java/lang/String", name := "<init>", desc := "([CIILjava/lang/Void;)V" } : Jvm.MethodName) jdk_42_method_149_code (6 : Nat) (Option.none : Option Jvm.ClassFile.FieldType)).before args0 about1 = true := code_word (m := ⟨8, 4⟩) (meth := k8m4) (c := k8c4) (by decide +kernel) rfl rfl rfl (by decide +kernel)
set_option maxRecDepth 65536 in
theorem w_c10 : (Jvm.Cond.code ({ cls := "java/lang/Object", name := "<init>", desc := "()V" } : Jvm.MethodName) object_method_1_code (1 : Nat) (Option.none : Option Jvm.ClassFile.FieldType)).before args0 about1 = true := code_word (m := ⟨0, 0⟩) (meth := k0m0) (c := k0c0) (by decide +kernel) rfl rfl rfl (by decide +kernel)
set_option maxRecDepth 65536 in
theorem w_c11 : (Jvm.Cond.code ({ cls := "java/lang/StringUTF16", name := "compress", desc := "([CII)[B" } : Jvm.MethodName) jdk_52_method_16_code (6 : Nat) (Option.some (Jvm.ClassFile.FieldType.array Jvm.ClassFile.FieldType.byte))).before args0 about1 = true := code_word (m := ⟨9, 2⟩) (meth := k9m2) (c := k9c2) (by decide +kernel) rfl rfl rfl (by decide +kernel)
set_option maxRecDepth 65536 in
theorem w_c12 : (Jvm.Cond.code ({ cls := "java/lang/StringUTF16", name := "compress", desc := "([CI[BII)I" } : Jvm.MethodName) jdk_52_method_21_code (7 : Nat) (Option.some Jvm.ClassFile.FieldType.int)).before args0 about1 = true := code_word (m := ⟨9, 3⟩) (meth := k9m3) (c := k9c3) (by decide +kernel) rfl rfl rfl (by decide +kernel)
set_option maxRecDepth 65536 in
theorem w_c13 : (Jvm.Cond.code ({ cls := "java/lang/StringUTF16", name := "coderFromArrayLen", desc := "([BI)B" } : Jvm.MethodName) jdk_52_method_15_code (2 : Nat) (Option.some Jvm.ClassFile.FieldType.byte)).before args0 about1 = true := code_word (m := ⟨9, 1⟩) (meth := k9m1) (c := k9c1) (by decide +kernel) rfl rfl rfl (by decide +kernel)
set_option maxRecDepth 65536 in
theorem w_c14 : (Jvm.Cond.code ({ cls := "com/example/timely_errand/timelyerrand/engine/JobCollectionId", name := "<init>", desc := "(Ljava/lang/String;Ljava/lang/String;Ljava/lang/String;)V" } : Jvm.MethodName) prog_18_method_1_code (4 : Nat) (Option.none : Option Jvm.ClassFile.FieldType)).before args0 about1 = true := code_word (m := ⟨2, 0⟩) (meth := k2m0) (c := k2c0) (by decide +kernel) rfl rfl rfl (by decide +kernel)
set_option maxRecDepth 65536 in
theorem w_c15 : (Jvm.Cond.code ({ cls := "com/example/timely_errand/timelyerrand/engine/JobCollectionId", name := "requireNonEmpty", desc := "(Ljava/lang/String;Ljava/lang/String;)Ljava/lang/String;" } : Jvm.MethodName) prog_18_method_9_code (2 : Nat) (Option.some (Jvm.ClassFile.FieldType.object "java/lang/String"))).before args0 about1 = true := code_word (m := ⟨2, 2⟩) (meth := k2m2) (c := k2c2) (by decide +kernel) rfl rfl rfl (by decide +kernel)
set_option maxRecDepth 65536 in
theorem w_c16 : (Jvm.Cond.code ({ cls := "java/lang/String", name := "isEmpty", desc := "()Z" } : Jvm.MethodName) jdk_42_method_55_code (1 : Nat) (Option.some Jvm.ClassFile.FieldType.boolean)).before args0 about1 = true := code_word (m := ⟨8, 2⟩) (meth := k8m2) (c := k8c2) (by decide +kernel) rfl rfl rfl (by decide +kernel)
set_option maxRecDepth 65536 in
theorem w_c17 : (Jvm.Cond.code ({ cls := "com/example/timely_errand/timelyerrand/engine/JobId", name := "<init>", desc := "(Lcom/example/timely_errand/timelyerrand/engine/JobCollectionId;Ljava/lang/String;)V" } : Jvm.MethodName) prog_19_method_1_code (3 : Nat) (Option.none : Option Jvm.ClassFile.FieldType)).before args0 about1 = true := code_word (m := ⟨10, 0⟩) (meth := k10m0) (c := k10c0) (by decide +kernel) rfl rfl rfl (by decide +kernel)
set_option maxRecDepth 65536 in
theorem w_c18 : (Jvm.Cond.code ({ cls := "java/util/Objects", name := "requireNonNull", desc := "(Ljava/lang/Object;Ljava/lang/String;)Ljava/lang/Object;" } : Jvm.MethodName) jdk_31_method_11_code (2 : Nat) (Option.some (Jvm.ClassFile.FieldType.object "java/lang/Object"))).before args0 about1 = true := code_word (m := ⟨11, 1⟩) (meth := k11m1) (c := k11c1) (by decide +kernel) rfl rfl rfl (by decide +kernel)
set_option maxRecDepth 65536 in
theorem w_c19 : (Jvm.Cond.code ({ cls := "com/example/timely_errand/timelyerrand/engine/JobIdEqualsPinLaw", name := "right", desc := "(IIIIII)Ljava/lang/String;" } : Jvm.MethodName) method_9_code (6 : Nat) (Option.some (Jvm.ClassFile.FieldType.object "java/lang/String"))).before args0 about1 = true := code_word (m := ⟨1, 8⟩) (meth := k1m8) (c := k1c8) (by decide +kernel) rfl rfl rfl (by decide +kernel)
set_option maxRecDepth 65536 in
theorem w_c20 : (Jvm.Cond.code ({ cls := "com/example/timely_errand/timelyerrand/engine/JobIdEqualsPinLaw", name := "rc2", desc := "(IIII)I" } : Jvm.MethodName) method_6_code (4 : Nat) (Option.some Jvm.ClassFile.FieldType.int)).before args0 about1 = true := code_word (m := ⟨1, 5⟩) (meth := k1m5) (c := k1c5) (by decide +kernel) rfl rfl rfl (by decide +kernel)
set_option maxRecDepth 65536 in
theorem w_c21 : (Jvm.Cond.code ({ cls := "com/example/timely_errand/timelyerrand/engine/JobId", name := "equals", desc := "(Ljava/lang/Object;)Z" } : Jvm.MethodName) prog_19_method_5_code (3 : Nat) (Option.some Jvm.ClassFile.FieldType.boolean)).before args0 about1 = true := code_word (m := ⟨10, 1⟩) (meth := k10m1) (c := k10c1) (by decide +kernel) rfl rfl rfl (by decide +kernel)
set_option maxRecDepth 65536 in
theorem w_c22 : (Jvm.Cond.code ({ cls := "com/example/timely_errand/timelyerrand/engine/JobCollectionId", name := "equals", desc := "(Ljava/lang/Object;)Z" } : Jvm.MethodName) prog_18_method_6_code (3 : Nat) (Option.some Jvm.ClassFile.FieldType.boolean)).before args0 about1 = true := code_word (m := ⟨2, 1⟩) (meth := k2m1) (c := k2c1) (by decide +kernel) rfl rfl rfl (by decide +kernel)
set_option maxRecDepth 65536 in
theorem w_c23 : (Jvm.Cond.code ({ cls := "java/lang/String", name := "equals", desc := "(Ljava/lang/Object;)Z" } : Jvm.MethodName) jdk_42_method_66_code (3 : Nat) (Option.some Jvm.ClassFile.FieldType.boolean)).before args0 about1 = true := code_word (m := ⟨8, 3⟩) (meth := k8m3) (c := k8c3) (by decide +kernel) rfl rfl rfl (by decide +kernel)
set_option maxRecDepth 65536 in
theorem w_c24 : (Jvm.Cond.code ({ cls := "java/lang/StringLatin1", name := "equals", desc := "([B[B)Z" } : Jvm.MethodName) jdk_43_method_13_code (3 : Nat) (Option.some Jvm.ClassFile.FieldType.boolean)).before args0 about1 = true := code_word (m := ⟨12, 1⟩) (meth := k12m1) (c := k12c1) (by decide +kernel) rfl rfl rfl (by decide +kernel)
def codes1 : List Jvm.Cond := [Jvm.Cond.code x code maxLocals ret, Jvm.Cond.code ({ cls := "com/example/timely_errand/timelyerrand/engine/JobIdEqualsPinLaw", name := "same", desc := "(IIIIII)Z" } : Jvm.MethodName) method_10_code (8 : Nat) (Option.some Jvm.ClassFile.FieldType.boolean), Jvm.Cond.code ({ cls := "com/example/timely_errand/timelyerrand/engine/JobIdEqualsPinLaw", name := "bit", desc := "(II)Z" } : Jvm.MethodName) method_3_code (2 : Nat) (Option.some Jvm.ClassFile.FieldType.boolean), Jvm.Cond.code ({ cls := "com/example/timely_errand/timelyerrand/engine/JobIdEqualsPinLaw", name := "rtwo", desc := "(II)Z" } : Jvm.MethodName) method_7_code (2 : Nat) (Option.some Jvm.ClassFile.FieldType.boolean), Jvm.Cond.code ({ cls := "com/example/timely_errand/timelyerrand/engine/JobIdEqualsPinLaw", name := "byteAt", desc := "(II)I" } : Jvm.MethodName) method_2_code (2 : Nat) (Option.some Jvm.ClassFile.FieldType.int), Jvm.Cond.code ({ cls := "com/example/timely_errand/timelyerrand/engine/JobIdEqualsPinLaw", name := "rc1", desc := "(IIII)I" } : Jvm.MethodName) method_5_code (4 : Nat) (Option.some Jvm.ClassFile.FieldType.int), Jvm.Cond.code ({ cls := "com/example/timely_errand/timelyerrand/engine/JobIdEqualsPinLaw", name := "left", desc := "(IIII)Ljava/lang/String;" } : Jvm.MethodName) method_8_code (4 : Nat) (Option.some (Jvm.ClassFile.FieldType.object "java/lang/String")), Jvm.Cond.code ({ cls := "com/example/timely_errand/timelyerrand/engine/JobIdEqualsPinLaw", name := "str", desc := "(IIZ)Ljava/lang/String;" } : Jvm.MethodName) method_4_code (3 : Nat) (Option.some (Jvm.ClassFile.FieldType.object "java/lang/String")), Jvm.Cond.code ({ cls := "java/lang/String", name := "<init>", desc := "([C)V" } : Jvm.MethodName) jdk_42_method_3_code (2 : Nat) (Option.none : Option Jvm.ClassFile.FieldType), Jvm.Cond.code ({ cls := "java/lang/String", name := "<init>", desc := "([CIILjava/lang/Void;)V" } : Jvm.MethodName) jdk_42_method_149_code (6 : Nat) (Option.none : Option Jvm.ClassFile.FieldType), Jvm.Cond.code ({ cls := "java/lang/Object", name := "<init>", desc := "()V" } : Jvm.MethodName) object_method_1_code (1 : Nat) (Option.none : Option Jvm.ClassFile.FieldType), Jvm.Cond.code ({ cls := "java/lang/StringUTF16", name := "compress", desc := "([CII)[B" } : Jvm.MethodName) jdk_52_method_16_code (6 : Nat) (Option.some (Jvm.ClassFile.FieldType.array Jvm.ClassFile.FieldType.byte)), Jvm.Cond.code ({ cls := "java/lang/StringUTF16", name := "compress", desc := "([CI[BII)I" } : Jvm.MethodName) jdk_52_method_21_code (7 : Nat) (Option.some Jvm.ClassFile.FieldType.int), Jvm.Cond.code ({ cls := "java/lang/StringUTF16", name := "coderFromArrayLen", desc := "([BI)B" } : Jvm.MethodName) jdk_52_method_15_code (2 : Nat) (Option.some Jvm.ClassFile.FieldType.byte), Jvm.Cond.code ({ cls := "com/example/timely_errand/timelyerrand/engine/JobCollectionId", name := "<init>", desc := "(Ljava/lang/String;Ljava/lang/String;Ljava/lang/String;)V" } : Jvm.MethodName) prog_18_method_1_code (4 : Nat) (Option.none : Option Jvm.ClassFile.FieldType), Jvm.Cond.code ({ cls := "com/example/timely_errand/timelyerrand/engine/JobCollectionId", name := "requireNonEmpty", desc := "(Ljava/lang/String;Ljava/lang/String;)Ljava/lang/String;" } : Jvm.MethodName) prog_18_method_9_code (2 : Nat) (Option.some (Jvm.ClassFile.FieldType.object "java/lang/String")), Jvm.Cond.code ({ cls := "java/lang/String", name := "isEmpty", desc := "()Z" } : Jvm.MethodName) jdk_42_method_55_code (1 : Nat) (Option.some Jvm.ClassFile.FieldType.boolean), Jvm.Cond.code ({ cls := "com/example/timely_errand/timelyerrand/engine/JobId", name := "<init>", desc := "(Lcom/example/timely_errand/timelyerrand/engine/JobCollectionId;Ljava/lang/String;)V" } : Jvm.MethodName) prog_19_method_1_code (3 : Nat) (Option.none : Option Jvm.ClassFile.FieldType), Jvm.Cond.code ({ cls := "java/util/Objects", name := "requireNonNull", desc := "(Ljava/lang/Object;Ljava/lang/String;)Ljava/lang/Object;" } : Jvm.MethodName) jdk_31_method_11_code (2 : Nat) (Option.some (Jvm.ClassFile.FieldType.object "java/lang/Object")), Jvm.Cond.code ({ cls := "com/example/timely_errand/timelyerrand/engine/JobIdEqualsPinLaw", name := "right", desc := "(IIIIII)Ljava/lang/String;" } : Jvm.MethodName) method_9_code (6 : Nat) (Option.some (Jvm.ClassFile.FieldType.object "java/lang/String")), Jvm.Cond.code ({ cls := "com/example/timely_errand/timelyerrand/engine/JobIdEqualsPinLaw", name := "rc2", desc := "(IIII)I" } : Jvm.MethodName) method_6_code (4 : Nat) (Option.some Jvm.ClassFile.FieldType.int), Jvm.Cond.code ({ cls := "com/example/timely_errand/timelyerrand/engine/JobId", name := "equals", desc := "(Ljava/lang/Object;)Z" } : Jvm.MethodName) prog_19_method_5_code (3 : Nat) (Option.some Jvm.ClassFile.FieldType.boolean), Jvm.Cond.code ({ cls := "com/example/timely_errand/timelyerrand/engine/JobCollectionId", name := "equals", desc := "(Ljava/lang/Object;)Z" } : Jvm.MethodName) prog_18_method_6_code (3 : Nat) (Option.some Jvm.ClassFile.FieldType.boolean), Jvm.Cond.code ({ cls := "java/lang/String", name := "equals", desc := "(Ljava/lang/Object;)Z" } : Jvm.MethodName) jdk_42_method_66_code (3 : Nat) (Option.some Jvm.ClassFile.FieldType.boolean), Jvm.Cond.code ({ cls := "java/lang/StringLatin1", name := "equals", desc := "([B[B)Z" } : Jvm.MethodName) jdk_43_method_13_code (3 : Nat) (Option.some Jvm.ClassFile.FieldType.boolean)]
set_option maxRecDepth 65536 in
theorem codes_eq : words1.filter isCode = codes1 := rfl
theorem w_codes : ∀ c ∈ words1.filter isCode, c.before args0 about1 = true := by
  rw [codes_eq]
  intro c hc
  simp only [codes1, List.mem_cons, List.not_mem_nil, or_false] at hc
  rcases hc with rfl | rfl | rfl | rfl | rfl | rfl | rfl | rfl | rfl | rfl | rfl | rfl | rfl | rfl | rfl | rfl | rfl | rfl | rfl | rfl | rfl | rfl | rfl | rfl | rfl
  · exact w_c0
  · exact w_c1
  · exact w_c2
  · exact w_c3
  · exact w_c4
  · exact w_c5
  · exact w_c6
  · exact w_c7
  · exact w_c8
  · exact w_c9
  · exact w_c10
  · exact w_c11
  · exact w_c12
  · exact w_c13
  · exact w_c14
  · exact w_c15
  · exact w_c16
  · exact w_c17
  · exact w_c18
  · exact w_c19
  · exact w_c20
  · exact w_c21
  · exact w_c22
  · exact w_c23
  · exact w_c24
set_option maxRecDepth 65536 in
theorem w_t1 : (words1.take 24).all (fun c => isCode c || c.before args0 about1) = true := by decide +kernel
set_option maxRecDepth 65536 in
theorem w_t2 : ((words1.drop 24).take 24).all (fun c => isCode c || c.before args0 about1) = true := by decide +kernel
set_option maxRecDepth 65536 in
theorem w_t3 : (((words1.drop 24).drop 24).take 24).all (fun c => isCode c || c.before args0 about1) = true := by decide +kernel
set_option maxRecDepth 65536 in
theorem w_t4 : ((((words1.drop 24).drop 24).drop 24).take 24).all (fun c => isCode c || c.before args0 about1) = true := by decide +kernel
set_option maxRecDepth 65536 in
theorem w_t5 : (((((words1.drop 24).drop 24).drop 24).drop 24).take 24).all (fun c => isCode c || c.before args0 about1) = true := by decide +kernel
set_option maxRecDepth 65536 in
theorem w_t6 : (((((words1.drop 24).drop 24).drop 24).drop 24).drop 24).all (fun c => isCode c || c.before args0 about1) = true := by decide +kernel
theorem w_tables : (allAtoms (Jvm.Cond.code x code maxLocals ret :: tables_1)).before args0 about1 = true := by
  rw [allAtoms_all]
  show words1.all (fun c => c.before args0 about1) = true
  refine all_split ?_ w_codes
  rw [← List.take_append_drop 24 words1, List.all_append, w_t1, ← List.take_append_drop 24 (words1.drop 24), List.all_append, w_t2, ← List.take_append_drop 24 ((words1.drop 24).drop 24), List.all_append, w_t3, ← List.take_append_drop 24 (((words1.drop 24).drop 24).drop 24), List.all_append, w_t4, ← List.take_append_drop 24 ((((words1.drop 24).drop 24).drop 24).drop 24), List.all_append, w_t5, w_t6]
  rfl
set_option maxRecDepth 65536 in
theorem w_rest : rest_1_c.before args0 about1 = true := by decide +kernel
set_option maxRecDepth 65536 in
theorem w_case : (Jvm.Cond.and given_1 narrow_1).before args0 about1 = true := by decide +kernel
theorem w_applies : (headSpec (Jvm.Cond.code x code maxLocals ret :: tables_1) room_1).applies x e0.platform about1 = true :=
  (Spec.applies_iff w_frames).mpr ⟨w_running, w_runnable, w_alone, w_named, w_hears, w_ripe, w_room, w_tables⟩
theorem atStart : AtStart classFile x code maxLocals ret World_1 tables_1 room_1 Calls_1 rest_1 Pre_1 launch0 p0 e0 about1 theMethod args0 below0 :=
  ⟨lists_1, trivial, launch0.admits_env _ _ _, launch0.least_env, fairChoices_fair.cas, fairChoices_fair.clock, w_frames, w_args, w_heap, w_applies, trivial, w_rest, w_case⟩
end start1
theorem witness_1 : WitnessClaimed_1 := ⟨start1.p0, start1.e0, start1.about1, start1.theMethod, start1.args0, start1.below0, start1.atStart⟩
end Jvm.Pilot.@@N@@
