import JvmDerived
import JvmDerived.Pilot.@@N@@Statement
import JvmDerived.Pilot.@@N@@Code
set_option linter.unusedVariables false
set_option linter.unusedSimpArgs false
namespace Jvm.Pilot.@@N@@
open Jvm Jvm.ClassFile Sem Op Lib Jvm.Free Jvm.Stand Jvm.LawKit Jvm.RoadKit Bundle Jvm.Pilot.@@N@@.Jvm.D
section Own
variable {p : Program} {l : Launch} {e : Env} {R : Room} {s : State} {m : MethodId} {args : Array Value} {below : List Frame} {meth : Method} {c : Code} {T T' : State} {cells slots cells' slots' : Nat} {Z : State} {a0 : Array Value} {h h' : Heap} {own : String} {ws ws' : List Addr} {V : Vm → Prop}
  {EN : State → Outcome → State → List Loc → Nat → Nat → Prop} {K N : Nat} {Q : Option Value → Vm → Heap → Prop} {g g' : JFrame}
/-- sizes as numbers -/
theorem natlt {a : Addr} {n : Nat} (h : a < n) : n > a := h
theorem adne {a b : Addr} (h : @LT.lt Nat _ a b ∨ @LT.lt Nat _ b a) : a ≠ b := fun q => by
  subst q; exact h.elim (Nat.lt_irrefl _) (Nat.lt_irrefl _)
/-- what is written lies in the cells ws or in cells made since -/
def Fx (ws : List Addr) (n : Nat) (L : List Loc) : Prop := ∀ y ∈ L, y.base ∈ ws ∨ n ≤ y.base
theorem keep_of {s' : State} {L : List Loc} (q : s.sameButNew s' L K N) (F : Fx ws s.heap.size L) : Keep s.heap s'.heap ws := by
  refine ⟨q.2.1, fun x c hc hx => ?_, fun x c hc => ?_⟩
  · obtain ⟨c', h1, h2, -, h4⟩ := q.2.2.2.2.2 x c hc
    have hb := (Array.getElem?_eq_some_iff.mp hc).1
    have hsl : c'.slots = c.slots := Array.ext_getElem? fun i => h4 i fun hm => (F _ hm).elim (fun r => hx r) (fun r => absurd r (Nat.not_le.mpr hb))
    have hcc : c' = c := by rw [h2, hsl]
    rw [← hcc]; exact h1
  · obtain ⟨c', h1, h2, h3, -⟩ := q.2.2.2.2.2 x c hc
    exact ⟨c', h1, by rw [h2], by rw [h2], h3⟩
/-- where a walk stands -/
def Hs (p : Program) (l : Launch) (e : Env) (R : Room) (s : State) (m : MethodId) (args : Array Value) (below : List Frame) (meth : Method) (c : Code) (Z : State) (own : String) (ws : List Addr) (V : Vm → Prop) (T : State) (h : Heap) (cells slots : Nat) : Prop :=
  ∃ (vm0 : Vm) (k0 : Nat) (locs : List Loc), p.tables.exec = Jvm.exec ∧ Stand p l e R (s.setVm vm0) m args below meth c T locs cells slots ∧ s.Since vm0 k0 ∧ k0 ≤ h.size ∧ Z.Warmed39 vm0 ∧ vm0.findClass own = some m.cls ∧ T.heap = h ∧ Fx ws s.heap.size locs ∧ V vm0 ∧ Ext Z.heap s.heap ∧ ∀ w ∈ ws, Z.heap.size ≤ w
theorem Hs.here (H : Hs p l e R s m args below meth c Z own ws V T h cells slots) : At T m c below := by
  obtain ⟨_, _, _, _, X, _⟩ := H; exact X.here
theorem Hs.ex (H : Hs p l e R s m args below meth c Z own ws V T h cells slots) : p.tables.exec = Jvm.exec := by
  obtain ⟨_, _, _, hx, _⟩ := H; exact hx
theorem Hs.keep (H : Hs p l e R s m args below meth c Z own ws V T h cells slots) : Keep s.heap h ws := by
  obtain ⟨vm0, k0, locs, hx, X, hS, hk, hZ, ho, rfl, F, -⟩ := H
  exact keep_of (s := s.setVm vm0) (s' := T.setVm (s.setVm vm0).vm) X.same F
theorem Hs.ge (H : Hs p l e R s m args below meth c Z own ws V T h cells slots) : s.heap.size ≤ h.size := H.keep.1
theorem Hs.old (H : Hs p l e R s m args below meth c Z own ws V T h cells slots) : Ext Z.heap h := by
  have K := H.keep
  obtain ⟨vm0, k0, locs, hx, X, hS, hk, hZ, ho, eT, F, hV, O, hw⟩ := H
  refine ⟨Nat.le_trans O.1 K.1, fun a cl q => K.2.1 a cl (O.2 a cl q) fun r => ?_⟩
  exact absurd (Array.getElem?_eq_some_iff.mp q).1 (Nat.not_lt.mpr (hw a r))
theorem Hs.more (H : Hs p l e R s m args below meth c Z own ws V T h cells slots) (hc : cells ≤ cells') (hn : slots ≤ slots') : Hs p l e R s m args below meth c Z own ws V T h cells' slots' := by
  obtain ⟨vm0, k0, locs, hx, X, r⟩ := H
  exact ⟨vm0, k0, locs, hx, X.mono hc hn, r⟩
theorem Hs.weak (H : Hs p l e R s m args below meth c Z own ws V T h cells slots) (q : ∀ w ∈ ws, w ∈ ws') (r : ∀ w ∈ ws', Z.heap.size ≤ w) : Hs p l e R s m args below meth c Z own ws' V T h cells slots := by
  obtain ⟨vm0, k0, locs, hx, X, hS, hk, hZ, ho, eT, F, hV, O, hw⟩ := H
  exact ⟨vm0, k0, locs, hx, X, hS, hk, hZ, ho, eT, fun y hy => (F y hy).imp (q _) id, hV, O, r⟩
theorem Hs.reV {V' : Vm → Prop} (H : Hs p l e R s m args below meth c Z own ws V T h cells slots) (q : ∀ vm, V vm → V' vm) : Hs p l e R s m args below meth c Z own ws V' T h cells slots := by
  obtain ⟨vm0, k0, locs, hx, X, hS, hk, hZ, ho, eT, F, hV, r⟩ := H
  exact ⟨vm0, k0, locs, hx, X, hS, hk, hZ, ho, eT, F, q _ hV, r⟩
/-- a predicate on the tables that a resolution leaves -/
def Stab (V : Vm → Prop) : Prop := ∀ (s : State) (vm1 : Vm), s.WarmedH vm1 → V s.vm → V vm1
theorem Hs.vm (H : Hs p l e R s m args below meth c Z own ws V T h cells slots) (q : Stab V) : V T.vm := by
  obtain ⟨vm0, k0, locs, hx, X, hS, hk, hZ, ho, eT, F, hV, O, hw⟩ := H
  exact q _ _ X.warmed hV
/-- it runs to its end, and Q holds there -/
def Rn (p : Program) (e : Env) (below : List Frame) (s : State) (EN : State → Outcome → State → List Loc → Nat → Nat → Prop) (ws : List Addr) (K N : Nat) (Q : Option Value → Vm → Heap → Prop) (T : State) (g : JFrame) : Prop :=
  ∃ s₂ o, Steps p.tables e below (T.setTop g) s₂ ∧ s₂.status = .running ∧ Ended s₂ below o ∧ ∃ v L, o = .returned v ∧ (Q v s₂.vm s₂.heap ∧ Fx ws s.heap.size L ∧ Keep s.heap s₂.heap ws) ∧ EN s o s₂ L K N
theorem Rn.pu (r : Rn p e below s EN ws K N Q T' g') (st : ∀ t, Steps p.tables e below (T'.setTop g') t → Steps p.tables e below (T.setTop g) t) : Rn p e below s EN ws K N Q T g := by
  obtain ⟨s₂, o, h1, h2⟩ := r; exact ⟨s₂, o, st _ h1, h2⟩
/-- how a walk may end -/
def Ends (EN : State → Outcome → State → List Loc → Nat → Nat → Prop) (s : State) (V : Vm → Prop) : Prop :=
  ∀ (vm0 : Vm) (k0 : Nat) (t : State) (v : Option Value) (L : List Loc) (K N : Nat), V vm0 → s.Since vm0 k0 → k0 ≤ t.heap.size → (s.setVm vm0).WarmedH t.vm → (s.setVm vm0).sameButNew ({ t with vm := (s.setVm vm0).vm } : State) L K N → EN s (.returned v) t L K N
theorem ends_N : Ends FrameEnd s (fun v => v = s.vm) := by
  intro vm0 k0 t v L K N hv hS hk hW hs
  subst hv
  exact ⟨⟨v, rfl⟩, hW, hs⟩
theorem ends_W : Ends ReturnedEndW s V := by
  intro vm0 k0 t v L K N hv hS hk hW hs
  obtain ⟨a, b, c'⟩ := hS.ended (U := t) hW hk hs
  exact ⟨⟨v, rfl⟩, a, b, c'⟩
theorem Hs.fin (H : Hs p l e R s m args below meth c Z own ws V T h cells slots) (hE : Ends EN s V) (hlk : meth.locks = false) {v : Option Value} (hv : meth.sig.returnType = none → v = none) (hc : cells ≤ K) (hn : slots ≤ N) (hws : ∀ w ∈ ws, w ∈ ws') (hQ : Q v T.vm h)
    (st : ∀ fs, (∀ (f : JFrame) (acts : List Action), f.method = m → f.locked = none → f.entered = [] → (doReturn e (T.setTop f) acts v).1 = T.setFrames fs) → Steps p.tables e below (T.setTop g) (T.setFrames fs)) : Rn p e below s EN ws' K N Q T g := by
  have KK := H.keep
  obtain ⟨vm0, k0, locs, hx, X, hS, hk, hZ, ho, rfl, F, hV, O, hw⟩ := H
  obtain ⟨fs, hr, hrun, hended, hW, hsame⟩ := X.leave (v := v) hv hlk
  refine ⟨_, _, st fs hr, hrun, hended, v, locs, rfl, ⟨hQ, fun y hy => (F y hy).imp (hws _) id, ⟨KK.1, fun x cl q r => KK.2.1 x cl q fun z => r (hws _ z), KK.2.2⟩⟩, hE vm0 k0 _ v locs K N hV hS hk hW (hsame.mono hc hn)⟩
theorem retI {pc : Nat} {Ls : Array Slot} {z : Int32} {rest : List Value} {locs : List Loc} (X : Stand p l e R s m args below meth c T locs cells slots) (hx : p.tables.exec = Jvm.exec) (hret : meth.sig.returnType = some .int) (hd : decode c.code pc = .ok (.ireturn, 1)) {fs : List Frame}
    (hl : ∀ (f : JFrame) (acts : List Action), f.method = m → f.locked = none → f.entered = [] → (doReturn e (T.setTop f) acts (some (.int z))).1 = T.setFrames fs) : Steps p.tables e below (T.setTop (mkF m pc Ls (.int z :: rest))) (T.setFrames fs) := by
  have hm' : T.vm.method? m = some meth := X.method'
  have hn : narrow .int (.int z) = .int z := rfl
  show Steps p.tables e below (T.setTop { method := m, pc := pc, locals := Ls, stack := _ :: rest, locked := none }) _
  jvm_step X.here [X.here.top, hx, hd, hm', hret, hn]
  first | (intro acts; rw [hl _ acts rfl rfl rfl]) | rw [hl _ _ rfl rfl rfl]
  exact Steps.refl _
theorem Hs.retI (H : Hs p l e R s m args below meth c Z own ws V T h cells slots) (hE : Ends EN s V) (hlk : meth.locks = false) (hret : meth.sig.returnType = some .int) {pc : Nat} {Ls : Array Slot} {z : Int32} {rest : List Value} (hd : decode c.code pc = .ok (.ireturn, 1)) (hc : cells ≤ K) (hn : slots ≤ N) (hws : ∀ w ∈ ws, w ∈ ws') (hQ : Q (some (.int z)) T.vm h) :
    Rn p e below s EN ws' K N Q T (mkF m pc Ls (.int z :: rest)) := by
  refine H.fin hE hlk (v := some (.int z)) (fun q => by rw [hret] at q; cases q) hc hn hws hQ fun fs hr => ?_
  obtain ⟨vm0, k0, locs, hx, X, -⟩ := H
  exact Jvm.Pilot.@@N@@.retI X hx hret hd hr
theorem Hs.retS (H : Hs p l e R s m args below meth c Z own ws V T h cells slots) (hE : Ends EN s V) (hlk : meth.locks = false) {t : FieldType} (hret : meth.sig.returnType = some t) (ht : t = .boolean ∨ t = .byte ∨ t = .char ∨ t = .short) {pc : Nat} {Ls : Array Slot} {z : Int32} {rest : List Value} (hd : decode c.code pc = .ok (.ireturn, 1)) (hc : cells ≤ K) (hn : slots ≤ N) (hws : ∀ w ∈ ws, w ∈ ws') (hQ : Q (some (.int (nar t z))) T.vm h) :
    Rn p e below s EN ws' K N Q T (mkF m pc Ls (.int z :: rest)) := by
  refine H.fin hE hlk (v := some (.int (nar t z))) (fun q => by rw [hret] at q; cases q) hc hn hws hQ fun fs hr => ?_
  obtain ⟨vm0, k0, locs, hx, X, -⟩ := H
  exact RoadKit.retN X hx hret ht hd hr
theorem Hs.retA (H : Hs p l e R s m args below meth c Z own ws V T h cells slots) (hE : Ends EN s V) (hlk : meth.locks = false) {t : FieldType} (hret : meth.sig.returnType = some t) {w : Value} (hnw : narrow t w = w) (hr1 : t.isReference = true) (hr2 : w.isRef = true) {pc : Nat} {Ls : Array Slot} {rest : List Value} (hd : decode c.code pc = .ok (.areturn, 1)) (hc : cells ≤ K) (hn : slots ≤ N) (hws : ∀ w ∈ ws, w ∈ ws') (hQ : Q (some w) T.vm h) :
    Rn p e below s EN ws' K N Q T (mkF m pc Ls (w :: rest)) := by
  refine H.fin hE hlk (v := some w) (fun q => by rw [hret] at q; cases q) hc hn hws hQ fun fs hr => ?_
  obtain ⟨vm0, k0, locs, hx, X, -⟩ := H
  exact retOut X hx hret hnw (Or.inr (Or.inr (Or.inr (Or.inr ⟨rfl, hr1, hr2⟩)))) hd hr
theorem Hs.retV (H : Hs p l e R s m args below meth c Z own ws V T h cells slots) (hE : Ends EN s V) (hlk : meth.locks = false) (hret : meth.sig.returnType = none) {pc : Nat} {Ls : Array Slot} (hd : decode c.code pc = .ok (.return_, 1)) (hc : cells ≤ K) (hn : slots ≤ N) (hws : ∀ w ∈ ws, w ∈ ws') (hQ : Q none T.vm h) :
    Rn p e below s EN ws' K N Q T (mkF m pc Ls []) := by
  refine H.fin hE hlk (v := none) (fun _ => rfl) hc hn hws hQ fun fs hr => ?_
  obtain ⟨vm0, k0, locs, hx, X, -⟩ := H
  exact X.returnOut hx hret hd hr
/-! contracts -/
def MetN (l : Launch) (Z : State) (y : MethodName) (bytes : ByteArray) (maxL : Nat) (ret : Option FieldType) (wl : List Jvm.Cond) (rm : Room) (as' : Array Value) (h : Heap) (ws : List Addr) (Q : Option Value → Heap → Prop) : Prop :=
  MetFree l y (head1 (Jvm.Cond.code y bytes maxL ret :: wl) rm) (fun a U => a = as' ∧ Z.Warmed39 U.vm ∧ U.heap = h) (fun _ _ _ _ _ => True)
    (fun _ U o U' => ∃ v L, o = .returned v ∧ (Q v U'.heap ∧ Fx ws h.size L ∧ Keep h U'.heap ws) ∧ FrameEnd U o U' L rm.cells rm.slots)
def MetW (l : Launch) (Z : State) (y : MethodName) (bytes : ByteArray) (maxL : Nat) (ret : Option FieldType) (wl : List Jvm.Cond) (rm : Room) (as' : Array Value) (h : Heap) (ws : List Addr) (J : Vm → Prop) (Q : Option Value → Vm → Heap → Prop) : Prop :=
  MetFree l y (head1 (Jvm.Cond.code y bytes maxL ret :: wl) rm) (fun a U => a = as' ∧ Z.Warmed39 U.vm ∧ U.heap = h ∧ J U.vm) (fun _ _ _ _ _ => True)
    (fun _ U o U' => ∃ v L, o = .returned v ∧ (Q v U'.vm U'.heap ∧ Fx ws h.size L ∧ Keep h U'.heap ws) ∧ ReturnedEndW U o U' L rm.cells rm.slots)
variable {y : MethodName} {bytes : ByteArray} {maxL : Nat} {ret' : Option FieldType} {wl : List Jvm.Cond} {rm : Room} {as' : Array Value} {QN : Option Value → Heap → Prop} {J : Vm → Prop}
theorem MetN.mk (hx : plainFor y = true) {Ls : Array Slot} (hef : ∀ m, entryFrame m as' maxL = mkF m 0 Ls []) (O : Ext Z.heap h) 
    (body : ∀ (p : Program) (e : Env) (s : State) (m : MethodId) (below : List Frame) (meth : Method) (c : Code) (T : State), p.tables.exec = Jvm.exec → c.code = bytes → c.maxLocals = maxL → meth.sig.returnType = ret' → meth.locks = false → meth.name = y.name → s.heap = h →
      Hs p l e rm s m as' below meth c Z y.cls [] (fun v => v = s.vm) T h 0 0 → Rn p e below s FrameEnd ws rm.cells rm.slots (fun v _ h' => QN v h') T (mkF m 0 Ls [])) :
    MetN l Z y bytes maxL ret' wl rm as' h ws QN := by
  refine MetFree.of_bodySF hx hisR ?_
  intro p e s m args below meth c s₁ Bd hml0 hP hK
  obtain ⟨rfl, hZ, hh⟩ := hP
  have X0 : Stand p l e rm s m args below meth c s₁ [] 0 0 := Stand.of_body Bd
  have e0 : s₁.heap = h := by rw [← hh, Bd.state]; rfl
  obtain ⟨s₂, o, h1, h2, h3, v, L, h4, ⟨h5, h6, h7⟩, h8⟩ := body p e s m below meth c s₁ Bd.exec Bd.bytes hml0 Bd.returns Bd.notSynchronized (name_of_methodNamed Bd.named Bd.method).1 hh
    ⟨s.vm, 0, [], Bd.exec, X0, (State.WarmedH.refl s).since _, Nat.zero_le _, hZ, findClass_of_methodNamed Bd.named, e0, (fun y hy => nomatch hy), rfl, (by rw [hh]; exact O), (fun y hy => nomatch hy)⟩
  subst hh
  exact ⟨s₂, o, castTop (hef m) h1, h2, h3, v, L, h4, ⟨h5, h6, h7⟩, h8⟩
theorem MetW.mk (hx : plainFor y = true) {Ls : Array Slot} (hef : ∀ m, entryFrame m as' maxL = mkF m 0 Ls []) (O : Ext Z.heap h) 
    (body : ∀ (p : Program) (e : Env) (s : State) (m : MethodId) (below : List Frame) (meth : Method) (c : Code) (T : State), p.tables.exec = Jvm.exec → c.code = bytes → c.maxLocals = maxL → meth.sig.returnType = ret' → meth.locks = false → meth.name = y.name → s.heap = h →
      Hs p l e rm s m as' below meth c Z y.cls [] J T h 0 0 → Rn p e below s ReturnedEndW ws rm.cells rm.slots Q T (mkF m 0 Ls [])) :
    MetW l Z y bytes maxL ret' wl rm as' h ws J Q := by
  refine MetFree.of_bodySF hx hisR ?_
  intro p e s m args below meth c s₁ Bd hml0 hP hK
  obtain ⟨rfl, hZ, hh, hJ⟩ := hP
  have X0 : Stand p l e rm s m args below meth c s₁ [] 0 0 := Stand.of_body Bd
  have e0 : s₁.heap = h := by rw [← hh, Bd.state]; rfl
  obtain ⟨s₂, o, h1, h2, h3, v, L, h4, ⟨h5, h6, h7⟩, h8⟩ := body p e s m below meth c s₁ Bd.exec Bd.bytes hml0 Bd.returns Bd.notSynchronized (name_of_methodNamed Bd.named Bd.method).1 hh
    ⟨s.vm, 0, [], Bd.exec, X0, (State.WarmedH.refl s).since _, Nat.zero_le _, hZ, findClass_of_methodNamed Bd.named, e0, (fun y hy => nomatch hy), hJ, (by rw [hh]; exact O), (fun y hy => nomatch hy)⟩
  subst hh
  exact ⟨s₂, o, castTop (hef m) h1, h2, h3, v, L, h4, ⟨h5, h6, h7⟩, h8⟩
/-- who pays a call -/
def PayN (l : Launch) (R : Room) (p : Program) (e : Env) (below : List Frame) (args : Array Value) (Z : State) (y : MethodName) (W : Nat) (as' : Array Value) (h : Heap) (kc ks : Nat) (ws : List Addr) (Q : Option Value → Heap → Prop) : Prop :=
  ∀ s : State, Z.Warmed39 s.vm → Back l R p e below s args y 3 W (fun A a => a = as' ∧ A.U.heap = h ∧ A.cells + kc ≤ R.cells ∧ A.slots + ks ≤ R.slots)
    (fun A _ v B => ∃ L, (Q v B.U.heap ∧ Fx ws h.size L ∧ Keep h B.U.heap ws) ∧ B.locs = A.locs ++ L ∧ B.cells = A.cells + kc ∧ B.slots = A.slots + ks)
def PayW (l : Launch) (R : Room) (p : Program) (e : Env) (below : List Frame) (args : Array Value) (Z : State) (y : MethodName) (W : Nat) (as' : Array Value) (h : Heap) (kc ks : Nat) (ws : List Addr) (J : Vm → Prop) (Q : Option Value → Vm → Heap → Prop) : Prop :=
  ∀ s : State, Z.Warmed39 s.vm → BackS l R p e below s args y 3 W (fun A a => a = as' ∧ A.U.heap = h ∧ A.cells + kc ≤ R.cells ∧ A.slots + ks ≤ R.slots ∧ J A.U.vm)
    (fun A _ v B => ∃ L, (Q v B.U.vm B.U.heap ∧ Fx ws h.size L ∧ Keep h B.U.heap ws) ∧ B.locs = A.locs ++ L ∧ B.cells = A.cells + kc ∧ B.slots = A.slots + ks)
theorem MetN.pay {W : Nat} (M : MetN l Z y bytes maxL ret' [] rm as' h ws QN) (wc : (Jvm.Cond.code y bytes maxL ret').before a0 Z = true) (wz : (Jvm.Cond.initialized y.cls).before a0 Z = true) (hf : rm.frames + 1 ≤ R.frames) (hl : W + (maxL + 11) + rm.locals ≤ R.locals) :
    PayN l R p e below args Z y W as' h rm.cells rm.slots ws QN := fun s hZ => backOf (Q := fun v h' L => QN v h' ∧ Fx ws h.size L ∧ Keep h h' ws) M hZ wc wz hf hl
theorem MetW.pay {W : Nat} (M : MetW l Z y bytes maxL ret' [] rm as' h ws J Q) (wc : (Jvm.Cond.code y bytes maxL ret').before a0 Z = true) (wz : (Jvm.Cond.initialized y.cls).before a0 Z = true) (hf : rm.frames + 1 ≤ R.frames) (hl : W + (maxL + 11) + rm.locals ≤ R.locals) :
    PayW l R p e below args Z y W as' h rm.cells rm.slots ws J Q := fun s hZ =>
  BackS.of_freeW (bytes := bytes) (maxL := maxL) (ret := ret') (E := fun _ _ o t L k n => k = rm.cells ∧ n = rm.slots ∧ ∃ v, o = .returned v ∧ (Q v t.vm t.heap ∧ Fx ws h.size L ∧ Keep h t.heap ws)) M hf hl
    (fun m meth c A a Y hp => have hU : Z.Warmed39 A.U.vm := wtrans hZ Y.warmed
      ⟨by show (Jvm.Cond.and _ .tt).before a A.U = true; rw [Cond.before_and, mv hU wc]; rfl, mv hU wc, mv hU wz, hp.2.2.1, hp.2.2.2.1⟩)
    (fun m meth c A a g mk Y hp => ⟨hp.1, wtrans hZ Y.warmed, hp.2.1, hp.2.2.2.2⟩) (fun _ _ _ _ _ _ _ _ _ => trivial)
    (fun _ _ _ _ ⟨v, L, h1, h2, h3⟩ => ⟨L, _, _, h3, rfl, rfl, v, h1, h2⟩)
    (fun m meth c A a g mk v t L k n Y hp _ _ ⟨e1, e2, v', e3, e4⟩ => by cases e3; subst e1 e2; exact ⟨L, e4, rfl, rfl, rfl⟩)
theorem fx_app {L L' : List Loc} {n n' : Nat} (F : Fx ws n L) (F' : Fx ws' n' L') (q : ∀ w ∈ ws', w ∈ ws ∨ n ≤ w) (r : n ≤ n') : Fx ws n (L ++ L') := fun y hy =>
  (List.mem_append.mp hy).elim (F y) fun z => (F' y z).elim (q _) fun u => Or.inr (Nat.le_trans r u)
/-- invokestatic, by its contract -/
theorem Hs.callS (H : Hs p l e R s m args below meth c Z own ws V T h cells slots) {index : Nat} (w1 : (Jvm.Cond.methodLink own index y).before a0 Z = true) (w2 : (Jvm.Cond.static y).before a0 Z = true) (w3 : (Jvm.Cond.initialized y.cls).before a0 Z = true) (w4 : (Jvm.Cond.code y bytes maxL ret').before a0 Z = true)
    (hy : y.cls ≠ "java/lang/invoke/MethodHandle" ∧ y.cls ≠ "java/lang/invoke/VarHandle") {W kc ks : Nat} (P : PayN l R p e below args Z y W as' h kc ks ws' QN) (hg : g.method = m) (hsize : g.locals.size = c.maxLocals) {argsL rest : List Value} (hlen : ∀ sig, parseMethodDescriptor y.desc = some sig → argsL.length = sig.parameters.length)
    (hst : g.stack = argsL.reverse ++ rest) (ha : argsL.toArray = as') (hW : 2 * g.monitorRoom + (rest.map fun v => v.category).sum ≤ W) (hd : decode c.code g.pc = .ok (.invokestatic index, 3)) (hc : cells + kc ≤ R.cells) (hl : slots + ks ≤ R.slots) (hws : ∀ w ∈ ws', w ∈ ws ∨ s.heap.size ≤ w) :
    ∃ v T' h', Hs p l e R s m args below meth c Z own ws V T' h' (cells + kc) (slots + ks) ∧ QN v h' ∧ Keep h h' ws' ∧ ∀ t, Steps p.tables e below (T'.setTop { g with pc := g.pc + 3, stack := v.toList ++ rest }) t → Steps p.tables e below (T.setTop g) t := by
  have ge := H.ge
  obtain ⟨vm0, k0, locs, hx, X, hS, hk, hZ, ho, eT, F, hV, O, hw⟩ := H
  obtain ⟨v, vm1, ⟨U, L', c', s'⟩, hW1, X', ⟨L, ⟨q1, q2, q3⟩, rfl, rfl, rfl⟩, st⟩ := Jvm.LawKit.callS X hx ho (mvT (s := s.setVm vm0) hZ w1) (mvT (s := s.setVm vm0) hZ w2) (mvT (s := s.setVm vm0) hZ w3) (mvT (s := s.setVm vm0) hZ w4) hy (P (s.setVm vm0) hZ) hg hsize hlen hst hW hd (fun _ _ => ⟨ha, eT, hc, hl⟩)
  exact ⟨v, U, U.heap, ⟨vm0, k0, _, hx, X', hS, Nat.le_trans hk q3.1, hZ, ho, rfl, fx_app F q2 hws ge, hV, O, hw⟩, q1, q3, st⟩
theorem Hs.callSW (H : Hs p l e R s m args below meth c Z own ws V T h cells slots) {index : Nat} (w1 : (Jvm.Cond.methodLink own index y).before a0 Z = true) (w2 : (Jvm.Cond.static y).before a0 Z = true) (w3 : (Jvm.Cond.initialized y.cls).before a0 Z = true) (w4 : (Jvm.Cond.code y bytes maxL ret').before a0 Z = true)
    (hy : y.cls ≠ "java/lang/invoke/MethodHandle" ∧ y.cls ≠ "java/lang/invoke/VarHandle") {W kc ks : Nat} (P : PayW l R p e below args Z y W as' h kc ks ws' J Q) (hg : g.method = m) (hsize : g.locals.size = c.maxLocals) {argsL rest : List Value} (hlen : ∀ sig, parseMethodDescriptor y.desc = some sig → argsL.length = sig.parameters.length)
    (hst : g.stack = argsL.reverse ++ rest) (ha : argsL.toArray = as') (hW : 2 * g.monitorRoom + (rest.map fun v => v.category).sum ≤ W) (hd : decode c.code g.pc = .ok (.invokestatic index, 3)) (hc : cells + kc ≤ R.cells) (hl : slots + ks ≤ R.slots) (hws : ∀ w ∈ ws', w ∈ ws ∨ s.heap.size ≤ w)
    (hJ : ∀ (U : State) (vm1 : Vm), V U.vm → U.WarmedH vm1 → J vm1) :
    ∃ v T' h', Hs p l e R s m args below meth c Z own ws (fun v => v = T'.vm) T' h' (cells + kc) (slots + ks) ∧ Q v T'.vm h' ∧ Keep h h' ws' ∧ ∀ t, Steps p.tables e below (T'.setTop { g with pc := g.pc + 3, stack := v.toList ++ rest }) t → Steps p.tables e below (T.setTop g) t := by
  have ge := H.ge
  obtain ⟨vm0, k0, locs, hx, X, hS, hk, hZ, ho, eT, F, hV, O, hw⟩ := H
  obtain ⟨v, vm1, ⟨U, L', c', s'⟩, hW1, X', hS', hgr, ⟨L, ⟨q1, q2, q3⟩, rfl, rfl, rfl⟩, st⟩ := callSS X hx ho (mvT (s := s.setVm vm0) hZ w1) (mvT (s := s.setVm vm0) hZ w2) (mvT (s := s.setVm vm0) hZ w3) (mvT (s := s.setVm vm0) hZ w4) hy (P (s.setVm vm0) hZ) hg hsize hlen hst hW hd (fun vm1 hw1 => ⟨ha, eT, hc, hl, hJ _ _ hV hw1⟩)
  obtain ⟨r1, r2, r3, r4⟩ := rebS hS (by rw [← eT] at hk; exact hk) X' hS' hgr hZ ho
  exact ⟨v, U, U.heap, ⟨U.vm, _, _, hx, r1, r2, Nat.le_refl _, r3, r4, rfl, fx_app F q2 hws ge, rfl, O, hw⟩, q1, q3, fun t k => st.trans k⟩
/-- invokevirtual, by its contract -/
theorem Hs.callV (H : Hs p l e R s m args below meth c Z own ws V T h cells slots) {index : Nat} {C : String} (w1 : (Jvm.Cond.methodLink own index y).before a0 Z = true) (w2 : (Jvm.Cond.declares y).before a0 Z = true) (w3 : (Jvm.Cond.selects C y y).before a0 Z = true) (w4 : (Jvm.Cond.instanceMethod y).before a0 Z = true)
    (hy : y.cls ≠ "java/lang/invoke/MethodHandle" ∧ y.cls ≠ "java/lang/invoke/VarHandle") {W kc ks : Nat} (P : PayN l R p e below args Z y W as' h kc ks ws' QN) {b : Addr} (E : Exa Z h b C) (hg : g.method = m) (hsize : g.locals.size = c.maxLocals) {argsL rest : List Value} (hlen : ∀ sig, parseMethodDescriptor y.desc = some sig → argsL.length = sig.parameters.length)
    (hst : g.stack = argsL.reverse ++ .ref b :: rest) (ha : (Value.ref b :: argsL).toArray = as') (hW : 2 * g.monitorRoom + (rest.map fun v => v.category).sum ≤ W) (hd : decode c.code g.pc = .ok (.invokevirtual index, 3)) (hc : cells + kc ≤ R.cells) (hl : slots + ks ≤ R.slots) (hws : ∀ w ∈ ws', w ∈ ws ∨ s.heap.size ≤ w) :
    ∃ v T' h', Hs p l e R s m args below meth c Z own ws V T' h' (cells + kc) (slots + ks) ∧ QN v h' ∧ Keep h h' ws' ∧ ∀ t, Steps p.tables e below (T'.setTop { g with pc := g.pc + 3, stack := v.toList ++ rest }) t → Steps p.tables e below (T.setTop g) t := by
  have ge := H.ge
  obtain ⟨vm0, k0, locs, hx, X, hS, hk, hZ, ho, eT, F, hV, O, hw⟩ := H
  obtain ⟨cB, kB, i1, i2, i3⟩ := isOf (s := s.setVm vm0) hZ eT E
  obtain ⟨v, vm1, ⟨U, L', c', s'⟩, hW1, X', ⟨L, ⟨q1, q2, q3⟩, rfl, rfl, rfl⟩, st⟩ := X.virtualBack hx ho (mvT (s := s.setVm vm0) hZ w1) (mvT (s := s.setVm vm0) hZ w2) (notFace_of_selects (args := #[]) (mvT (s := s.setVm vm0) hZ w3)) (mvT (s := s.setVm vm0) hZ w3) (mvT (s := s.setVm vm0) hZ w4) hy (P (s.setVm vm0) hZ) i1 i3 hg hsize (Steps.refl _) hlen hst hW hd (fun _ _ => ⟨ha, eT, hc, hl⟩)
  exact ⟨v, U, U.heap, ⟨vm0, k0, _, hx, X', hS, Nat.le_trans hk q3.1, hZ, ho, rfl, fx_app F q2 hws ge, hV, O, hw⟩, q1, q3, fun t k => st.trans k⟩
theorem Hs.callVW (H : Hs p l e R s m args below meth c Z own ws V T h cells slots) {index : Nat} {C : String} (w1 : (Jvm.Cond.methodLink own index y).before a0 Z = true) (w2 : (Jvm.Cond.declares y).before a0 Z = true) (w3 : (Jvm.Cond.selects C y y).before a0 Z = true) (w4 : (Jvm.Cond.instanceMethod y).before a0 Z = true)
    (hy : y.cls ≠ "java/lang/invoke/MethodHandle" ∧ y.cls ≠ "java/lang/invoke/VarHandle") {W kc ks : Nat} (P : PayW l R p e below args Z y W as' h kc ks ws' J Q) {b : Addr} (E : Exa Z h b C) (hg : g.method = m) (hsize : g.locals.size = c.maxLocals) {argsL rest : List Value} (hlen : ∀ sig, parseMethodDescriptor y.desc = some sig → argsL.length = sig.parameters.length)
    (hst : g.stack = argsL.reverse ++ .ref b :: rest) (ha : (Value.ref b :: argsL).toArray = as') (hW : 2 * g.monitorRoom + (rest.map fun v => v.category).sum ≤ W) (hd : decode c.code g.pc = .ok (.invokevirtual index, 3)) (hc : cells + kc ≤ R.cells) (hl : slots + ks ≤ R.slots) (hws : ∀ w ∈ ws', w ∈ ws ∨ s.heap.size ≤ w)
    (hJ : ∀ (U : State) (vm1 : Vm), V U.vm → U.WarmedH vm1 → J vm1) :
    ∃ v T' h', Hs p l e R s m args below meth c Z own ws (fun v => v = T'.vm) T' h' (cells + kc) (slots + ks) ∧ Q v T'.vm h' ∧ Keep h h' ws' ∧ ∀ t, Steps p.tables e below (T'.setTop { g with pc := g.pc + 3, stack := v.toList ++ rest }) t → Steps p.tables e below (T.setTop g) t := by
  have ge := H.ge
  obtain ⟨vm0, k0, locs, hx, X, hS, hk, hZ, ho, eT, F, hV, O, hw⟩ := H
  obtain ⟨cB, kB, i1, i2, i3⟩ := isOf (s := s.setVm vm0) hZ eT E
  obtain ⟨v, vm1, ⟨U, L', c', s'⟩, hW1, X', hS', hgr, ⟨L, ⟨q1, q2, q3⟩, rfl, rfl, rfl⟩, st⟩ := X.virtualBackS hx ho (mvT (s := s.setVm vm0) hZ w1) (mvT (s := s.setVm vm0) hZ w2) (notFace_of_selects (args := #[]) (mvT (s := s.setVm vm0) hZ w3)) (mvT (s := s.setVm vm0) hZ w3) (mvT (s := s.setVm vm0) hZ w4) hy (P (s.setVm vm0) hZ) i1 i3 hg hsize (Steps.refl _) hlen hst hW hd (fun vm1 hw1 => ⟨ha, eT, hc, hl, hJ _ _ hV hw1⟩)
  obtain ⟨r1, r2, r3, r4⟩ := rebS hS (by rw [← eT] at hk; exact hk) X' hS' hgr hZ ho
  exact ⟨v, U, U.heap, ⟨U.vm, _, _, hx, r1, r2, Nat.le_refl _, r3, r4, rfl, fx_app F q2 hws ge, rfl, O, hw⟩, q1, q3, fun t k => st.trans k⟩
/-- a constructor, by its contract -/
theorem Hs.callI (H : Hs p l e R s m args below meth c Z own ws V T h cells slots) {index : Nat} (hy1 : y.name = "<init>") (w1 : (Jvm.Cond.methodLink own index y).before a0 Z = true) (w2 : (Jvm.Cond.instanceMethod y).before a0 Z = true) (w3 : (Jvm.Cond.code y bytes maxL none).before a0 Z = true)
    (hy : y.cls ≠ "java/lang/invoke/MethodHandle" ∧ y.cls ≠ "java/lang/invoke/VarHandle") {W kc ks : Nat} (P : PayN l R p e below args Z y W as' h kc ks ws' QN) (hg : g.method = m) (hsize : g.locals.size = c.maxLocals) {b : Addr} {argsL rest : List Value} (hlen : ∀ sig, parseMethodDescriptor y.desc = some sig → argsL.length = sig.parameters.length)
    (hst : g.stack = argsL.reverse ++ .ref b :: rest) (ha : (Value.ref b :: argsL).toArray = as') (hW : 2 * g.monitorRoom + (rest.map fun v => v.category).sum ≤ W) (hd : decode c.code g.pc = .ok (.invokespecial index, 3)) (hc : cells + kc ≤ R.cells) (hl : slots + ks ≤ R.slots) (hws : ∀ w ∈ ws', w ∈ ws ∨ s.heap.size ≤ w) :
    ∃ v T' h', Hs p l e R s m args below meth c Z own ws V T' h' (cells + kc) (slots + ks) ∧ QN v h' ∧ Keep h h' ws' ∧ ∀ t, Steps p.tables e below (T'.setTop { g with pc := g.pc + 3, stack := v.toList ++ rest }) t → Steps p.tables e below (T.setTop g) t := by
  have ge := H.ge
  obtain ⟨vm0, k0, locs, hx, X, hS, hk, hZ, ho, eT, F, hV, O, hw⟩ := H
  obtain ⟨v, vm1, ⟨U, L', c', s'⟩, hW1, X', ⟨L, ⟨q1, q2, q3⟩, rfl, rfl, rfl⟩, st⟩ := X.specialBack hx hy1 ho (mvT (s := s.setVm vm0) hZ w1) (mvT (s := s.setVm vm0) hZ w2) (mvT (s := s.setVm vm0) hZ w3) hy (P (s.setVm vm0) hZ) hg hsize (Steps.refl _) hlen hst hW hd (fun _ _ => ⟨ha, eT, hc, hl⟩)
  exact ⟨v, U, U.heap, ⟨vm0, k0, _, hx, X', hS, Nat.le_trans hk q3.1, hZ, ho, rfl, fx_app F q2 hws ge, hV, O, hw⟩, q1, q3, fun t k => st.trans k⟩
theorem Hs.callIW (H : Hs p l e R s m args below meth c Z own ws V T h cells slots) {index : Nat} (hy1 : y.name = "<init>") (w1 : (Jvm.Cond.methodLink own index y).before a0 Z = true) (w2 : (Jvm.Cond.instanceMethod y).before a0 Z = true) (w3 : (Jvm.Cond.code y bytes maxL none).before a0 Z = true)
    (hy : y.cls ≠ "java/lang/invoke/MethodHandle" ∧ y.cls ≠ "java/lang/invoke/VarHandle") {W kc ks : Nat} (P : PayW l R p e below args Z y W as' h kc ks ws' J Q) (hg : g.method = m) (hsize : g.locals.size = c.maxLocals) {b : Addr} {argsL rest : List Value} (hlen : ∀ sig, parseMethodDescriptor y.desc = some sig → argsL.length = sig.parameters.length)
    (hst : g.stack = argsL.reverse ++ .ref b :: rest) (ha : (Value.ref b :: argsL).toArray = as') (hW : 2 * g.monitorRoom + (rest.map fun v => v.category).sum ≤ W) (hd : decode c.code g.pc = .ok (.invokespecial index, 3)) (hc : cells + kc ≤ R.cells) (hl : slots + ks ≤ R.slots) (hws : ∀ w ∈ ws', w ∈ ws ∨ s.heap.size ≤ w)
    (hJ : ∀ (U : State) (vm1 : Vm), V U.vm → U.WarmedH vm1 → J vm1) :
    ∃ v T' h', Hs p l e R s m args below meth c Z own ws (fun v => v = T'.vm) T' h' (cells + kc) (slots + ks) ∧ Q v T'.vm h' ∧ Keep h h' ws' ∧ ∀ t, Steps p.tables e below (T'.setTop { g with pc := g.pc + 3, stack := v.toList ++ rest }) t → Steps p.tables e below (T.setTop g) t := by
  have ge := H.ge
  obtain ⟨vm0, k0, locs, hx, X, hS, hk, hZ, ho, eT, F, hV, O, hw⟩ := H
  obtain ⟨v, vm1, ⟨U, L', c', s'⟩, hW1, X', hS', hgr, ⟨L, ⟨q1, q2, q3⟩, rfl, rfl, rfl⟩, st⟩ := X.specialBackS hx hy1 ho (mvT (s := s.setVm vm0) hZ w1) (mvT (s := s.setVm vm0) hZ w2) (mvT (s := s.setVm vm0) hZ w3) hy (P (s.setVm vm0) hZ) hg hsize (Steps.refl _) hlen hst hW hd (fun vm1 hw1 => ⟨ha, eT, hc, hl, hJ _ _ hV hw1⟩)
  obtain ⟨r1, r2, r3, r4⟩ := rebS hS (by rw [← eT] at hk; exact hk) X' hS' hgr hZ ho
  exact ⟨v, U, U.heap, ⟨U.vm, _, _, hx, r1, r2, Nat.le_refl _, r3, r4, rfl, fx_app F q2 hws ge, rfl, O, hw⟩, q1, q3, fun t k => st.trans k⟩
/-- a payer that books no more than kc cells and ks slots -/
def PayM (l : Launch) (R : Room) (p : Program) (e : Env) (below : List Frame) (args : Array Value) (Z : State) (y : MethodName) (W : Nat) (as' : Array Value) (h : Heap) (kc ks : Nat) (ws : List Addr) (Q : Option Value → Heap → Prop) : Prop :=
  ∃ kc' ks', kc' ≤ kc ∧ ks' ≤ ks ∧ PayN l R p e below args Z y W as' h kc' ks' ws Q
theorem Hs.callIm (H : Hs p l e R s m args below meth c Z own ws V T h cells slots) {index : Nat} (hy1 : y.name = "<init>") (w1 : (Jvm.Cond.methodLink own index y).before a0 Z = true) (w2 : (Jvm.Cond.instanceMethod y).before a0 Z = true) (w3 : (Jvm.Cond.code y bytes maxL none).before a0 Z = true)
    (hy : y.cls ≠ "java/lang/invoke/MethodHandle" ∧ y.cls ≠ "java/lang/invoke/VarHandle") {W kc ks : Nat} (P : PayM l R p e below args Z y W as' h kc ks ws' QN) (hg : g.method = m) (hsize : g.locals.size = c.maxLocals) {b : Addr} {argsL rest : List Value} (hlen : ∀ sig, parseMethodDescriptor y.desc = some sig → argsL.length = sig.parameters.length)
    (hst : g.stack = argsL.reverse ++ .ref b :: rest) (ha : (Value.ref b :: argsL).toArray = as') (hW : 2 * g.monitorRoom + (rest.map fun v => v.category).sum ≤ W) (hd : decode c.code g.pc = .ok (.invokespecial index, 3)) (hc : cells + kc ≤ R.cells) (hl : slots + ks ≤ R.slots) (hws : ∀ w ∈ ws', w ∈ ws ∨ s.heap.size ≤ w) :
    ∃ v T' h', Hs p l e R s m args below meth c Z own ws V T' h' (cells + kc) (slots + ks) ∧ QN v h' ∧ Keep h h' ws' ∧ ∀ t, Steps p.tables e below (T'.setTop { g with pc := g.pc + 3, stack := v.toList ++ rest }) t → Steps p.tables e below (T.setTop g) t := by
  obtain ⟨kc', ks', q1, q2, P'⟩ := P
  obtain ⟨v, T', h', H', r⟩ := H.callI hy1 w1 w2 w3 hy P' hg hsize hlen hst ha hW hd (by omega) (by omega) hws
  exact ⟨v, T', h', H'.more (by omega) (by omega), r⟩
/-! heap steps -/
theorem ext_keep (E : Ext h h') : Keep h h' [] := (Keep.refl h []).ext E
theorem Hs.newO (H : Hs p l e R s m args below meth c Z own ws V T h cells slots) {C : String} {index n : Nat} (w : (Jvm.Cond.classLink own index C).before a0 Z = true) (wi : (Jvm.Cond.instantiable C n).before a0 Z = true) (wz : (Jvm.Cond.initialized C).before a0 Z = true) (hg : g.method = m) (hd : decode c.code g.pc = .ok (.new index, 3)) (hc : cells + 1 ≤ R.cells) (hl : slots + n ≤ R.slots) :
    ∃ (a : Addr) (T' : State) (h' : Heap), @Eq Nat a h.size ∧ Hs p l e R s m args below meth c Z own ws V T' h' (cells + 1) (slots + n) ∧ Keep h h' [] ∧ Exa Z h' a C ∧ (∀ {O nm d : String} {ty : FieldType}, Laid Z a0 C O nm d → parseFieldDescriptor d = some ty → Fld Z h' a O nm d (defaultValue ty)) ∧
      ∀ t, Steps p.tables e below (T'.setTop { g with pc := g.pc + 3, stack := .ref a :: g.stack }) t → Steps p.tables e below (T.setTop g) t := by
  obtain ⟨vm0, k0, locs, hx, X, hS, hk, hZ, ho, eT, r⟩ := H
  obtain ⟨T', h', X', e', E, A, D, -, st⟩ := RoadKit.newO X hx (s := s.setVm vm0) hZ ho w wi wz eT hg hd hc hl
  exact ⟨_, T', h', rfl, ⟨vm0, k0, locs, hx, X', hS, Nat.le_trans hk E.1, hZ, ho, e', r⟩, ext_keep E, A, D, st⟩
theorem Hs.newP (H : Hs p l e R s m args below meth c Z own ws V T h cells slots) {aty : ArrayType} (w : (Jvm.Cond.arrayClass (newarray.typeOf aty)).before a0 Z = true) (hg : g.method = m) (hd : decode c.code g.pc = .ok (.newarray aty, 2)) {n : Int32} {rest : List Value} (hs : g.stack = .int n :: rest) (hn : ¬ n < 0) {cap : Nat} (hcap : n.toNatClampNeg ≤ cap) (hb : cap * 8 ≤ 536870912) (hc : cells + 1 ≤ R.cells) (hl : slots + cap ≤ R.slots) :
    ∃ (a : Addr) (kA : ClassId) (T' : State) (h' : Heap), @Eq Nat a h.size ∧ Hs p l e R s m args below meth c Z own ws V T' h' (cells + 1) (slots + cap) ∧ Keep h h' [] ∧ Arv Z h' a kA (newarray.typeOf aty) n [] (defaultValue (newarray.typeOf aty)) ∧
      ∀ t, Steps p.tables e below (T'.setTop { g with pc := g.pc + 2, stack := .ref a :: rest }) t → Steps p.tables e below (T.setTop g) t := by
  obtain ⟨vm0, k0, locs, hx, X, hS, hk, hZ, ho, eT, r⟩ := H
  obtain ⟨T', h', cA, X', e', E, A, st⟩ := RoadKit.newP X hx (s := s.setVm vm0) hZ w eT hg hd hs hn hcap hb hc hl
  exact ⟨_, cA, T', h', rfl, ⟨vm0, k0, locs, hx, X', hS, Nat.le_trans hk E.1, hZ, ho, e', r⟩, ext_keep E, Arv.new A hn, st⟩
theorem arv_snoc {a : Addr} {kA : ClassId} {ty : FieldType} {z j : Int32} {vs : List Value} {dv v : Value} (F : Arv Z h a kA ty z vs dv) (hi : j.toNatClampNeg = vs.length) (hv : fits ty v = true) (W : Wr h h' a j.toNatClampNeg v) : Arv Z h' a kA ty z (vs ++ [v]) dv := by
  have F2 : Arv Z h a kA ty z (vs ++ [dv]) dv := F.pad (pad_rep vs dv 1)
  obtain ⟨cl, A, q1, S, q3, HH, G⟩ := F2
  have := Arv.set A q1 S q3 HH G hv W vs.length hi (by simp)
  simpa using this
/-- castore at the next place -/
theorem Hs.stC (H : Hs p l e R s m args below meth c Z own ws V T h cells slots) {a : Addr} {kA : ClassId} {z j x : Int32} {vs : List Value} {dv : Value} (F : Arv Z h a kA .char z vs dv) (hj : ¬ j < 0 ∧ j < z) (hi : j.toNatClampNeg = vs.length) (ga : a ∈ ws ∨ s.heap.size ≤ a) (hg : g.method = m) {rest : List Value} (hs : g.stack = .int x :: .int j :: .ref a :: rest) (hd : decode c.code g.pc = .ok (.castore, 1)) :
    ∃ (T' : State) (h' : Heap), Hs p l e R s m args below meth c Z own ws V T' h' cells slots ∧ Keep h h' [a] ∧ Arv Z h' a kA .char z (vs ++ [.int (nar .char x)]) dv ∧
      ∀ t, Steps p.tables e below (T'.setTop { g with pc := g.pc + 1, stack := rest }) t → Steps p.tables e below (T.setTop g) t := by
  obtain ⟨vm0, k0, locs, hx, X, hS, hk, hZ, ho, eT, F0, r⟩ := H
  have FF := F
  obtain ⟨cl, A, q1, S, q3, HH, G⟩ := F
  obtain ⟨T', h', X', e', W, st⟩ := RoadKit.stC X hx (s := s.setVm vm0) hZ eT A (inb_of S hj) hg hs hd
  exact ⟨T', h', ⟨vm0, k0, _, hx, X', hS, by rw [W.size]; exact hk, hZ, ho, e', fun y hy => (List.mem_append.mp hy).elim (F0 y) (fun q => by cases List.mem_singleton.mp q; exact ga), r⟩, Keep.of_wr W, arv_snoc FF hi (fits_nar_char _) W, st⟩
/-- castore at a known place -/
theorem Hs.stCi (H : Hs p l e R s m args below meth c Z own ws V T h cells slots) {a : Addr} {kA : ClassId} {z j x : Int32} {vs : List Value} {dv : Value} (F : Arv Z h a kA .char z vs dv) (hj : ¬ j < 0 ∧ j < z) {i : Nat} (hi : j.toNatClampNeg = i) (hl : i < vs.length) (ga : a ∈ ws ∨ s.heap.size ≤ a) (hg : g.method = m) {rest : List Value} (hs : g.stack = .int x :: .int j :: .ref a :: rest) (hd : decode c.code g.pc = .ok (.castore, 1)) :
    ∃ (T' : State) (h' : Heap), Hs p l e R s m args below meth c Z own ws V T' h' cells slots ∧ Keep h h' [a] ∧ Arv Z h' a kA .char z (vs.set i (.int (nar .char x))) dv ∧
      ∀ t, Steps p.tables e below (T'.setTop { g with pc := g.pc + 1, stack := rest }) t → Steps p.tables e below (T.setTop g) t := by
  obtain ⟨vm0, k0, locs, hx, X, hS, hk, hZ, ho, eT, F0, r⟩ := H
  obtain ⟨cl, A, q1, S, q3, HH, G⟩ := F
  obtain ⟨T', h', X', e', W, st⟩ := RoadKit.stC X hx (s := s.setVm vm0) hZ eT A (inb_of S hj) hg hs hd
  exact ⟨T', h', ⟨vm0, k0, _, hx, X', hS, by rw [W.size]; exact hk, hZ, ho, e', fun y hy => (List.mem_append.mp hy).elim (F0 y) (fun q => by cases List.mem_singleton.mp q; exact ga), r⟩, Keep.of_wr W, Arv.set A q1 S q3 HH G (fits_nar_char _) W i hi hl, st⟩
/-- bastore at the next place -/
theorem Hs.stB (H : Hs p l e R s m args below meth c Z own ws V T h cells slots) {a : Addr} {kA : ClassId} {z j x : Int32} {vs : List Value} {dv : Value} (F : Arv Z h a kA .byte z vs dv) (hj : ¬ j < 0 ∧ j < z) (hi : j.toNatClampNeg = vs.length) (ga : a ∈ ws ∨ s.heap.size ≤ a) (hg : g.method = m) {rest : List Value} (hs : g.stack = .int x :: .int j :: .ref a :: rest) (hd : decode c.code g.pc = .ok (.bastore, 1)) :
    ∃ (T' : State) (h' : Heap), Hs p l e R s m args below meth c Z own ws V T' h' cells slots ∧ Keep h h' [a] ∧ Arv Z h' a kA .byte z (vs ++ [.int (nar .byte x)]) dv ∧
      ∀ t, Steps p.tables e below (T'.setTop { g with pc := g.pc + 1, stack := rest }) t → Steps p.tables e below (T.setTop g) t := by
  obtain ⟨vm0, k0, locs, hx, X, hS, hk, hZ, ho, eT, F0, r⟩ := H
  have FF := F
  obtain ⟨cl, A, q1, S, q3, HH, G⟩ := F
  obtain ⟨T', h', X', e', W, st⟩ := RoadKit.stB X hx (s := s.setVm vm0) hZ eT A (inb_of S hj) hg hs hd
  exact ⟨T', h', ⟨vm0, k0, _, hx, X', hS, by rw [W.size]; exact hk, hZ, ho, e', fun y hy => (List.mem_append.mp hy).elim (F0 y) (fun q => by cases List.mem_singleton.mp q; exact ga), r⟩, Keep.of_wr W, arv_snoc FF hi (fits_nar_byte _) W, st⟩
theorem Hs.getF (H : Hs p l e R s m args below meth c Z own ws V T h cells slots) {R0 O n d host : String} {index : Nat} (w : (Jvm.Cond.fieldLink own index R0 n d).before a0 Z = true ∨ (Jvm.Cond.fieldLinkNest own index R0 n d host).before a0 Z = true) (via : Via Z R0 O n d)
    {a : Addr} {v : Value} (F : Fld Z h a O n d v) (hg : g.method = m) {rest : List Value} (hs : g.stack = .ref a :: rest) (hd : decode c.code g.pc = .ok (.getfield index, 3)) :
    ∃ T', Hs p l e R s m args below meth c Z own ws V T' h cells slots ∧ ∀ t, Steps p.tables e below (T'.setTop { g with pc := g.pc + 3, stack := v :: rest }) t → Steps p.tables e below (T.setTop g) t := by
  obtain ⟨vm0, k0, locs, hx, X, hS, hk, hZ, ho, eT, r⟩ := H
  obtain ⟨T', X', e', st⟩ := RoadKit.getF X hx (s := s.setVm vm0) hZ ho w via eT F hg hs hd
  exact ⟨T', ⟨vm0, k0, locs, hx, X', hS, hk, hZ, ho, e', r⟩, st⟩
theorem Hs.getS (H : Hs p l e R s m args below meth c Z own ws V T h cells slots) {R0 O n d host : String} {index : Nat} (w : (Jvm.Cond.fieldLink own index R0 n d).before a0 Z = true ∨ (Jvm.Cond.fieldLinkNest own index R0 n d host).before a0 Z = true) (via : Via Z R0 O n d)
    {v : Value} (F : Sta Z h O n d v) (hg : g.method = m) (hd : decode c.code g.pc = .ok (.getstatic index, 3)) :
    ∃ T', Hs p l e R s m args below meth c Z own ws V T' h cells slots ∧ ∀ t, Steps p.tables e below (T'.setTop { g with pc := g.pc + 3, stack := v :: g.stack }) t → Steps p.tables e below (T.setTop g) t := by
  obtain ⟨vm0, k0, locs, hx, X, hS, hk, hZ, ho, eT, r⟩ := H
  obtain ⟨T', X', e', st⟩ := RoadKit.getS2 X hx (s := s.setVm vm0) hZ ho w via eT F hg hd
  exact ⟨T', ⟨vm0, k0, locs, hx, X', hS, hk, hZ, ho, e', r⟩, st⟩
theorem Hs.putF (H : Hs p l e R s m args below meth c Z own ws V T h cells slots) {R0 O n d host C : String} {index kk : Nat} {ty : FieldType} (w : (Jvm.Cond.fieldLink own index R0 n d).before a0 Z = true ∨ (Jvm.Cond.fieldLinkNest own index R0 n d host).before a0 Z = true) (via : Via Z R0 O n d)
    {a : Addr} {v old : Value} (F : Fld Z h a O n d old) (E : Exa Z h a C) (L : (Jvm.Cond.lays C O n d).before a0 Z = true ∨ ((Jvm.Cond.laysFinal C O n d).before a0 Z = true ∧ own = O ∧ meth.name = "<init>")) (wi : (Jvm.Cond.instantiable C kk).before a0 Z = true)
    (hty : parseFieldDescriptor d = some ty) (hn : narrow ty v = v) (hf : fits ty v = true) (ga : a ∈ ws ∨ s.heap.size ≤ a) (hg : g.method = m) {rest : List Value} (hs : g.stack = v :: .ref a :: rest) (hd : decode c.code g.pc = .ok (.putfield index, 3)) :
    ∃ (T' : State) (h' : Heap), Hs p l e R s m args below meth c Z own ws V T' h' cells slots ∧ Keep h h' [a] ∧ Wr h h' a (RoadKit.slotOf Z O n d) v ∧ ∀ t, Steps p.tables e below (T'.setTop { g with pc := g.pc + 3, stack := rest }) t → Steps p.tables e below (T.setTop g) t := by
  obtain ⟨vm0, k0, locs, hx, X, hS, hk, hZ, ho, eT, F0, r⟩ := H
  obtain ⟨T', h', X', e', W, st⟩ := RoadKit.putF X hx (s := s.setVm vm0) hZ ho w via eT F E L wi hty hn hf hg hs hd
  exact ⟨T', h', ⟨vm0, k0, _, hx, X', hS, by rw [W.size]; exact hk, hZ, ho, e', fun y hy => (List.mem_append.mp hy).elim (F0 y) (fun q => by cases List.mem_singleton.mp q; exact ga), r⟩, Keep.of_wr W, W, st⟩
theorem Hs.initO (H : Hs p l e R s m args below meth c Z own ws V T h cells slots) {idx : Nat} (w1 : (Jvm.Cond.methodLink own idx Lib.objectInit).before a0 Z = true) (w2 : (Jvm.Cond.instanceMethod Lib.objectInit).before a0 Z = true) (w3 : (Jvm.Cond.code Lib.objectInit ⟨#[0xb1]⟩ 1 none).before a0 Z = true)
    (hg : g.method = m) (hsize : g.locals.size = c.maxLocals) {a : Addr} {rest : List Value} (hs : g.stack = .ref a :: rest) (hd : decode c.code g.pc = .ok (.invokespecial idx, 3)) (hf : 1 ≤ R.frames) {W : Nat} (hW : 2 * g.monitorRoom + (rest.map fun v => v.category).sum ≤ W) (hl : W + 12 ≤ R.locals) :
    ∃ T', Hs p l e R s m args below meth c Z own ws V T' h cells slots ∧ ∀ t, Steps p.tables e below (T'.setTop { g with pc := g.pc + 3, stack := rest }) t → Steps p.tables e below (T.setTop g) t := by
  obtain ⟨vm0, k0, locs, hx, X, hS, hk, hZ, ho, eT, r⟩ := H
  obtain ⟨T', X', e', st⟩ := RoadKit.initO X hx (s := s.setVm vm0) hZ ho w1 w2 w3 eT hg hsize hs hd hf hW hl
  exact ⟨T', ⟨vm0, k0, locs, hx, X', hS, hk, hZ, ho, e', r⟩, st⟩
/-- ldc of a String whose text isn't asked -/
theorem Hs.ldcS (H : Hs p l e R s m args below meth c Z own ws (fun _ => True) T h cells slots) {text : String} {index : Nat} (w : (Jvm.Cond.stringLink own index text).before a0 Z = true) (wS : ∀ a ∈ Bundle.stringAtoms, a.before a0 Z = true) (hg : g.method = m) (hd : decode c.code g.pc = .ok (.ldc index, 2)) {n : Nat} (hn : 4 * text.toList.length ≤ n) (hbig : n ≤ 536870912) (hc : cells + 2 ≤ R.cells) (hl : slots + (n + 4) ≤ R.slots) :
    ∃ (a : Addr) (T' : State) (h' : Heap), Hs p l e R s m args below meth c Z own ws (fun _ => True) T' h' (cells + 2) (slots + (n + 4)) ∧ Keep h h' [] ∧ ∀ t, Steps p.tables e below (T'.setTop { g with pc := g.pc + 2, stack := .ref a :: g.stack }) t → Steps p.tables e below (T.setTop g) t := by
  obtain ⟨vm0, k0, locs, hx, X, hS, hk, hZ, ho, eT, F0, hV, r⟩ := H
  obtain ⟨a, T', h', k1, X', e', E, hS', hk', hZ', ho', st⟩ := RoadKit.ldcS X hx hZ ho w wS eT hS hk hg hd hn hbig hc hl
  exact ⟨a, T', h', ⟨_, k1, locs, hx, X', hS', hk', hZ', ho', e', F0, trivial, r⟩, ext_keep E, st⟩
theorem Hs.ldcI (H : Hs p l e R s m args below meth c Z own ws V T h cells slots) {index : Nat} {n : Int32} (w : (Jvm.Cond.constant own index n).before a0 Z = true) (hg : g.method = m) (hd : decode c.code g.pc = .ok (.ldc index, 2)) :
    ∀ t, Steps p.tables e below (T.setTop { g with pc := g.pc + 2, stack := .int n :: g.stack }) t → Steps p.tables e below (T.setTop g) t := by
  obtain ⟨vm0, k0, locs, hx, X, hS, hk, hZ, ho, eT, r⟩ := H
  exact X.ldcInt hx ho (mvT (s := s.setVm vm0) hZ w) hg hd
theorem Hs.castY (H : Hs p l e R s m args below meth c Z own ws V T h cells slots) {KK : String} {index : Nat} (w : (Jvm.Cond.classLink own index KK).before a0 Z = true) {a : Addr} (F : Ins Z h a KK true) (hg : g.method = m) {rest : List Value} (hs : g.stack = .ref a :: rest) (hd : decode c.code g.pc = .ok (.checkcast index, 3)) :
    ∃ T', Hs p l e R s m args below meth c Z own ws V T' h cells slots ∧ ∀ t, Steps p.tables e below (T'.setTop { g with pc := g.pc + 3 }) t → Steps p.tables e below (T.setTop g) t := by
  obtain ⟨vm0, k0, locs, hx, X, hS, hk, hZ, ho, eT, r⟩ := H
  obtain ⟨T', X', e', st⟩ := RoadKit.castY X hx (s := s.setVm vm0) hZ ho w eT F hg hs hd
  exact ⟨T', ⟨vm0, k0, locs, hx, X', hS, hk, hZ, ho, e', r⟩, st⟩
theorem Hs.instY (H : Hs p l e R s m args below meth c Z own ws V T h cells slots) {KK : String} {index : Nat} (w : (Jvm.Cond.classLink own index KK).before a0 Z = true) {a : Addr} (F : Ins Z h a KK true) (hg : g.method = m) {rest : List Value} (hs : g.stack = .ref a :: rest) (hd : decode c.code g.pc = .ok (.instanceof index, 3)) :
    ∃ T', Hs p l e R s m args below meth c Z own ws V T' h cells slots ∧ ∀ t, Steps p.tables e below (T'.setTop { g with pc := g.pc + 3, stack := .int 1 :: rest }) t → Steps p.tables e below (T.setTop g) t := by
  obtain ⟨vm0, k0, locs, hx, X, hS, hk, hZ, ho, eT, r⟩ := H
  obtain ⟨T', X', e', st⟩ := RoadKit.instY X hx (s := s.setVm vm0) hZ ho w eT F hg hs hd
  exact ⟨T', ⟨vm0, k0, locs, hx, X', hS, hk, hZ, ho, e', r⟩, st⟩
theorem Hs.instNo (H : Hs p l e R s m args below meth c Z own ws V T h cells slots) {C KK : String} {index : Nat} (w : (Jvm.Cond.classLink own index KK).before a0 Z = true) {a : Addr} (E : Exa Z h a C) (F : ∃ c t, Z.vm.findClass C = some c ∧ Z.vm.findClass KK = some t ∧ Z.vm.assignable c t = false) (hg : g.method = m) {rest : List Value} (hs : g.stack = .ref a :: rest) (hd : decode c.code g.pc = .ok (.instanceof index, 3)) :
    ∃ T', Hs p l e R s m args below meth c Z own ws V T' h cells slots ∧ ∀ t, Steps p.tables e below (T'.setTop { g with pc := g.pc + 3, stack := .int 0 :: rest }) t → Steps p.tables e below (T.setTop g) t := by
  obtain ⟨vm0, k0, locs, hx, X, hS, hk, hZ, ho, eT, r⟩ := H
  obtain ⟨T', X', e', st⟩ := RoadKit.instNo X hx (s := s.setVm vm0) hZ (a0 := a0) ho w eT E F hg hs hd
  exact ⟨T', ⟨vm0, k0, locs, hx, X', hS, hk, hZ, ho, e', r⟩, st⟩
/-! arrays read -/
theorem Hs.alen (H : Hs p l e R s m args below meth c Z own ws V T h cells slots) {a : Addr} {kA : ClassId} {ty : FieldType} {z : Int32} {vs : List Value} {dv : Value} (F : Arv Z h a kA ty z vs dv) (hg : g.method = m) {rest : List Value} (hs : g.stack = .ref a :: rest) (hd : decode c.code g.pc = .ok (.arraylength, 1)) :
    ∀ t, Steps p.tables e below (T.setTop { g with pc := g.pc + 1, stack := .int z :: rest }) t → Steps p.tables e below (T.setTop g) t := by
  obtain ⟨vm0, k0, locs, hx, X, hS, hk, hZ, ho, eT, r⟩ := H
  obtain ⟨cl, A, q1, S, q3, HH, G⟩ := F
  intro t k
  refine X.arraylength hx (by rw [eT]; exact A.1) (State.isArrayOf_alike (T := s.setVm vm0) (State.Warmed39.alike (s := Z) hZ) A.2.1) hg hs hd t ?_
  rw [len_of S q3]; exact k
theorem Hs.aald (H : Hs p l e R s m args below meth c Z own ws V T h cells slots) {a : Addr} {kA : ClassId} {ty : FieldType} {z j : Int32} {vs : List Value} {dv v : Value} (F : Arv Z h a kA ty z vs dv) (hty : ty.isReference = true) (hj : ¬ j < 0 ∧ j < z) (hv : vs.getD j.toNatClampNeg dv = v) (hg : g.method = m) {rest : List Value} (hs : g.stack = .int j :: .ref a :: rest) (hd : decode c.code g.pc = .ok (.aaload, 1)) :
    ∀ t, Steps p.tables e below (T.setTop { g with pc := g.pc + 1, stack := v :: rest }) t → Steps p.tables e below (T.setTop g) t := by
  obtain ⟨vm0, k0, locs, hx, X, hS, hk, hZ, ho, eT, r⟩ := H
  obtain ⟨cl, A, q1, S, q3, HH, G⟩ := F
  intro t k
  exact X.aaload hx (by rw [eT]; exact A.1) (State.isArrayOf_alike (T := s.setVm vm0) (State.Warmed39.alike (s := Z) hZ) A.2.1) hty A.2.2 (inb_of S hj) (HH.at (inb_of S hj) hv) hg hs hd t k
theorem Hs.cald (H : Hs p l e R s m args below meth c Z own ws V T h cells slots) {a : Addr} {kA : ClassId} {z j : Int32} {vs : List Value} {dv v : Value} (F : Arv Z h a kA .char z vs dv) (hj : ¬ j < 0 ∧ j < z) (hv : vs.getD j.toNatClampNeg dv = v) (hg : g.method = m) {rest : List Value} (hs : g.stack = .int j :: .ref a :: rest) (hd : decode c.code g.pc = .ok (.caload, 1)) :
    ∀ t, Steps p.tables e below (T.setTop { g with pc := g.pc + 1, stack := v :: rest }) t → Steps p.tables e below (T.setTop g) t := by
  obtain ⟨vm0, k0, locs, hx, X, hS, hk, hZ, ho, eT, r⟩ := H
  obtain ⟨cl, A, q1, S, q3, HH, G⟩ := F
  intro t k
  exact X.caload hx (by rw [eT]; exact A.1) (State.isArrayOf_alike (T := s.setVm vm0) (State.Warmed39.alike (s := Z) hZ) A.2.1) A.2.2 (inb_of S hj) (HH.at (inb_of S hj) hv) hg hs hd t k
theorem Hs.bald (H : Hs p l e R s m args below meth c Z own ws V T h cells slots) {a : Addr} {kA : ClassId} {z j : Int32} {vs : List Value} {dv v : Value} (F : Arv Z h a kA .byte z vs dv) (hj : ¬ j < 0 ∧ j < z) (hv : vs.getD j.toNatClampNeg dv = v) (hg : g.method = m) {rest : List Value} (hs : g.stack = .int j :: .ref a :: rest) (hd : decode c.code g.pc = .ok (.baload, 1)) :
    ∀ t, Steps p.tables e below (T.setTop { g with pc := g.pc + 1, stack := v :: rest }) t → Steps p.tables e below (T.setTop g) t := by
  obtain ⟨vm0, k0, locs, hx, X, hS, hk, hZ, ho, eT, r⟩ := H
  obtain ⟨cl, A, q1, S, q3, HH, G⟩ := F
  intro t k
  exact X.baloadBytes hx (by rw [eT]; exact A.1) (State.isArrayOf_alike (T := s.setVm vm0) (State.Warmed39.alike (s := Z) hZ) A.2.1) A.2.2 (inb_of S hj) (HH.at (inb_of S hj) hv) hg hs hd t k
/-- an array's clone() -/
theorem Hs.clone (H : Hs p l e R s m args below meth c Z own ws V T h cells slots) {ad : String} {index : Nat} (w1 : (Jvm.Cond.methodLink own index ⟨ad, "clone", "()Ljava/lang/Object;"⟩).before a0 Z = true) (w2 : (Jvm.Cond.sameMethod ad "java/lang/Object" "clone" "()Ljava/lang/Object;").before a0 Z = true) (w3 : (Jvm.Cond.native ⟨"java/lang/Object", "clone", "()Ljava/lang/Object;"⟩).before a0 Z = true)
    (w4 : (Jvm.Cond.instanceMethod ⟨"java/lang/Object", "clone", "()Ljava/lang/Object;"⟩).before a0 Z = true) (w5 : (Jvm.Cond.selects ad ⟨ad, "clone", "()Ljava/lang/Object;"⟩ ⟨"java/lang/Object", "clone", "()Ljava/lang/Object;"⟩).before a0 Z = true) (w6 : (Jvm.Cond.castable ad "java/lang/Cloneable").before a0 Z = true)
    {a : Addr} {kA : ClassId} {ty : FieldType} {z : Int32} {vs : List Value} {dv : Value} (F : Arv Z h a kA ty z vs dv) (E : Exa Z h a ad) (hg : g.method = m) (hsize : g.locals.size = c.maxLocals) {rest : List Value} (hst : g.stack = .ref a :: rest) (hd : decode c.code g.pc = .ok (.invokevirtual index, 3))
    (hf : 1 ≤ R.frames) {W cap : Nat} (hW : 2 * g.monitorRoom + (rest.map fun v => v.category).sum ≤ W) (hl : W + 14 ≤ R.locals) (hcap : z.toNatClampNeg ≤ cap) (hc : cells + 1 ≤ R.cells) (hsl : slots + cap ≤ R.slots) :
    ∃ (b : Addr) (T' : State) (h' : Heap), @Eq Nat b h.size ∧ Hs p l e R s m args below meth c Z own ws V T' h' (cells + 1) (slots + cap) ∧ Keep h h' [] ∧ Arv Z h' b kA ty z vs dv ∧ Exa Z h' b ad ∧
      ∀ t, Steps p.tables e below (T'.setTop { g with pc := g.pc + 3, stack := .ref b :: rest }) t → Steps p.tables e below (T.setTop g) t := by
  obtain ⟨vm0, k0, locs, hx, X, hS, hk, hZ, ho, eT, r⟩ := H
  obtain ⟨T', h', X', e', Ex, A, E', st⟩ := cloneH X hx (s := s.setVm vm0) hZ ho w1 w2 w3 w4 w5 w6 eT F.arh E hg hsize hst hd hf hW hl hcap hc hsl
  exact ⟨_, T', h', rfl, ⟨vm0, k0, locs, hx, X', hS, Nat.le_trans hk Ex.1, hZ, ho, e', r⟩, ext_keep Ex, A, E', st⟩
theorem iremH (H : Hs p l e R s m args below meth c Z own ws V T h cells slots) (hx : p.tables.exec = Jvm.exec) (hg : g.method = m) {x y : Int32} {rest : List Value} {target : State} (hd : decode c.code g.pc = .ok (.irem, 1)) (hs : g.stack = .int y :: .int x :: rest) (hy : y ≠ 0)
    (hr : Steps p.tables e below (T.setTop { g with pc := g.pc + 1, stack := .int (x % y) :: rest }) target) : Steps p.tables e below (T.setTop g) target := by
  obtain ⟨vm0, k0, locs, hx', X, -⟩ := H
  exact iremM X hx hg hd hs hy hr
theorem Hs.instNull (H : Hs p l e R s m args below meth c Z own ws V T h cells slots) {index : Nat} (hg : g.method = m) {rest : List Value} (hs : g.stack = .null :: rest) (hd : decode c.code g.pc = .ok (.instanceof index, 3)) :
    ∀ t, Steps p.tables e below (T.setTop { g with pc := g.pc + 3, stack := .int 0 :: rest }) t → Steps p.tables e below (T.setTop g) t := by
  obtain ⟨vm0, k0, locs, hx, X, r⟩ := H
  exact Jvm.Stand.instanceofNull X hx hg hs hd
/-- no object of the class C is one of the class K -/
theorem not_sub {C K : String} {n : Nat} (w : (Jvm.Cond.superclass C "java/lang/Object").before a0 Z = true) (w0 : (Jvm.Cond.noSuperclass "java/lang/Object").before a0 Z = true) (wk : (Jvm.Cond.instantiable K n).before a0 Z = true) (n1 : C ≠ K) (n2 : "java/lang/Object" ≠ K) :
    ∃ c t, Z.vm.findClass C = some c ∧ Z.vm.findClass K = some t ∧ Z.vm.assignable c t = false := by
  obtain ⟨c, h0⟩ := found_sup w
  obtain ⟨p, k, kp, h1, h2, h3, h4, h5, -, h7⟩ := Cond.superclass_spec h0 w
  obtain ⟨t, k', g0, g2, g5, g6, -, -⟩ := Cond.instantiable_spec wk
  obtain ⟨c', k'', r1, r2, r3, -, -⟩ := Cond.noSuperclass_spec w0
  cases h1.symm.trans r1
  have ne := ids_ne h0 g0 n1
  have ne2 := ids_ne r1 g0 n2
  have g7 : k'.isInterface = false := by cases q : k'.isInterface <;> simp [q] at g6 ⊢
  have n3 : ∀ fuel, Z.vm.isSubclassAux fuel c t = false := fun fuel => by
    cases fuel with
    | zero => rfl
    | succ f => cases f with
      | zero => simp [Vm.isSubclassAux, ne, h2, h4]
      | succ f => simp [Vm.isSubclassAux, ne, ne2, h2, h4, r2, r3]
  refine ⟨c, t, h0, g0, ?_⟩
  show Z.vm.assignableAux (255 + 1) c t = false
  simp [Vm.assignableAux, ne, h2, g2, h5, g5, g7, Vm.isSubclass, n3]
/-! branches -/
theorem z_eq_t {x : Int32} (q : x = 0) : ifCond.holds .eq x = true := (if0 _ _).trans (teq q).1
theorem z_eq_f {x : Int32} (q : ¬ x = 0) : ifCond.holds .eq x = false := (if0 _ _).trans (feq q).1
theorem z_ne_f {x : Int32} (q : x = 0) : ifCond.holds .ne x = false := (if0 _ _).trans (teq q).2
theorem z_ne_t {x : Int32} (q : ¬ x = 0) : ifCond.holds .ne x = true := (if0 _ _).trans (feq q).2
theorem z_lt_t {x : Int32} (q : x < 0) : ifCond.holds .lt x = true := (if0 _ _).trans (tlt q).1
theorem z_lt_f {x : Int32} (q : ¬ x < 0) : ifCond.holds .lt x = false := (if0 _ _).trans (flt q).1
theorem z_ge_f {x : Int32} (q : x < 0) : ifCond.holds .ge x = false := (if0 _ _).trans (tlt q).2.1
theorem z_ge_t {x : Int32} (q : ¬ x < 0) : ifCond.holds .ge x = true := (if0 _ _).trans (flt q).2.1
theorem z_gt_t {x : Int32} (q : 0 < x) : ifCond.holds .gt x = true := (if0 _ _).trans (tlt q).2.2.1
theorem z_gt_f {x : Int32} (q : ¬ 0 < x) : ifCond.holds .gt x = false := (if0 _ _).trans (flt q).2.2.1
theorem z_le_f {x : Int32} (q : 0 < x) : ifCond.holds .le x = false := (if0 _ _).trans (tlt q).2.2.2
theorem z_le_t {x : Int32} (q : ¬ 0 < x) : ifCond.holds .le x = true := (if0 _ _).trans (flt q).2.2.2
theorem c_eq_t {x y : Int32} (q : x = y) : if_icmp.holds .eq x y = true := (teq q).1
theorem c_eq_f {x y : Int32} (q : ¬ x = y) : if_icmp.holds .eq x y = false := (feq q).1
theorem c_ne_f {x y : Int32} (q : x = y) : if_icmp.holds .ne x y = false := (teq q).2
theorem c_ne_t {x y : Int32} (q : ¬ x = y) : if_icmp.holds .ne x y = true := (feq q).2
theorem c_lt_t {x y : Int32} (q : x < y) : if_icmp.holds .lt x y = true := (tlt q).1
theorem c_lt_f {x y : Int32} (q : ¬ x < y) : if_icmp.holds .lt x y = false := (flt q).1
theorem c_ge_f {x y : Int32} (q : x < y) : if_icmp.holds .ge x y = false := (tlt q).2.1
theorem c_ge_t {x y : Int32} (q : ¬ x < y) : if_icmp.holds .ge x y = true := (flt q).2.1
theorem c_gt_t {x y : Int32} (q : y < x) : if_icmp.holds .gt x y = true := (tlt q).2.2.1
theorem c_gt_f {x y : Int32} (q : ¬ y < x) : if_icmp.holds .gt x y = false := (flt q).2.2.1
theorem c_le_f {x y : Int32} (q : y < x) : if_icmp.holds .le x y = false := (tlt q).2.2.2
theorem c_le_t {x y : Int32} (q : ¬ y < x) : if_icmp.holds .le x y = true := (flt q).2.2.2
theorem ac_eq_t {x y : Value} (q : x = y) : XT.acmp .eq x y = true := decide_eq_true q
theorem ac_eq_f {x y : Value} (q : ¬ x = y) : XT.acmp .eq x y = false := decide_eq_false q
theorem ac_ne_t {x y : Value} (q : ¬ x = y) : XT.acmp .ne x y = true := decide_eq_true q
theorem ac_ne_f {x y : Value} (q : x = y) : XT.acmp .ne x y = false := decide_eq_false fun r => r q
theorem ref_ne {a b : Addr} (q : ¬ a = b) : ¬ Value.ref a = Value.ref b := fun r => q (Value.ref.inj r)
end Own
end Jvm.Pilot.@@N@@
/- laws to paste: Road.backArv, Road.lenW, Road.empW, Road.chN, Road.wide_lo, Road.wide_hi, pair_says, shr0, shr1 (cut by pick.py; bodies as the Statement names them) -/
namespace Jvm.Pilot.@@N@@
namespace StrChars
open Jvm Sem ClassFile Op Lib Jvm.Stand Jvm.Free.XT Jvm.Free.ALB Jvm.Free.JM Jvm.Free
open Jvm.Lib.Cold (StaticIs)
/-- a char array whose places are chars -/
def Ch (a : Addr) (A : Cell) (U : State) : Prop := Arr .char a A U ∧ Typed .char A
theorem Ch.mv {a : Addr} {A : Cell} {U U' : State} (h : Ch a A U) (hal : U.vm.Alike U'.vm) (hh : U'.heap = U.heap) : Ch a A U' := ⟨h.1.mv hal hh, h.2⟩
theorem Ch.keep {a : Addr} {A : Cell} {U U' : State} (h : Ch a A U) (hal : U.vm.Alike U'.vm) (hk : U'.heap[a]? = some A) : Ch a A U' := ⟨h.1.keep hal hk, h.2⟩
/-- what place i of a char[]'s cell holds -/
def cv (A : Cell) (i : Nat) : Int32 := match A.slots[i]? with | some (.int x) => x | _ => 0
theorem Ch.get {a : Addr} {A : Cell} {U : State} (h : Ch a A U) {i : Nat} (hi : i < A.slots.size) : A.slots[i]? = some (.int (cv A i)) := by
  have e := Array.getElem?_eq_getElem hi
  have f := h.2 i _ e
  unfold cv; rw [e]
  generalize A.slots[i] = v at f
  cases v <;> simp [fits] at f ⊢
/-- the byte that i2b leaves of a char -/
def lo8 (x : Int32) : Int32 := x.toInt8.toInt32
theorem fits_lo8 (y : Int32) : fits .byte (.int (lo8 y)) = true := by
  have h1 := y.toInt8.le_toInt
  have h2 := y.toInt8.toInt_lt
  simp only [lo8, fits, Bool.and_eq_true, decide_eq_true_eq, Int32.le_iff_toInt_le, Int8.toInt_toInt32, show (-128 : Int32).toInt = -128 from by decide, show (127 : Int32).toInt = 127 from by decide]
  omega
/-- A' is A but that each place j of lo .. hi - 1 holds f j -/
def Laid (A A' : Cell) (lo hi : Nat) (f : Nat → Value) : Prop := A'.cls = A.cls ∧ A'.vm = A.vm ∧ A'.slots.size = A.slots.size ∧ ∀ i, A'.slots[i]? = if lo ≤ i ∧ i < hi then some (f i) else A.slots[i]?
theorem Laid.zero (A : Cell) (lo : Nat) (f : Nat → Value) : Laid A A lo (lo + 0) f := ⟨rfl, rfl, rfl, fun i => by rw [if_neg (by omega)]⟩
theorem Laid.step {A Ak : Cell} {lo k : Nat} {f : Nat → Value} {v : Value} (h : Laid A Ak lo k f) (hlo : lo ≤ k) (hk : k < Ak.slots.size) (hv : v = f k) : Laid A (Ak.setSlot k v) lo (k + 1) f := by
  refine ⟨h.1, h.2.1, by simpa [Cell.setSlot] using h.2.2.1, fun i => ?_⟩
  by_cases e : k = i
  · subst e; rw [Cell.slots_setSlot_self v hk, if_pos (by omega), hv]
  · rw [Cell.slots_setSlot_ne v e, h.2.2.2 i]
    by_cases q : lo ≤ i ∧ i < k
    · rw [if_pos q, if_pos (by omega)]
    · rw [if_neg q, if_neg (by omega)]
def U16 : String := "java/lang/StringUTF16"
namespace Cmp5
def yN : MethodName := ⟨"java/lang/StringUTF16", "compress", "([CI[BII)I"⟩
abbrev yB : ByteArray := jdk_52_method_21_code
theorem d0 : decode yB 0 = .ok (.iconst 0, 1) := by decide +kernel
theorem d1 : decode yB 1 = .ok (.istore 5, 2) := by decide +kernel
theorem d3 : decode yB 3 = .ok (.iload 5, 2) := by decide +kernel
theorem d5 : decode yB 5 = .ok (.iload 4, 2) := by decide +kernel
theorem d7 : decode yB 7 = .ok (.if_icmp (.ge) 37, 3) := by decide +kernel
theorem d10 : decode yB 10 = .ok (.aload_n 0, 1) := by decide +kernel
theorem d11 : decode yB 11 = .ok (.iload_n 1, 1) := by decide +kernel
theorem d12 : decode yB 12 = .ok (.caload, 1) := by decide +kernel
theorem d13 : decode yB 13 = .ok (.istore 6, 2) := by decide +kernel
theorem d15 : decode yB 15 = .ok (.iload 6, 2) := by decide +kernel
theorem d17 : decode yB 17 = .ok (.sipush 255, 3) := by decide +kernel
theorem d20 : decode yB 20 = .ok (.if_icmp (.le) 6, 3) := by decide +kernel
theorem d26 : decode yB 26 = .ok (.aload_n 2, 1) := by decide +kernel
theorem d27 : decode yB 27 = .ok (.iload_n 3, 1) := by decide +kernel
theorem d28 : decode yB 28 = .ok (.iload 6, 2) := by decide +kernel
theorem d30 : decode yB 30 = .ok (.i2b, 1) := by decide +kernel
theorem d31 : decode yB 31 = .ok (.bastore, 1) := by decide +kernel
theorem d32 : decode yB 32 = .ok (.iinc 1 1, 3) := by decide +kernel
theorem d35 : decode yB 35 = .ok (.iinc 3 1, 3) := by decide +kernel
theorem d38 : decode yB 38 = .ok (.iinc 5 1, 3) := by decide +kernel
theorem d41 : decode yB 41 = .ok (.goto (-38), 3) := by decide +kernel
theorem d44 : decode yB 44 = .ok (.iload 4, 2) := by decide +kernel
theorem d46 : decode yB 46 = .ok (.ireturn, 1) := by decide +kernel
def site : List Cond := []
def tab : Cond := tabOf yN yB 7 (some .int) site
def P (b : Addr) (A : Cell) (d : Addr) (B : Cell) (o q len : Nat) (args : Array Value) (s : State) : Prop := args = #[.ref b, .int (Int32.ofNat o), .ref d, .int (Int32.ofNat q), .int (Int32.ofNat len)] ∧ Ch b A s ∧ Arr .byte d B s ∧ b ≠ d ∧ o + len ≤ A.slots.size ∧ q + len ≤ B.slots.size ∧ ∀ i, i < len → ¬ 255 < cv A (o + i)
def E (b : Addr) (A : Cell) (d : Addr) (B : Cell) (o q len : Nat) (r : Option Value) (s u : State) : Prop := r = some (.int (Int32.ofNat len)) ∧ ∃ B', Put d B' s u ∧ Laid B B' q (q + len) (fun j => Value.int (lo8 (cv A (o + (j - q)))))
/-- no char of the range above 255: len; the places written hold each char's low byte -/
theorem law (l : Launch) (b : Addr) (A : Cell) (d : Addr) (B : Cell) (o q len : Nat) : Law l yN 5 5 0 0 yB 7 (some .int) site (P b A d B o q len) (E b A d B o q len) (copyLocs d q len) 0 0 := by
  refine Law.of_walk (plainFor_of_name (by decide +kernel)) (by decide +kernel) (by decide +kernel) (by decide) (fun _ _ h => by rw [h.1]; rfl) (fun _ U U' hal hh h => ⟨h.1, h.2.1.mv hal hh, h.2.2.1.mv hal hh, h.2.2.2⟩) (fun r U U' V V' h1 hal h2 h => ⟨h.1, h.2.elim fun B' q => ⟨B', q.1.mv h1 h2, q.2⟩⟩) ?_
  intro p e s m args below meth c s₁ X0 hexec hbytes hml hret hlk hnm hown hh0 W hP
  obtain ⟨rfl, hA, hB, hne, l1, l2, hp⟩ := hP
  have c1 : Steps p.tables e below (s₁.setTop (entryFrame m #[.ref b, .int (Int32.ofNat o), .ref d, .int (Int32.ofNat q), .int (Int32.ofNat len)] 7)) (s₁.setTop (mkF m 0 #[.val (.ref b), .val (.int (Int32.ofNat o)), .val (.ref d), .val (.int (Int32.ofNat q)), .val (.int (Int32.ofNat len)), .unset, .unset] [])) := entry rfl
  have hA0 := hA.1.mv X0.warmed.alike hh0
  have hB0 := hB.mv X0.warmed.alike hh0
  have a31 := hA.1.2.2.2
  have c2 : Steps p.tables e below (s₁.setTop (entryFrame m #[.ref b, .int (Int32.ofNat o), .ref d, .int (Int32.ofNat q), .int (Int32.ofNat len)] 7)) (s₁.setTop (mkF m 3 #[.val (.ref b), .val (.int (Int32.ofNat o)), .val (.ref d), .val (.int (Int32.ofNat q)), .val (.int (Int32.ofNat len)), .val (.int 0), .unset] [])) := c1.trans (by
    refine iconstV X0.here hexec rfl 0 (hb hbytes d0) (by decide) ?_
    refine XS.istore X0.here hexec rfl (hb hbytes d1) rfl rfl ?_
    exact Steps.refl _)
  have loop : ∀ (r i : Nat), i + r = len → ∀ (z : Slot), (z = .unset ∨ ∃ w, z = .val w ∧ w.category = 1) → ∀ (Tl : State) (Bk : Cell), Stand p l e { frames := 0, locals := 0, cells := 0, slots := 0 } s m #[.ref b, .int (Int32.ofNat o), .ref d, .int (Int32.ofNat q), .int (Int32.ofNat len)] below meth c Tl ([] ++ copyLocs d q i) 0 0 → Put d Bk s₁ Tl → Laid B Bk q (q + i) (fun j => Value.int (lo8 (cv A (o + (j - q))))) →
      Steps p.tables e below (s₁.setTop (entryFrame m #[.ref b, .int (Int32.ofNat o), .ref d, .int (Int32.ofNat q), .int (Int32.ofNat len)] 7)) (Tl.setTop (mkF m 3 #[.val (.ref b), .val (.int (Int32.ofNat (o + i))), .val (.ref d), .val (.int (Int32.ofNat (q + i))), .val (.int (Int32.ofNat len)), .val (.int (Int32.ofNat i)), z] [])) → ∃ (T' : State) (B' : Cell) (z' : Slot), Stand p l e { frames := 0, locals := 0, cells := 0, slots := 0 } s m #[.ref b, .int (Int32.ofNat o), .ref d, .int (Int32.ofNat q), .int (Int32.ofNat len)] below meth c T' ([] ++ copyLocs d q len) 0 0 ∧ Put d B' s₁ T' ∧ Laid B B' q (q + len) (fun j => Value.int (lo8 (cv A (o + (j - q))))) ∧
      Steps p.tables e below (s₁.setTop (entryFrame m #[.ref b, .int (Int32.ofNat o), .ref d, .int (Int32.ofNat q), .int (Int32.ofNat len)] 7)) (T'.setTop (mkF m 3 #[.val (.ref b), .val (.int (Int32.ofNat (o + len))), .val (.ref d), .val (.int (Int32.ofNat (q + len))), .val (.int (Int32.ofNat len)), .val (.int (Int32.ofNat len)), z'] [])) := by
    intro r
    induction r with
    | zero =>
      intro i hi z hz Tl Bk Xl pl fl cl
      have hil : i = len := by omega
      rw [hil] at Xl fl cl
      exact ⟨Tl, Bk, z, Xl, pl, fl, cl⟩
    | succ r ih =>
      intro i hi z hz Tl Bk Xl pl fl cl
      have all := X0.warmed.alike.symm.trans Xl.warmed.alike
      have hAl := hA0.keep all (pl.other hne hA0.1)
      have hBk := hB0.like all pl.1 fl.1 fl.2.1 fl.2.2.1
      have hlt : q + i < Bk.slots.size := by rw [fl.2.2.1]; omega
      have c3 : Steps p.tables e below (s₁.setTop (entryFrame m #[.ref b, .int (Int32.ofNat o), .ref d, .int (Int32.ofNat q), .int (Int32.ofNat len)] 7)) (Tl.setTop (mkF m 12 #[.val (.ref b), .val (.int (Int32.ofNat (o + i))), .val (.ref d), .val (.int (Int32.ofNat (q + i))), .val (.int (Int32.ofNat len)), .val (.int (Int32.ofNat i)), z] [.int (Int32.ofNat (o + i)), .ref b])) := cl.trans (by
        refine XS.iload Xl.here hexec rfl (hb hbytes d3) rfl ?_
        refine XS.iload Xl.here hexec rfl (hb hbytes d5) rfl ?_
        refine XS.icmpNo Xl.here hexec rfl (hb hbytes d7) rfl (ii_ge_f (lt32 (by omega) (by omega))) ?_
        refine XS.aloadN Xl.here hexec rfl (hb hbytes d10) rfl rfl ?_
        refine XS.iloadN Xl.here hexec rfl (hb hbytes d11) rfl ?_
        exact Steps.refl _)
      have c4 : Steps p.tables e below (s₁.setTop (entryFrame m #[.ref b, .int (Int32.ofNat o), .ref d, .int (Int32.ofNat q), .int (Int32.ofNat len)] 7)) (Tl.setTop (mkF m 13 #[.val (.ref b), .val (.int (Int32.ofNat (o + i))), .val (.ref d), .val (.int (Int32.ofNat (q + i))), .val (.int (Int32.ofNat len)), .val (.int (Int32.ofNat i)), z] [.int (cv A (o + i))])) := c3.trans (by
        refine Xl.aget hexec hAl rfl (hA.get (i := o + i) (by omega)) rfl rfl (hb hbytes d12) ?_
        exact Steps.refl _)
      have c5 : Steps p.tables e below (s₁.setTop (entryFrame m #[.ref b, .int (Int32.ofNat o), .ref d, .int (Int32.ofNat q), .int (Int32.ofNat len)] 7)) (Tl.setTop (mkF m 15 #[.val (.ref b), .val (.int (Int32.ofNat (o + i))), .val (.ref d), .val (.int (Int32.ofNat (q + i))), .val (.int (Int32.ofNat len)), .val (.int (Int32.ofNat i)), .val (.int (cv A (o + i)))] [])) := c4.trans (by
        refine XS.istoreS Xl.here hexec rfl (hb hbytes d13) rfl rfl hz ?_
        exact Steps.refl _)
      have c6 : Steps p.tables e below (s₁.setTop (entryFrame m #[.ref b, .int (Int32.ofNat o), .ref d, .int (Int32.ofNat q), .int (Int32.ofNat len)] 7)) (Tl.setTop (mkF m 31 #[.val (.ref b), .val (.int (Int32.ofNat (o + i))), .val (.ref d), .val (.int (Int32.ofNat (q + i))), .val (.int (Int32.ofNat len)), .val (.int (Int32.ofNat i)), .val (.int (cv A (o + i)))] [.int (lo8 (cv A (o + i))), .int (Int32.ofNat (q + i)), .ref d])) := c5.trans (by
        refine XS.iload Xl.here hexec rfl (hb hbytes d15) rfl ?_
        refine sipushV Xl.here hexec rfl 255 (hb hbytes d17) (by decide) ?_
        refine XS.icmpYes Xl.here hexec rfl (pc0 := 20) rfl (hb hbytes d20) rfl (ii_le_t (hp i (by omega))) (by decide) rfl ?_
        refine XS.aloadN Xl.here hexec rfl (hb hbytes d26) rfl rfl ?_
        refine XS.iloadN Xl.here hexec rfl (hb hbytes d27) rfl ?_
        refine XS.iload Xl.here hexec rfl (hb hbytes d28) rfl ?_
        refine i2b Xl.here hexec rfl (hb hbytes d30) rfl ?_
        exact Steps.refl _)
      obtain ⟨T7, X7, p7, st7⟩ := Xl.aput hexec hBk rfl hlt rfl (fits_lo8 (cv A (o + i))) (g := (mkF m 31 #[.val (.ref b), .val (.int (Int32.ofNat (o + i))), .val (.ref d), .val (.int (Int32.ofNat (q + i))), .val (.int (Int32.ofNat len)), .val (.int (Int32.ofNat i)), .val (.int (cv A (o + i)))] [.int (lo8 (cv A (o + i))), .int (Int32.ofNat (q + i)), .ref d])) rfl (rest := []) rfl (hb hbytes d31)
      have c8 : Steps p.tables e below (s₁.setTop (entryFrame m #[.ref b, .int (Int32.ofNat o), .ref d, .int (Int32.ofNat q), .int (Int32.ofNat len)] 7)) (T7.setTop (mkF m 32 #[.val (.ref b), .val (.int (Int32.ofNat (o + i))), .val (.ref d), .val (.int (Int32.ofNat (q + i))), .val (.int (Int32.ofNat len)), .val (.int (Int32.ofNat i)), .val (.int (cv A (o + i)))] [])) := c6.trans (st7 _ (Steps.refl _))
      have c9 : Steps p.tables e below (s₁.setTop (entryFrame m #[.ref b, .int (Int32.ofNat o), .ref d, .int (Int32.ofNat q), .int (Int32.ofNat len)] 7)) (T7.setTop (mkF m 3 #[.val (.ref b), .val (.int (Int32.ofNat (o + i) + 1)), .val (.ref d), .val (.int (Int32.ofNat (q + i) + 1)), .val (.int (Int32.ofNat len)), .val (.int (Int32.ofNat i + 1)), .val (.int (cv A (o + i)))] [])) := c8.trans (by
        refine iincV X7.here hexec rfl 1 (hb hbytes d32) (by decide) rfl rfl ?_
        refine iincV X7.here hexec rfl 1 (hb hbytes d35) (by decide) rfl rfl ?_
        refine iincV X7.here hexec rfl 1 (hb hbytes d38) (by decide) rfl rfl ?_
        refine XS.goto X7.here hexec rfl (pc0 := 41) rfl (hb hbytes d41) (by decide) rfl ?_
        exact Steps.refl _)
      have c10 : Steps p.tables e below (s₁.setTop (entryFrame m #[.ref b, .int (Int32.ofNat o), .ref d, .int (Int32.ofNat q), .int (Int32.ofNat len)] 7)) (T7.setTop (mkF m 3 #[.val (.ref b), .val (.int (Int32.ofNat (o + (i + 1)))), .val (.ref d), .val (.int (Int32.ofNat (q + (i + 1)))), .val (.int (Int32.ofNat len)), .val (.int (Int32.ofNat (i + 1))), .val (.int (cv A (o + i)))] [])) := by
        have := c9
        rw [succ32, succ32, succ32] at this
        exact this
      exact ih (i + 1) (by omega) _ (Or.inr ⟨_, rfl, rfl⟩) T7 _ (by rw [copyLocs_step, ← List.append_assoc]; exact X7) (pl.trans p7) (fl.step (by omega) hlt (by simp)) c10
  obtain ⟨T9, B9, z9, X9, p9, f9, g9⟩ := loop len 0 (by omega) .unset (Or.inl rfl) s₁ B (by simpa [copyLocs] using X0) ⟨hB0.1, fun _ _ => rfl, rfl⟩ (Laid.zero _ _ _) c2
  have c11 : Steps p.tables e below (s₁.setTop (entryFrame m #[.ref b, .int (Int32.ofNat o), .ref d, .int (Int32.ofNat q), .int (Int32.ofNat len)] 7)) (T9.setTop (mkF m 46 #[.val (.ref b), .val (.int (Int32.ofNat (o + len))), .val (.ref d), .val (.int (Int32.ofNat (q + len))), .val (.int (Int32.ofNat len)), .val (.int (Int32.ofNat len)), z9] [.int (Int32.ofNat len)])) := g9.trans (by
    refine XS.iload X9.here hexec rfl (hb hbytes d3) rfl ?_
    refine XS.iload X9.here hexec rfl (hb hbytes d5) rfl ?_
    refine XS.icmpYes X9.here hexec rfl (pc0 := 7) rfl (hb hbytes d7) rfl (ii_ge_t (nlt32 (by omega) (Nat.le_refl _))) (by decide) rfl ?_
    refine XS.iload X9.here hexec rfl (hb hbytes d44) rfl ?_
    exact Steps.refl _)
  exact ⟨T9, some (.int (Int32.ofNat len)), _, _, _, X9, by simp, rfl, rfl, (fun h => by cases h), ⟨rfl, B9, p9.from hh0, f9⟩, fun fs hl => c11.trans (X9.ireturnOut hexec hret rfl (Or.inl rfl) (hb hbytes d46) hl)⟩
end Cmp5
namespace Cmp3
def yN : MethodName := ⟨"java/lang/StringUTF16", "compress", "([CII)[B"⟩
abbrev yB : ByteArray := jdk_52_method_16_code
theorem d0 : decode yB 0 = .ok (.iload_n 2, 1) := by decide +kernel
theorem d1 : decode yB 1 = .ok (.newarray .byte, 2) := by decide +kernel
theorem d3 : decode yB 3 = .ok (.astore_n 3, 1) := by decide +kernel
theorem d4 : decode yB 4 = .ok (.aload_n 0, 1) := by decide +kernel
theorem d5 : decode yB 5 = .ok (.iload_n 1, 1) := by decide +kernel
theorem d6 : decode yB 6 = .ok (.aload_n 3, 1) := by decide +kernel
theorem d7 : decode yB 7 = .ok (.iconst 0, 1) := by decide +kernel
theorem d8 : decode yB 8 = .ok (.iload_n 2, 1) := by decide +kernel
theorem d9 : decode yB 9 = .ok (.invokestatic 115, 3) := by decide +kernel
theorem d12 : decode yB 12 = .ok (.istore 4, 2) := by decide +kernel
theorem d14 : decode yB 14 = .ok (.iload 4, 2) := by decide +kernel
theorem d16 : decode yB 16 = .ok (.iload_n 2, 1) := by decide +kernel
theorem d17 : decode yB 17 = .ok (.if_icmp (.eq) 40, 3) := by decide +kernel
theorem d57 : decode yB 57 = .ok (.aload_n 3, 1) := by decide +kernel
theorem d58 : decode yB 58 = .ok (.areturn, 1) := by decide +kernel
def site : List Cond := [.arrayClass .byte, Cmp5.tab] ++ staticW U16 115 Cmp5.yN
def tab : Cond := tabOf yN yB 6 (some (.array .byte)) site
def P (b : Addr) (A : Cell) (o len : Nat) (args : Array Value) (s : State) : Prop := args = #[.ref b, .int (Int32.ofNat o), .int (Int32.ofNat len)] ∧ Ch b A s ∧ o + len ≤ A.slots.size ∧ len ≤ 536870912 ∧ ∀ i, i < len → ¬ 255 < cv A (o + i)
def E (b : Addr) (A : Cell) (o len : Nat) (r : Option Value) (s u : State) : Prop := NewArr .byte "[B" len (fun j => .int (lo8 (cv A (o + j)))) r s u ∧ u.heap.size = s.heap.size + 1
/-- no char of the range above 255: a new byte[] of their low bytes -/
theorem law (l : Launch) (b : Addr) (A : Cell) (o len : Nat) : Law l yN 3 3 1 18 yB 6 (some (.array .byte)) site (P b A o len) (E b A o len) [] 1 len := by
  refine Law.of_walk (plainFor_of_name (by decide +kernel)) (by decide +kernel) (by decide +kernel) (by decide) (fun _ _ h => by rw [h.1]; rfl) (fun _ U U' hal hh h => ⟨h.1, h.2.1.mv hal hh, h.2.2⟩) (fun r U U' V V' h1 hal h2 h => ⟨NewArr.mv r U U' V V' h1 hal h2 h.1, by rw [h1, h2]; exact h.2⟩) ?_
  intro p e s m args below meth c s₁ X0 hexec hbytes hml hret hlk hnm hown hh0 W hP
  obtain ⟨rfl, hA, l1, l2, hp⟩ := hP
  have a31 := hA.1.2.2.2
  have c1 : Steps p.tables e below (s₁.setTop (entryFrame m #[.ref b, .int (Int32.ofNat o), .int (Int32.ofNat len)] 6)) (s₁.setTop (mkF m 0 #[.val (.ref b), .val (.int (Int32.ofNat o)), .val (.int (Int32.ofNat len)), .unset, .unset, .unset] [])) := entry rfl
  have c2 : Steps p.tables e below (s₁.setTop (entryFrame m #[.ref b, .int (Int32.ofNat o), .int (Int32.ofNat len)] 6)) (s₁.setTop (mkF m 1 #[.val (.ref b), .val (.int (Int32.ofNat o)), .val (.int (Int32.ofNat len)), .unset, .unset, .unset] [.int (Int32.ofNat len)])) := c1.trans (by
    refine XS.iloadN X0.here hexec rfl (hb hbytes d0) rfl ?_
    exact Steps.refl _)
  obtain ⟨T3, B3, X3, ba3, bs3, bv3, bh3, bf3, st3⟩ := X0.anew hexec (atype := .byte) (wk W (.arrayClass .byte)) rfl (by show len * 1 ≤ _; omega) (by omega) (g := (mkF m 1 #[.val (.ref b), .val (.int (Int32.ofNat o)), .val (.int (Int32.ofNat len)), .unset, .unset, .unset] [.int (Int32.ofNat len)])) rfl (hb hbytes d1) (rest := []) rfl (Nat.le_refl _) (by show 0 + len ≤ len; omega)
  rw [hh0] at ba3 st3
  have kp3 : XT.Kept s T3 := (XT.Kept.of_eq hh0).push bh3
  have hA3 := hA.keep X3.warmed.alike (kp3 _ _ hA.1.1)
  have hne : b ≠ s.heap.size := hA.1.ne
  have c4 : Steps p.tables e below (s₁.setTop (entryFrame m #[.ref b, .int (Int32.ofNat o), .int (Int32.ofNat len)] 6)) (T3.setTop (mkF m 3 #[.val (.ref b), .val (.int (Int32.ofNat o)), .val (.int (Int32.ofNat len)), .unset, .unset, .unset] [.ref s.heap.size])) := c2.trans (st3 _ (Steps.refl _))
  have c5 : Steps p.tables e below (s₁.setTop (entryFrame m #[.ref b, .int (Int32.ofNat o), .int (Int32.ofNat len)] 6)) (T3.setTop (mkF m 9 #[.val (.ref b), .val (.int (Int32.ofNat o)), .val (.int (Int32.ofNat len)), .val (.ref s.heap.size), .unset, .unset] [.int (Int32.ofNat len), .int 0, .ref s.heap.size, .int (Int32.ofNat o), .ref b])) := c4.trans (by
    refine XS.astoreN X3.here hexec rfl (hb hbytes d3) rfl rfl rfl ?_
    refine XS.aloadN X3.here hexec rfl (hb hbytes d4) rfl rfl ?_
    refine XS.iloadN X3.here hexec rfl (hb hbytes d5) rfl ?_
    refine XS.aloadN X3.here hexec rfl (hb hbytes d6) rfl rfl ?_
    refine iconstV X3.here hexec rfl 0 (hb hbytes d7) (by decide) ?_
    refine XS.iloadN X3.here hexec rfl (hb hbytes d8) rfl ?_
    exact Steps.refl _)
  obtain ⟨v6, T6, X6, E6, g6⟩ := X3.callS hexec (Cmp5.law l b A s.heap.size B3 o 0 len) hown (wks W (staticW U16 115 Cmp5.yN)) (wk W Cmp5.tab) (W := 0) (Nat.le_of_ble_eq_true rfl) (Nat.le_of_ble_eq_true rfl) (Nat.le_refl _) (by show 0 + len + 0 ≤ len; omega) (g := (mkF m 9 #[.val (.ref b), .val (.int (Int32.ofNat o)), .val (.int (Int32.ofNat len)), .val (.ref s.heap.size), .unset, .unset] [.int (Int32.ofNat len), .int (Int32.ofNat 0), .ref s.heap.size, .int (Int32.ofNat o), .ref b])) rfl (by rw [hml]; rfl) c5 (argsL := [.ref b, .int (Int32.ofNat o), .ref s.heap.size, .int (Int32.ofNat 0), .int (Int32.ofNat len)]) (rest := []) rfl rfl (by show 2 * 0 + 0 ≤ _; decide) (hb hbytes d9) (⟨rfl, hA3, ba3, hne, l1, by rw [bs3]; simp, hp⟩)
  obtain ⟨rfl, B6, p6, f6⟩ := E6
  have c7 : Steps p.tables e below (s₁.setTop (entryFrame m #[.ref b, .int (Int32.ofNat o), .int (Int32.ofNat len)] 6)) (T6.setTop (mkF m 12 #[.val (.ref b), .val (.int (Int32.ofNat o)), .val (.int (Int32.ofNat len)), .val (.ref s.heap.size), .unset, .unset] [.int (Int32.ofNat len)])) := g6
  have c8 : Steps p.tables e below (s₁.setTop (entryFrame m #[.ref b, .int (Int32.ofNat o), .int (Int32.ofNat len)] 6)) (T6.setTop (mkF m 58 #[.val (.ref b), .val (.int (Int32.ofNat o)), .val (.int (Int32.ofNat len)), .val (.ref s.heap.size), .val (.int (Int32.ofNat len)), .unset] [.ref s.heap.size])) := c7.trans (by
    refine XS.istore X6.here hexec rfl (hb hbytes d12) rfl rfl ?_
    refine XS.iload X6.here hexec rfl (hb hbytes d14) rfl ?_
    refine XS.iloadN X6.here hexec rfl (hb hbytes d16) rfl ?_
    refine XS.icmpYes X6.here hexec rfl (pc0 := 17) rfl (hb hbytes d17) rfl (ii_eq_t rfl) (by decide) rfl ?_
    refine XS.aloadN X6.here hexec rfl (hb hbytes d57) rfl rfl ?_
    exact Steps.refl _)
  have X8 := X6.wide (L' := []) (cells' := 1) (slots' := len) (fun x hx hlt => by
    simp only [List.nil_append, copyLocs, List.mem_map, List.mem_range] at hx
    obtain ⟨i, -, rfl⟩ := hx
    exact absurd hlt (Nat.lt_irrefl _)) (Nat.le_refl _) (by omega)
  exact ⟨T6, some (.ref s.heap.size), _, _, _, X8, rfl, rfl, rfl, (fun h => by cases h), ⟨⟨rfl, B6, ba3.like (X3.warmed.alike.symm.trans X6.warmed.alike) p6.1 f6.1 f6.2.1 f6.2.2.1, f6.2.1.trans bv3, by rw [X6.warmed.alike.findClass, f6.1]; exact bf3, by rw [f6.2.2.1, bs3]; simp, fun j hj => by rw [f6.2.2.2 j, if_pos (by omega)]; rfl, kp3.put p6 (Nat.le_refl _)⟩, by rw [p6.2.2, bh3, hh0]; simp⟩, fun fs hl => c8.trans (X8.areturnOut hexec rfl hret rfl (hb hbytes d58) hl)⟩
end Cmp3
namespace CodL
def yN : MethodName := ⟨"java/lang/StringUTF16", "coderFromArrayLen", "([BI)B"⟩
abbrev yB : ByteArray := jdk_52_method_15_code
theorem d0 : decode yB 0 = .ok (.iload_n 1, 1) := by decide +kernel
theorem d1 : decode yB 1 = .ok (.aload_n 0, 1) := by decide +kernel
theorem d2 : decode yB 2 = .ok (.arraylength, 1) := by decide +kernel
theorem d3 : decode yB 3 = .ok (.isub, 1) := by decide +kernel
theorem d4 : decode yB 4 = .ok (.bipush 31, 2) := by decide +kernel
theorem d6 : decode yB 6 = .ok (.iushr, 1) := by decide +kernel
theorem d7 : decode yB 7 = .ok (.i2b, 1) := by decide +kernel
theorem d8 : decode yB 8 = .ok (.ireturn, 1) := by decide +kernel
def site : List Cond := []
def tab : Cond := tabOf yN yB 2 (some .byte) site
def P (d : Addr) (B : Cell) (args : Array Value) (s : State) : Prop := args = #[.ref d, .int (Int32.ofNat B.slots.size)] ∧ Arr .byte d B s
def E (r : Option Value) (s u : State) : Prop := XT.PureE (some (.int 0)) r s u
/-- an array as long as the number of chars: LATIN1 -/
theorem law (l : Launch) (d : Addr) (B : Cell) : Law l yN 2 2 0 0 yB 2 (some .byte) site (P d B) E [] 0 0 := by
  refine Law.of_walk (plainFor_of_name (by decide +kernel)) (by decide +kernel) (by decide +kernel) (by decide) (fun _ _ h => by rw [h.1]; rfl) (fun _ U U' hal hh h => ⟨h.1, h.2.mv hal hh⟩) (fun r U U' V V' h1 hal h2 h => XT.PureE.mv r U U' V V' h1 hal h2 h) ?_
  intro p e s m args below meth c s₁ X0 hexec hbytes hml hret hlk hnm hown hh0 W hP
  obtain ⟨rfl, hB⟩ := hP
  have hB0 := hB.mv X0.warmed.alike hh0
  have c1 : Steps p.tables e below (s₁.setTop (entryFrame m #[.ref d, .int (Int32.ofNat B.slots.size)] 2)) (s₁.setTop (mkF m 0 #[.val (.ref d), .val (.int (Int32.ofNat B.slots.size))] [])) := entry rfl
  have c2 : Steps p.tables e below (s₁.setTop (entryFrame m #[.ref d, .int (Int32.ofNat B.slots.size)] 2)) (s₁.setTop (mkF m 2 #[.val (.ref d), .val (.int (Int32.ofNat B.slots.size))] [.ref d, .int (Int32.ofNat B.slots.size)])) := c1.trans (by
    refine XS.iloadN X0.here hexec rfl (hb hbytes d0) rfl ?_
    refine XS.aloadN X0.here hexec rfl (hb hbytes d1) rfl rfl ?_
    exact Steps.refl _)
  have c3 : Steps p.tables e below (s₁.setTop (entryFrame m #[.ref d, .int (Int32.ofNat B.slots.size)] 2)) (s₁.setTop (mkF m 8 #[.val (.ref d), .val (.int (Int32.ofNat B.slots.size))] [.int (lo8 (ushr (Int32.ofNat B.slots.size - Int32.ofNat B.slots.size) 31))])) := c2.trans (by
    refine X0.alen hexec hB0 rfl rfl (hb hbytes d2) ?_
    refine XS.isub X0.here hexec rfl (hb hbytes d3) rfl ?_
    refine bipushV X0.here hexec rfl 31 (hb hbytes d4) (by decide) ?_
    refine iushr X0.here hexec rfl (hb hbytes d6) rfl ?_
    refine i2b X0.here hexec rfl (hb hbytes d7) rfl ?_
    exact Steps.refl _)
  have e0 : lo8 (ushr (Int32.ofNat B.slots.size - Int32.ofNat B.slots.size) 31) = 0 := by rw [Int32.sub_self]; decide
  rw [e0] at c3
  exact ⟨s₁, some (.int 0), _, _, _, X0, rfl, rfl, rfl, (fun h => by cases h), ⟨rfl, hh0⟩, fun fs hl => c3.trans (X0.ireturnOut hexec hret rfl (Or.inr (Or.inr (Or.inl rfl))) (hb hbytes d8) hl)⟩
end CodL
/-- the String at a is Latin-1 over a new byte[] (the heap's one new cell): the low bytes of the len chars of A from o on; every cell but a is kept -/
def Got (a : Addr) (D : Cell) (fV fC : Field) (A : Cell) (o len : Nat) (r : Option Value) (s u : State) : Prop := r = none ∧ ∃ D' V : Cell, Blank "java/lang/String" a D' u ∧ Same D D' [fV.slot, fC.slot] ∧ D'.slots[fV.slot]? = some (.ref s.heap.size) ∧ D'.slots[fC.slot]? = some (.int 0) ∧ Arr .byte s.heap.size V u ∧ V.vm = .none ∧ u.vm.findClass "[B" = some V.cls ∧ V.slots.size = len ∧ (∀ j, j < len → V.slots[j]? = some (.int (lo8 (cv A (o + j))))) ∧ (∀ (y : Addr) (c : Cell), y ≠ a → s.heap[y]? = some c → u.heap[y]? = some c) ∧ u.heap.size = s.heap.size + 1
theorem Got.mv {a : Addr} {D A : Cell} {fV fC : Field} {o len : Nat} : ∀ r (U U' V V' : State), U'.heap = U.heap → V.vm.Alike V'.vm → V'.heap = V.heap → Got a D fV fC A o len r U V → Got a D fV fC A o len r U' V' :=
  fun r U U' V V' h1 hal h2 ⟨e0, D', X, a1, a2, a3, a4, a5, a6, a7, a8, a9, a10, a11⟩ => ⟨e0, D', X, a1.mv hal h2, a2, by rw [h1]; exact a3, a4, by rw [h1]; exact a5.mv hal h2, a6, by rw [hal.findClass]; exact a7, a8, a9, by rw [h1, h2]; exact a10, by rw [h1, h2]; exact a11⟩
namespace New4
def yN : MethodName := ⟨"java/lang/String", "<init>", "([CIILjava/lang/Void;)V"⟩
abbrev yB : ByteArray := jdk_42_method_149_code
theorem d0 : decode yB 0 = .ok (.aload_n 0, 1) := by decide +kernel
theorem d1 : decode yB 1 = .ok (.invokespecial 1, 3) := by decide +kernel
theorem d4 : decode yB 4 = .ok (.iload_n 3, 1) := by decide +kernel
theorem d5 : decode yB 5 = .ok (.ifCond (.ne) 22, 3) := by decide +kernel
theorem d27 : decode yB 27 = .ok (.getstatic 38, 3) := by decide +kernel
theorem d30 : decode yB 30 = .ok (.ifCond (.eq) 28, 3) := by decide +kernel
theorem d33 : decode yB 33 = .ok (.aload_n 1, 1) := by decide +kernel
theorem d34 : decode yB 34 = .ok (.iload_n 2, 1) := by decide +kernel
theorem d35 : decode yB 35 = .ok (.iload_n 3, 1) := by decide +kernel
theorem d36 : decode yB 36 = .ok (.invokestatic 177, 3) := by decide +kernel
theorem d39 : decode yB 39 = .ok (.astore 5, 2) := by decide +kernel
theorem d41 : decode yB 41 = .ok (.aload_n 0, 1) := by decide +kernel
theorem d42 : decode yB 42 = .ok (.aload 5, 2) := by decide +kernel
theorem d44 : decode yB 44 = .ok (.iload_n 3, 1) := by decide +kernel
theorem d45 : decode yB 45 = .ok (.invokestatic 47, 3) := by decide +kernel
theorem d48 : decode yB 48 = .ok (.putfield 15, 3) := by decide +kernel
theorem d51 : decode yB 51 = .ok (.aload_n 0, 1) := by decide +kernel
theorem d52 : decode yB 52 = .ok (.aload 5, 2) := by decide +kernel
theorem d54 : decode yB 54 = .ok (.putfield 9, 3) := by decide +kernel
theorem d57 : decode yB 57 = .ok (.return_, 1) := by decide +kernel
def site : List Cond := [.fieldLink "java/lang/String" 38 "java/lang/String" "COMPACT_STRINGS" "Z", Cmp3.tab, CodL.tab, .laysFinal "java/lang/String" "java/lang/String" "value" "[B", .fieldLink "java/lang/String" 9 "java/lang/String" "value" "[B", .laysFinal "java/lang/String" "java/lang/String" "coder" "B", .fieldLink "java/lang/String" 15 "java/lang/String" "coder" "B"] ++ objW "java/lang/String" 1 ++ staticW "java/lang/String" 177 Cmp3.yN ++ staticW "java/lang/String" 47 CodL.yN
def tab : Cond := tabOf yN yB 6 none site
def P (a : Addr) (D : Cell) (fV fC : Field) (b : Addr) (A : Cell) (z : Int32) (o len : Nat) (args : Array Value) (s : State) : Prop := args = #[.ref a, .ref b, .int (Int32.ofNat o), .int (Int32.ofNat len), .null] ∧ Blank "java/lang/String" a D s ∧ Found "java/lang/String" "value" "[B" fV s ∧ Found "java/lang/String" "coder" "B" fC s ∧ Ch b A s ∧ StaticIs s "java/lang/String" "COMPACT_STRINGS" "Z" (.int z) ∧ ¬ z = 0 ∧ 0 < len ∧ o + len ≤ A.slots.size ∧ len ≤ 536870912 ∧ ∀ i, i < len → ¬ 255 < cv A (o + i)
def E (a : Addr) (D : Cell) (fV fC : Field) (A : Cell) (o len : Nat) (r : Option Value) (s u : State) : Prop := Got a D fV fC A o len r s u
/-- len > 0, no char of the range above 255: a Latin-1 String of their low bytes -/
theorem law (l : Launch) (a : Addr) (D : Cell) (fV fC : Field) (b : Addr) (A : Cell) (z : Int32) (o len : Nat) : Law l yN 5 4 2 35 yB 6 none site (P a D fV fC b A z o len) (E a D fV fC A o len) [⟨a, fC.slot⟩, ⟨a, fV.slot⟩] 1 len := by
  refine Law.of_walk (plainFor_of_name (by decide +kernel)) (by decide +kernel) (by decide +kernel) (by decide) (fun _ _ h => by rw [h.1]; rfl) (fun _ U U' hal hh h => ⟨h.1, h.2.1.mv hal hh, h.2.2.1.al hal, h.2.2.2.1.al hal, h.2.2.2.2.1.mv hal hh, h.2.2.2.2.2.1.there hal hh, h.2.2.2.2.2.2⟩) (fun r U U' V V' h1 hal h2 h => Got.mv r U U' V V' h1 hal h2 h) ?_
  intro p e s m args below meth c s₁ X0 hexec hbytes hml hret hlk hnm hown hh0 W hP
  obtain ⟨rfl, hB, f1, f2, hA, s1, hz, l0, l1, l2, hp⟩ := hP
  have a31 := hA.1.2.2.2
  have c1 : Steps p.tables e below (s₁.setTop (entryFrame m #[.ref a, .ref b, .int (Int32.ofNat o), .int (Int32.ofNat len), .null] 6)) (s₁.setTop (mkF m 0 #[.val (.ref a), .val (.ref b), .val (.int (Int32.ofNat o)), .val (.int (Int32.ofNat len)), .val .null, .unset] [])) := entry rfl
  have c2 : Steps p.tables e below (s₁.setTop (entryFrame m #[.ref a, .ref b, .int (Int32.ofNat o), .int (Int32.ofNat len), .null] 6)) (s₁.setTop (mkF m 1 #[.val (.ref a), .val (.ref b), .val (.int (Int32.ofNat o)), .val (.int (Int32.ofNat len)), .val .null, .unset] [.ref a])) := c1.trans (by
    refine XS.aloadN X0.here hexec rfl (hb hbytes d0) rfl rfl ?_
    exact Steps.refl _)
  obtain ⟨T3, X3, q3, st3⟩ := X0.oinit hexec hown (wks W (objW "java/lang/String" 1)) (g := (mkF m 1 #[.val (.ref a), .val (.ref b), .val (.int (Int32.ofNat o)), .val (.int (Int32.ofNat len)), .val .null, .unset] [.ref a])) rfl (by rw [hml]; rfl) (rest := []) rfl (hb hbytes d1) (W := 0) (by show 2 * 0 + 0 ≤ _; decide) (Nat.le_of_ble_eq_true rfl) (Nat.le_of_ble_eq_true rfl)
  have hh3 := q3.trans hh0
  have c4 : Steps p.tables e below (s₁.setTop (entryFrame m #[.ref a, .ref b, .int (Int32.ofNat o), .int (Int32.ofNat len), .null] 6)) (T3.setTop (mkF m 27 #[.val (.ref a), .val (.ref b), .val (.int (Int32.ofNat o)), .val (.int (Int32.ofNat len)), .val .null, .unset] [])) := (c2.trans (st3 _ (Steps.refl _))).trans (by
    refine XS.iloadN X3.here hexec rfl (hb hbytes d4) rfl ?_
    refine XS.ifYes X3.here hexec rfl (pc0 := 5) rfl (hb hbytes d5) rfl (i0_ne_t (nz32 (by omega) l0)) (by decide) rfl ?_
    exact Steps.refl _)
  obtain ⟨T5, X5, q5, st5⟩ := X3.sget hexec hown (wk W (.fieldLink "java/lang/String" 38 "java/lang/String" "COMPACT_STRINGS" "Z")) s1 (fun _ _ h => by rw [hh3]; exact h) (g := (mkF m 27 #[.val (.ref a), .val (.ref b), .val (.int (Int32.ofNat o)), .val (.int (Int32.ofNat len)), .val .null, .unset] [])) rfl (hb hbytes d27)
  have hh5 := q5.trans hh3
  have c6 : Steps p.tables e below (s₁.setTop (entryFrame m #[.ref a, .ref b, .int (Int32.ofNat o), .int (Int32.ofNat len), .null] 6)) (T5.setTop (mkF m 30 #[.val (.ref a), .val (.ref b), .val (.int (Int32.ofNat o)), .val (.int (Int32.ofNat len)), .val .null, .unset] [.int z])) := c4.trans (st5 _ (Steps.refl _))
  have c7 : Steps p.tables e below (s₁.setTop (entryFrame m #[.ref a, .ref b, .int (Int32.ofNat o), .int (Int32.ofNat len), .null] 6)) (T5.setTop (mkF m 36 #[.val (.ref a), .val (.ref b), .val (.int (Int32.ofNat o)), .val (.int (Int32.ofNat len)), .val .null, .unset] [.int (Int32.ofNat len), .int (Int32.ofNat o), .ref b])) := c6.trans (by
    refine XS.ifNo X5.here hexec rfl (hb hbytes d30) rfl (i0_eq_f hz) ?_
    refine XS.aloadN X5.here hexec rfl (hb hbytes d33) rfl rfl ?_
    refine XS.iloadN X5.here hexec rfl (hb hbytes d34) rfl ?_
    refine XS.iloadN X5.here hexec rfl (hb hbytes d35) rfl ?_
    exact Steps.refl _)
  obtain ⟨v8, T8, X8, E8, g8⟩ := X5.callS hexec (Cmp3.law l b A o len) hown (wks W (staticW "java/lang/String" 177 Cmp3.yN)) (wk W Cmp3.tab) (W := 0) (Nat.le_of_ble_eq_true rfl) (Nat.le_of_ble_eq_true rfl) (Nat.le_refl _) (by show 0 + len ≤ len; omega) (g := (mkF m 36 #[.val (.ref a), .val (.ref b), .val (.int (Int32.ofNat o)), .val (.int (Int32.ofNat len)), .val .null, .unset] [.int (Int32.ofNat len), .int (Int32.ofNat o), .ref b])) rfl (by rw [hml]; rfl) c7 (argsL := [.ref b, .int (Int32.ofNat o), .int (Int32.ofNat len)]) (rest := []) rfl rfl (by show 2 * 0 + 0 ≤ _; decide) (hb hbytes d36) (⟨rfl, hA.mv X5.warmed.alike hh5, l1, l2, hp⟩)
  obtain ⟨e8, z8⟩ := E8
  obtain ⟨rfl, N, n1, n2, n3, n4, n5, n6⟩ := NewArr.mv _ T5 s _ _ hh5.symm (Vm.Alike.refl _) rfl e8
  rw [hh5] at z8
  have hB1 := hB.keep X8.warmed.alike (n6 _ _ hB.1)
  have hne : s.heap.size ≠ a := (Nat.ne_of_lt (Array.getElem?_eq_some_iff.mp hB.1).1).symm
  have c9 : Steps p.tables e below (s₁.setTop (entryFrame m #[.ref a, .ref b, .int (Int32.ofNat o), .int (Int32.ofNat len), .null] 6)) (T8.setTop (mkF m 39 #[.val (.ref a), .val (.ref b), .val (.int (Int32.ofNat o)), .val (.int (Int32.ofNat len)), .val .null, .unset] [.ref s.heap.size])) := g8
  have c10 : Steps p.tables e below (s₁.setTop (entryFrame m #[.ref a, .ref b, .int (Int32.ofNat o), .int (Int32.ofNat len), .null] 6)) (T8.setTop (mkF m 45 #[.val (.ref a), .val (.ref b), .val (.int (Int32.ofNat o)), .val (.int (Int32.ofNat len)), .val .null, .val (.ref s.heap.size)] [.int (Int32.ofNat N.slots.size), .ref s.heap.size, .ref a])) := by
    have hc : Steps p.tables e below (s₁.setTop (entryFrame m #[.ref a, .ref b, .int (Int32.ofNat o), .int (Int32.ofNat len), .null] 6)) (T8.setTop (mkF m 45 #[.val (.ref a), .val (.ref b), .val (.int (Int32.ofNat o)), .val (.int (Int32.ofNat len)), .val .null, .val (.ref s.heap.size)] [.int (Int32.ofNat len), .ref s.heap.size, .ref a])) := c9.trans (by
      refine XS.astore X8.here hexec rfl (hb hbytes d39) rfl rfl rfl ?_
      refine XS.aloadN X8.here hexec rfl (hb hbytes d41) rfl rfl ?_
      refine XS.aload X8.here hexec rfl (hb hbytes d42) rfl rfl ?_
      refine XS.iloadN X8.here hexec rfl (hb hbytes d44) rfl ?_
      exact Steps.refl _)
    rw [n4]; exact hc
  obtain ⟨v11, T11, X11, E11, g11⟩ := X8.callS hexec (CodL.law l s.heap.size N) hown (wks W (staticW "java/lang/String" 47 CodL.yN)) (wk W CodL.tab) (W := 1) (Nat.le_of_ble_eq_true rfl) (Nat.le_of_ble_eq_true rfl) (Nat.le_refl _) (by show 0 + len + 0 ≤ len; omega) (g := (mkF m 45 #[.val (.ref a), .val (.ref b), .val (.int (Int32.ofNat o)), .val (.int (Int32.ofNat len)), .val .null, .val (.ref s.heap.size)] [.int (Int32.ofNat N.slots.size), .ref s.heap.size, .ref a])) rfl (by rw [hml]; rfl) c10 (argsL := [.ref s.heap.size, .int (Int32.ofNat N.slots.size)]) (rest := [.ref a]) rfl rfl (by show 2 * 0 + (1 + 0) ≤ _; decide) (hb hbytes d45) (⟨rfl, n1⟩)
  obtain ⟨rfl, q11⟩ := E11
  have hB11 := hB1.mv (X8.warmed.alike.symm.trans X11.warmed.alike) q11
  have c12 : Steps p.tables e below (s₁.setTop (entryFrame m #[.ref a, .ref b, .int (Int32.ofNat o), .int (Int32.ofNat len), .null] 6)) (T11.setTop (mkF m 48 #[.val (.ref a), .val (.ref b), .val (.int (Int32.ofNat o)), .val (.int (Int32.ofNat len)), .val .null, .val (.ref s.heap.size)] [.int 0, .ref a])) := g11
  obtain ⟨T13, X13, p13, bl13, sl13, st13⟩ := X11.finit hexec hown (wk W (.fieldLink "java/lang/String" 15 "java/lang/String" "coder" "B")) (Or.inr ⟨_, (wk W (.laysFinal "java/lang/String" "java/lang/String" "coder" "B"))⟩) (Or.inl ⟨rfl, hnm⟩) f2 (Or.inl rfl) hB11 (t := .byte) (by decide +kernel) rfl (g := (mkF m 48 #[.val (.ref a), .val (.ref b), .val (.int (Int32.ofNat o)), .val (.int (Int32.ofNat len)), .val .null, .val (.ref s.heap.size)] [.int 0, .ref a])) rfl (rest := []) rfl (hb hbytes d48)
  have c14 : Steps p.tables e below (s₁.setTop (entryFrame m #[.ref a, .ref b, .int (Int32.ofNat o), .int (Int32.ofNat len), .null] 6)) (T13.setTop (mkF m 54 #[.val (.ref a), .val (.ref b), .val (.int (Int32.ofNat o)), .val (.int (Int32.ofNat len)), .val .null, .val (.ref s.heap.size)] [.ref s.heap.size, .ref a])) := (c12.trans (st13 _ (Steps.refl _))).trans (by
    refine XS.aloadN X13.here hexec rfl (hb hbytes d51) rfl rfl ?_
    refine XS.aload X13.here hexec rfl (hb hbytes d52) rfl rfl ?_
    exact Steps.refl _)
  obtain ⟨T15, X15, p15, bl15, sl15, st15⟩ := X13.finit hexec hown (wk W (.fieldLink "java/lang/String" 9 "java/lang/String" "value" "[B")) (Or.inr ⟨_, (wk W (.laysFinal "java/lang/String" "java/lang/String" "value" "[B"))⟩) (Or.inl ⟨rfl, hnm⟩) f1 (Or.inl rfl) bl13 (t := (.array .byte)) (by decide +kernel) rfl (g := (mkF m 54 #[.val (.ref a), .val (.ref b), .val (.int (Int32.ofNat o)), .val (.int (Int32.ofNat len)), .val .null, .val (.ref s.heap.size)] [.ref s.heap.size, .ref a])) rfl (rest := []) rfl (hb hbytes d54)
  have c16 : Steps p.tables e below (s₁.setTop (entryFrame m #[.ref a, .ref b, .int (Int32.ofNat o), .int (Int32.ofNat len), .null] 6)) (T15.setTop (mkF m 57 #[.val (.ref a), .val (.ref b), .val (.int (Int32.ofNat o)), .val (.int (Int32.ofNat len)), .val .null, .val (.ref s.heap.size)] [])) := c14.trans (st15 _ (Steps.refl _))
  have ap := apart (Or.inr ⟨_, (wk W (.laysFinal "java/lang/String" "java/lang/String" "value" "[B"))⟩) (Or.inr ⟨_, (wk W (.laysFinal "java/lang/String" "java/lang/String" "coder" "B"))⟩) f1 f2 (t₁ := .array .byte) (t₂ := .byte) (by decide +kernel) (by decide +kernel) (by decide)
  have al := X8.warmed.alike.symm.trans X15.warmed.alike
  have n7 : T11.heap[s.heap.size]? = some N := by rw [q11]; exact n1.1
  exact ⟨T15, none, _, _, _, X15, by simp, rfl, by omega, (fun _ => rfl), ⟨rfl, _, N, bl15, ((Same.refl D _).set _ (by simp)).set _ (by simp), sl15, (Cell.slots_setSlot_ne _ ap).trans sl13, n1.keep al (p15.other hne (p13.other hne n7)), n2, by rw [al.findClass]; exact n3, n4, n5, fun y c h1 h2 => p15.other h1 (p13.other h1 (by rw [q11]; exact n6 y c h2)), by rw [p15.2.2, p13.2.2, q11]; exact z8⟩, fun fs hl => c16.trans (X15.returnOut hexec hret (hb hbytes d57) hl)⟩
end New4
namespace New1
def yN : MethodName := ⟨"java/lang/String", "<init>", "([C)V"⟩
abbrev yB : ByteArray := jdk_42_method_3_code
theorem d0 : decode yB 0 = .ok (.aload_n 0, 1) := by decide +kernel
theorem d1 : decode yB 1 = .ok (.aload_n 1, 1) := by decide +kernel
theorem d2 : decode yB 2 = .ok (.iconst 0, 1) := by decide +kernel
theorem d3 : decode yB 3 = .ok (.aload_n 1, 1) := by decide +kernel
theorem d4 : decode yB 4 = .ok (.arraylength, 1) := by decide +kernel
theorem d5 : decode yB 5 = .ok (.aconst_null, 1) := by decide +kernel
theorem d6 : decode yB 6 = .ok (.invokespecial 27, 3) := by decide +kernel
theorem d9 : decode yB 9 = .ok (.return_, 1) := by decide +kernel
def site : List Cond := [New4.tab] ++ initW "java/lang/String" 27 New4.yN
def tab : Cond := tabOf yN yB 2 none site
def P (a : Addr) (D : Cell) (fV fC : Field) (b : Addr) (A : Cell) (z : Int32) (args : Array Value) (s : State) : Prop := args = #[.ref a, .ref b] ∧ Blank "java/lang/String" a D s ∧ Found "java/lang/String" "value" "[B" fV s ∧ Found "java/lang/String" "coder" "B" fC s ∧ Ch b A s ∧ StaticIs s "java/lang/String" "COMPACT_STRINGS" "Z" (.int z) ∧ ¬ z = 0 ∧ 0 < A.slots.size ∧ A.slots.size ≤ 536870912 ∧ ∀ i, i < A.slots.size → ¬ 255 < cv A i
def E (a : Addr) (D : Cell) (fV fC : Field) (A : Cell) (r : Option Value) (s u : State) : Prop := Got a D fV fC A 0 A.slots.size r s u
/-- new String(chars), not empty, no char above 255: a Latin-1 String of their low bytes -/
theorem law (l : Launch) (a : Addr) (D : Cell) (fV fC : Field) (b : Addr) (A : Cell) (z : Int32) : Law l yN 2 1 3 52 yB 2 none site (P a D fV fC b A z) (E a D fV fC A) [⟨a, fC.slot⟩, ⟨a, fV.slot⟩] 1 A.slots.size := by
  refine Law.of_walk (plainFor_of_name (by decide +kernel)) (by decide +kernel) (by decide +kernel) (by decide) (fun _ _ h => by rw [h.1]; rfl) (fun _ U U' hal hh h => ⟨h.1, h.2.1.mv hal hh, h.2.2.1.al hal, h.2.2.2.1.al hal, h.2.2.2.2.1.mv hal hh, h.2.2.2.2.2.1.there hal hh, h.2.2.2.2.2.2⟩) (fun r U U' V V' h1 hal h2 h => Got.mv r U U' V V' h1 hal h2 h) ?_
  intro p e s m args below meth c s₁ X0 hexec hbytes hml hret hlk hnm hown hh0 W hP
  obtain ⟨rfl, hB, f1, f2, hA, s1, hz, l0, l2, hp⟩ := hP
  have c1 : Steps p.tables e below (s₁.setTop (entryFrame m #[.ref a, .ref b] 2)) (s₁.setTop (mkF m 0 #[.val (.ref a), .val (.ref b)] [])) := entry rfl
  have c2 : Steps p.tables e below (s₁.setTop (entryFrame m #[.ref a, .ref b] 2)) (s₁.setTop (mkF m 6 #[.val (.ref a), .val (.ref b)] [.null, .int (Int32.ofNat A.slots.size), .int 0, .ref b, .ref a])) := c1.trans (by
    refine XS.aloadN X0.here hexec rfl (hb hbytes d0) rfl rfl ?_
    refine XS.aloadN X0.here hexec rfl (hb hbytes d1) rfl rfl ?_
    refine iconstV X0.here hexec rfl 0 (hb hbytes d2) (by decide) ?_
    refine XS.aloadN X0.here hexec rfl (hb hbytes d3) rfl rfl ?_
    refine X0.alen hexec (hA.1.mv X0.warmed.alike hh0) rfl rfl (hb hbytes d4) ?_
    refine XS.aconstNull X0.here hexec rfl (hb hbytes d5) ?_
    exact Steps.refl _)
  obtain ⟨v3, T3, X3, E3, g3⟩ := X0.callN hexec (New4.law l a D fV fC b A z 0 A.slots.size) rfl hown (wks W (initW "java/lang/String" 27 New4.yN)) (W New4.tab (by simp only [site, List.mem_cons, List.mem_append, true_or, or_true])) (W := 0) (Nat.le_of_ble_eq_true rfl) (Nat.le_of_ble_eq_true rfl) (Nat.le_refl _) (by show 0 + A.slots.size ≤ A.slots.size; omega) (g := (mkF m 6 #[.val (.ref a), .val (.ref b)] [.null, .int (Int32.ofNat A.slots.size), .int (Int32.ofNat 0), .ref b, .ref a])) rfl (by rw [hml]; rfl) c2 (argsL := [.ref b, .int (Int32.ofNat 0), .int (Int32.ofNat A.slots.size), .null]) (rest := []) rfl rfl (by show 2 * 0 + 0 ≤ _; decide) (hb hbytes d6) (⟨rfl, hB.mv X0.warmed.alike hh0, f1.al X0.warmed.alike, f2.al X0.warmed.alike, hA.mv X0.warmed.alike hh0, s1.there X0.warmed.alike hh0, hz, l0, by omega, l2, fun i hi => by rw [Nat.zero_add]; exact hp i hi⟩)
  have e0 := Got.mv _ s₁ s _ _ hh0.symm (Vm.Alike.refl _) rfl E3
  obtain rfl := e0.1
  have c4 : Steps p.tables e below (s₁.setTop (entryFrame m #[.ref a, .ref b] 2)) (T3.setTop (mkF m 9 #[.val (.ref a), .val (.ref b)] [])) := g3
  exact ⟨T3, none, _, _, _, X3, by simp, rfl, by omega, (fun _ => rfl), e0, fun fs hl => c4.trans (X3.returnOut hexec hret (hb hbytes d9) hl)⟩
theorem pays {l : Launch} {R : Room} {p : Program} {e : Env} {below : List Frame} {s : State} {sargs : Array Value} {len W : Nat} (a : Addr) (D : Cell) (fV fC : Field) (b : Addr) (A : Cell) (z : Int32) (htab : tab.before sargs s = true) (hfr : 4 ≤ R.frames) (hlo : W + 65 ≤ R.locals) :
    Back l R p e below s sargs yN len W (fun A₁ a₁ => A₁.cells + 1 ≤ R.cells ∧ A₁.slots + A.slots.size ≤ R.slots ∧ P a D fV fC b A z a₁ A₁.U) (fun A₁ _ v₁ B₁ => E a D fV fC A v₁ A₁.U B₁.U ∧ B₁.locs = A₁.locs ++ [⟨a, fC.slot⟩, ⟨a, fV.slot⟩] ∧ B₁.cells = A₁.cells + 1 ∧ B₁.slots = A₁.slots + A.slots.size) :=
  (law l a D fV fC b A z).pays htab hfr (by omega)
end New1
/-- the byte, read back as charAt reads it, is the char -/
theorem lo8_mask {x : Int32} (h0 : ¬ x < 0) (h1 : ¬ 255 < x) : lo8 x &&& 255 = x := by
  have t : ∀ k : Fin 256, lo8 (Int32.ofNat k.val) &&& 255 = Int32.ofNat k.val := by decide +kernel
  rw [Int32.lt_iff_toInt_lt] at h0 h1
  have e0 : (0 : Int32).toInt = 0 := rfl
  have e1 : (255 : Int32).toInt = 255 := rfl
  obtain ⟨k, hk⟩ : ∃ k : Nat, x.toInt = k := ⟨x.toInt.toNat, by omega⟩
  have hx : x = Int32.ofNat k := Int32.toInt_inj.mp (by rw [hk, Int32.toInt_ofNat_small (by omega)])
  rw [hx]
  exact t ⟨k, by omega⟩
end StrChars
namespace StrChars.Road
open Jvm Sem ClassFile Op Lib Jvm.Stand Jvm.Free Jvm.Free.XT
open Jvm.Lib.Cold (StaticIs)
abbrev ST : String := "java/lang/String"
/-- every table word that New1's law asks, flat -/
abbrev words : List Jvm.Cond := [.code New1.yN New1.yB 2 none, .initialized ST, .methodLink ST 27 New4.yN, .instanceMethod New4.yN,
  .code New4.yN New4.yB 6 none, .fieldLink ST 38 ST "COMPACT_STRINGS" "Z", .laysFinal ST ST "value" "[B", .fieldLink ST 9 ST "value" "[B", .laysFinal ST ST "coder" "B", .fieldLink ST 15 ST "coder" "B",
  .methodLink ST 1 Lib.objectInit, .instanceMethod Lib.objectInit, .code Lib.objectInit ⟨#[0xb1]⟩ 1 none, .methodLink ST 177 Cmp3.yN, .static Cmp3.yN, .methodLink ST 47 CodL.yN, .static CodL.yN,
  .code Cmp3.yN Cmp3.yB 6 (some (.array .byte)), .initialized U16, .arrayClass .byte, .methodLink U16 115 Cmp5.yN, .static Cmp5.yN, .code Cmp5.yN Cmp5.yB 7 (some .int), .code CodL.yN CodL.yB 2 (some .byte)]
theorem tab_of {a : Array Value} {s : State} (h : ∀ w ∈ words, w.before a s = true) : New1.tab.before a s = true := by
  have h5 : Cmp5.tab.before a s = true := unparts (wk h (.code Cmp5.yN Cmp5.yB 7 (some .int))) (wks h (.initialized Cmp5.yN.cls :: Cmp5.site))
  have hc : CodL.tab.before a s = true := unparts (wk h (.code CodL.yN CodL.yB 2 (some .byte))) (wks h (.initialized CodL.yN.cls :: CodL.site))
  have q5 : ∀ w ∈ Cmp5.tab :: words, w.before a s = true := fun w hw => (List.mem_cons.mp hw).elim (fun e => e ▸ h5) (h w)
  have h3 : Cmp3.tab.before a s = true := unparts (wk q5 (.code Cmp3.yN Cmp3.yB 6 (some (.array .byte)))) (wks q5 (.initialized Cmp3.yN.cls :: Cmp3.site))
  have q3 : ∀ w ∈ Cmp3.tab :: CodL.tab :: words, w.before a s = true := fun w hw => (List.mem_cons.mp hw).elim (fun e => e ▸ h3) fun hw => (List.mem_cons.mp hw).elim (fun e => e ▸ hc) (h w)
  have h4 : New4.tab.before a s = true := unparts (wk q3 (.code New4.yN New4.yB 6 none)) (wks q3 (.initialized New4.yN.cls :: New4.site))
  have q4 : ∀ w ∈ New4.tab :: words, w.before a s = true := fun w hw => (List.mem_cons.mp hw).elim (fun e => e ▸ h4) (h w)
  exact unparts (wk q4 (.code New1.yN New1.yB 2 none)) (wks q4 (.initialized New1.yN.cls :: New1.site))
/-- the words ride from the start Z to the walk's own state -/
theorem moved {Z s : State} {a0 args : Array Value} (hZ : Z.Warmed39 s.vm) (hw : ∀ d ∈ words, d.before a0 Z = true) : ∀ d ∈ words, d.before args s = true := fun d hd => by
  have q := hw d hd
  have t : ∀ d ∈ words, d = .arrayClass .byte ∨ (d.onTables && d.keepsFace) = true := by decide +kernel
  rcases t d hd with rfl | t
  · exact RoadKit.mvA hZ q
  · exact RoadKit.mv hZ q t
/-- WHAT COMES BACK, over the tables of the start Z: h the heap at the call, h' behind it -/
def Q (Z : State) (x : Addr) (A : Cell) (h : Heap) (v : Option Value) (h' : Heap) (L : List Loc) : Prop := v = none ∧ (∀ y ∈ L, y.base = x) ∧ RoadKit.Keep h h' [x] ∧ h'.size = h.size + 1 ∧ RoadKit.Exa Z h' x ST ∧ RoadKit.Fld Z h' x ST "value" "[B" (.ref h.size) ∧ RoadKit.Fld Z h' x ST "coder" "B" (.int 0) ∧
  (∃ V : Cell, RoadKit.Arr Z h' h.size V .byte ∧ V.vm = .none ∧ Z.vm.findClass "[B" = some V.cls ∧ V.slots.size = A.slots.size ∧ ∀ j, j < A.slots.size → V.slots[j]? = some (.int (lo8 (cv A j)))) ∧
  ∀ (O n d : String) (w : Value), RoadKit.Fld Z h x O n d w → RoadKit.slotOf Z O n d ≠ RoadKit.slotOf Z ST "value" "[B" → RoadKit.slotOf Z O n d ≠ RoadKit.slotOf Z ST "coder" "B" → RoadKit.Fld Z h' x O n d w
/-- **new String(chars) AT A CALL, IN THE ROAD'S FORM**: for specialBack behind newO: x the fresh String, b the char[] with the cell A -/
theorem back {p : Program} {l : Launch} {e : Env} {R : Room} {s : State} {args : Array Value} {below : List Frame} {len W : Nat} {Z : State} {a0 : Array Value} {h : Heap} (hZ : Z.Warmed39 s.vm) (hw : ∀ d ∈ words, d.before a0 Z = true) {kI : Nat} (wi : (Jvm.Cond.instantiable ST kI).before a0 Z = true)
    {x b : Addr} {A : Cell} {z : Int32} {v0 c0 : Value} (E : RoadKit.Exa Z h x ST) (V : RoadKit.Fld Z h x ST "value" "[B" v0) (C : RoadKit.Fld Z h x ST "coder" "B" c0) (K : RoadKit.Arr Z h b A .char) (hty : Typed .char A) (S : RoadKit.Sta Z h ST "COMPACT_STRINGS" "Z" (.int z)) (hz : ¬ z = 0)
    (l0 : 0 < A.slots.size) (l2 : A.slots.size ≤ 536870912) (hp : ∀ i, i < A.slots.size → ¬ 255 < cv A i) (hfr : 4 ≤ R.frames) (hlo : W + 65 ≤ R.locals) :
    Back l R p e below s args New1.yN len W (fun P a => a = #[.ref x, .ref b] ∧ P.U.heap = h ∧ P.cells + 1 ≤ R.cells ∧ P.slots + A.slots.size ≤ R.slots)
      (fun P _ v B => ∃ L, Q Z x A h v B.U.heap L ∧ B.locs = P.locs ++ L ∧ B.cells = P.cells + 1 ∧ B.slots = P.slots + A.slots.size) := by
  intro m meth c P g ig mk a X hg hsize hdg hW hn hp'
  obtain ⟨rfl, rfl, r1, r2⟩ := hp'
  have al : Z.vm.Alike P.U.vm := hZ.alike.trans X.warmed.alike
  obtain ⟨D, cfV, kV, iV, fV, hD, gV, stV, knV, obV, asV, slV⟩ := id V
  obtain ⟨D', cfC, kC, iC, fC, hD', gC, stC, -, -, asC, slC⟩ := id C
  cases hD.symm.trans hD'
  obtain ⟨D2, kD, e1, e2, e3, e4, e5⟩ := id E
  cases hD.symm.trans e1
  obtain ⟨c2, k2, i1, i2, i3, -⟩ := Cond.instantiable_spec wi
  cases e2.symm.trans i1
  cases e3.symm.trans i2
  obtain ⟨kU, u1, u2⟩ := al.2.2 _ _ e3
  have hB : Blank ST x D P.U := ⟨hD, ⟨knV, fun q hq => by rw [hq] at obV; cases obV⟩, by rw [al.findClass]; exact e2, kU, u1, by rw [u2]; exact i3, by rw [u2]; exact e5 i3⟩
  have F1 : Found ST "value" "[B" fV P.U := ⟨SBG.found_only al ⟨cfV, kV, iV, gV⟩, stV⟩
  have F2 : Found ST "coder" "B" fC P.U := ⟨SBG.found_only al ⟨cfC, kC, iC, gC⟩, stC⟩
  have hA : Ch b A P.U := ⟨⟨K.1, State.isArrayOf_alike al K.2.1, K.2.2, by omega⟩, hty⟩
  have hS : StaticIs P.U ST "COMPACT_STRINGS" "Z" (.int z) := by
    obtain ⟨cfS, iS, kS, fS, st, cS, t1, t2, t3, t4, t5, t6, t7⟩ := S
    exact StaticIs.there (s := { Z with heap := P.U.heap }) ⟨cfS, iS, kS, fS, st, cS, t1, t2, t3, t4, t5, (fun q => by rw [q] at t6; cases t6), t7⟩ al rfl
  obtain ⟨v, B, X', ⟨⟨hv, E', V', q1, q2, q3, q4, q5, q6, q7, q8, q9, q10, q11⟩, hl, hc, hs⟩, st⟩ := New1.pays x D fV fC b A z (tab_of (moved hZ hw)) hfr hlo m meth c P g ig mk _ X hg hsize hdg hW hn ⟨r1, r2, rfl, hB, F1, F2, hA, hS, hz, l0, l2, hp⟩
  have al' : Z.vm.Alike B.U.vm := hZ.alike.trans X'.warmed.alike
  have hsz : E'.slots.size = D.slots.size := by
    obtain ⟨-, -, -, kB, w1, w2, w3⟩ := q1
    obtain ⟨kB', y1, y2⟩ := al'.2.2 _ _ e3
    rw [q2.2.1] at w1
    cases w1.symm.trans y1
    rw [w3, e5 i3, y2]
  refine ⟨v, B, X', ⟨_, ⟨hv, ?_, ⟨by omega, fun y cy hy hn' => q10 y cy (by simpa using hn') hy, fun y cy hy => ?_⟩, q11, ⟨E', _, q1.1, by rw [q2.2.1]; exact e2, by rw [q2.2.1]; exact e3, by rw [q2.1]; exact obV, fun _ => by rw [hsz]; exact e5 i3⟩,
    ⟨E', cfV, kV, iV, fV, q1.1, gV, stV, by rw [q2.1]; exact knV, by rw [q2.1]; exact obV, by rw [q2.2.1]; exact asV, q3⟩, ⟨E', cfC, kC, iC, fC, q1.1, gC, stC, by rw [q2.1]; exact knV, by rw [q2.1]; exact obV, by rw [q2.2.1]; exact asC, q4⟩,
    ⟨V', ⟨q5.1, State.isArrayOf_alike al'.symm q5.2.1, q5.2.2.1⟩, q6, by rw [← al'.findClass]; exact q7, q8, fun j hj => by have := q9 j hj; rwa [Nat.zero_add] at this⟩, fun O n d w F n1 n2 => ?_⟩, hl, hc, hs⟩, st⟩
  · intro y hy
    simp only [List.mem_cons, List.not_mem_nil, or_false] at hy
    rcases hy with rfl | rfl <;> rfl
  · by_cases q : y = x
    · subst q
      cases hD.symm.trans hy
      exact ⟨E', q1.1, q2.2.1, q2.1, hsz⟩
    · exact ⟨cy, q10 y cy q hy, rfl, rfl, rfl⟩
  · obtain ⟨D3, cf, k, i, f, g1, g2, g3, g4, g5, g6, g7⟩ := F
    cases hD.symm.trans g1
    simp only [RoadKit.slotOf, g2, gV, gC, Option.map_some, Option.getD_some] at n1 n2
    exact ⟨E', cf, k, i, f, q1.1, g2, g3, by rw [q2.1]; exact g4, by rw [q2.1]; exact g5, by rw [q2.2.1]; exact g6, by rw [q2.2.2 f.slot (by simp [n1, n2])]; exact g7⟩
end StrChars.Road
namespace StrChars.Road
open Jvm Sem ClassFile Op Lib Jvm.Stand Jvm.Free Jvm.Free.XT
/-- WHAT COMES BACK, the byte[] as a list of values -/
def QA (Z : State) (x : Addr) (zn : Int32) (cs : List Int32) (h : Heap) (v : Option Value) (h' : Heap) (L : List Loc) : Prop := v = none ∧ (∀ y ∈ L, y.base = x) ∧ RoadKit.Keep h h' [x] ∧ h'.size = h.size + 1 ∧ RoadKit.Exa Z h' x ST ∧ RoadKit.Fld Z h' x ST "value" "[B" (.ref h.size) ∧ RoadKit.Fld Z h' x ST "coder" "B" (.int 0) ∧
  (∃ kb, Z.vm.findClass "[B" = some kb ∧ RoadKit.Arv Z h' h.size kb .byte zn (cs.map fun c => .int (lo8 c)) (.int 0)) ∧
  ∀ (O n d : String) (w : Value), RoadKit.Fld Z h x O n d w → RoadKit.slotOf Z O n d ≠ RoadKit.slotOf Z ST "value" "[B" → RoadKit.slotOf Z O n d ≠ RoadKit.slotOf Z ST "coder" "B" → RoadKit.Fld Z h' x O n d w
/-- **new String(chars) AT A CALL, THE ARRAYS AS LISTS**: the char[] at b holds cs, not empty, no char above 255 -/
theorem backArv {p : Program} {l : Launch} {e : Env} {R : Room} {s : State} {args : Array Value} {below : List Frame} {len W : Nat} {Z : State} {a0 : Array Value} {h : Heap} (hZ : Z.Warmed39 s.vm) (hw : ∀ d ∈ words, d.before a0 Z = true) {kI : Nat} (wi : (Jvm.Cond.instantiable ST kI).before a0 Z = true)
    {x b : Addr} {k : ClassId} {zn z : Int32} {cs : List Int32} {dv v0 c0 : Value} (E : RoadKit.Exa Z h x ST) (V : RoadKit.Fld Z h x ST "value" "[B" v0) (C : RoadKit.Fld Z h x ST "coder" "B" c0) (K : RoadKit.Arv Z h b k .char zn (cs.map Value.int) dv) (S : RoadKit.Sta Z h ST "COMPACT_STRINGS" "Z" (.int z)) (hz : ¬ z = 0)
    (hlen : zn.toNatClampNeg = cs.length) (h0 : 0 < cs.length) (hbig : cs.length ≤ 536870912) (hall : ∀ c ∈ cs, ¬ 255 < c) (hfr : 4 ≤ R.frames) (hlo : W + 65 ≤ R.locals) :
    Back l R p e below s args New1.yN len W (fun P a => a = #[.ref x, .ref b] ∧ P.U.heap = h ∧ P.cells + 1 ≤ R.cells ∧ P.slots + cs.length ≤ R.slots)
      (fun P _ v B => ∃ L, QA Z x zn cs h v B.U.heap L ∧ B.locs = P.locs ++ L ∧ B.cells = P.cells + 1 ∧ B.slots = P.slots + cs.length) := by
  obtain ⟨A, K1, K2, K3, K4, K5, K6⟩ := K
  have e : A.slots.size = cs.length := K3.trans hlen
  have hat : ∀ (i : Nat) (hi : i < cs.length), A.slots[i]? = some (.int cs[i]) := fun i hi => by rw [K5 i (by omega)]; simp [List.getD_eq_getElem?_getD, hi]
  have hcv : ∀ (i : Nat) (hi : i < cs.length), cv A i = cs[i] := fun i hi => by unfold cv; rw [hat i hi]
  have hty : Typed .char A := fun i v hv => by
    have hi : i < A.slots.size := (Array.getElem?_eq_some_iff.mp hv).1
    have q := K5 i hi
    rw [hv] at q
    rw [Option.some.inj q]
    exact K6 i hi
  refine Back.mono (back hZ hw wi E V C K1 hty S hz (by omega) (by omega) (fun i hi => by rw [hcv i (by omega)]; exact hall _ (List.getElem_mem _)) hfr hlo) (fun P a hp => ⟨hp.1, hp.2.1, hp.2.2.1, by rw [e]; exact hp.2.2.2⟩) (fun P a v B hp hq => ?_)
  obtain ⟨L, ⟨q1, q2, q3, q4, q5, q6, q7, ⟨V', v1, v2, v3, v4, v5⟩, q9⟩, hl, hc, hs⟩ := hq
  refine ⟨L, ⟨q1, q2, q3, q4, q5, q6, q7, ⟨V'.cls, v3, V', v1, rfl, by rw [v4, e, hlen], K4, fun i hi => ?_, fun i hi => ?_⟩, q9⟩, hl, hc, by rw [hs, e]⟩
  · have hi' : i < cs.length := by omega
    rw [v5 i (by omega), hcv i hi']; simp [List.getD_eq_getElem?_getD, hi']
  · have hi' : i < cs.length := by omega
    simp only [List.getD_eq_getElem?_getD, List.getElem?_map, List.getElem?_eq_getElem hi', Option.map_some, Option.getD_some]
    exact fits_lo8 _
end StrChars.Road
namespace StrChars
open Jvm Sem ClassFile Op Lib Jvm.Stand Jvm.Free.XT Jvm.Free.ALB Jvm.Free.JM Jvm.Free
open Jvm.Lib.Cold (StaticIs)
def hi8 (x : Int32) : Int32 := lo8 (x >>> ((8 : Int32) &&& 31))
/-- what StringUTF16.getChar makes of two bytes -/
def pairCh (u v : Int32) : Int32 := (((u &&& 255) <<< ((0 : Int32) &&& 31)) ||| ((v &&& 255) <<< ((8 : Int32) &&& 31))).toUInt32.toUInt16.toUInt32.toInt32
theorem shr0 (c : Int32) : c >>> ((0 : Int32) &&& 31) = c := by
  have e : ((0 : Int32) &&& 31) = 0 := by decide
  rw [e]
  apply Int32.toBitVec_inj.mp
  rw [Int32.toBitVec_shiftRight]
  have e1 : ((0 : Int32).toBitVec.smod 32) = 0#32 := by decide
  rw [e1, BitVec.sshiftRight_eq']
  exact BitVec.sshiftRight_zero
theorem lo8_and (x : Int32) : (lo8 x &&& 255).toBitVec.toNat = x.toBitVec.toNat % 256 := by
  have h : (lo8 x).toBitVec = (x.toBitVec.signExtend 8).signExtend 32 := by rw [lo8, Int8.toBitVec_toInt32, Int32.toBitVec_toInt8]
  rw [Int32.toBitVec_and, BitVec.toNat_and, h]
  have e : ((x.toBitVec.signExtend 8).signExtend 32).toNat % 256 = x.toBitVec.toNat % 256 := by
    rw [BitVec.toNat_signExtend]
    have hlt := x.toBitVec.isLt
    simp only [BitVec.toNat_setWidth, BitVec.toNat_signExtend]
    split <;> split <;> omega
  rw [← e]
  exact Nat.and_two_pow_sub_one_eq_mod _ 8
theorem pair_says {c : Int32} (h0 : ¬ c < 0) (h1 : ¬ 65535 < c) : pairCh (lo8 c) (hi8 c) = c := by
  rw [Int32.lt_iff_toInt_lt] at h0 h1
  have e0 : (0 : Int32).toInt = 0 := rfl
  have e1 : (65535 : Int32).toInt = 65535 := rfl
  have hc : c.toInt = c.toBitVec.toNat := by
    have := c.toBitVec.isLt
    have e : c.toInt = c.toBitVec.toInt := rfl
    rw [e] at h0 h1
    rw [e]
    rw [BitVec.toInt_eq_toNat_cond] at h0 h1 ⊢
    split at h0 <;> split <;> omega
  have hn : c.toBitVec.toNat < 65536 := by omega
  have a1 := lo8_and c
  have a2 : (hi8 c &&& 255).toBitVec.toNat = c.toBitVec.toNat / 256 := by
    rw [hi8, lo8_and]
    have e : ((8 : Int32) &&& 31) = 8 := by decide
    rw [e, Int32.toBitVec_shiftRight]
    have e2 : ((8 : Int32).toBitVec.smod 32) = 8#32 := by decide
    rw [e2, BitVec.sshiftRight_eq', BitVec.toNat_sshiftRight_of_msb_false (by rw [BitVec.msb_eq_false_iff_two_mul_lt]; omega)]
    show c.toBitVec.toNat >>> 8 % 256 = _
    rw [Nat.shiftRight_eq_div_pow]
    omega
  unfold pairCh
  apply Int32.toBitVec_inj.mp
  apply BitVec.eq_of_toNat_eq
  have f0 : ((0 : Int32) &&& 31) = 0 := by decide
  have f8 : ((8 : Int32) &&& 31) = 8 := by decide
  rw [f0, f8]
  have g : (((lo8 c &&& 255) <<< (0 : Int32)) ||| ((hi8 c &&& 255) <<< (8 : Int32))).toBitVec.toNat = c.toBitVec.toNat := by
    rw [Int32.toBitVec_or, Int32.toBitVec_shiftLeft, Int32.toBitVec_shiftLeft]
    have s0 : ((0 : Int32).toBitVec.smod 32) = 0#32 := by decide
    have s8 : ((8 : Int32).toBitVec.smod 32) = 8#32 := by decide
    rw [s0, s8, BitVec.toNat_or]
    simp only [BitVec.shiftLeft_eq', BitVec.toNat_shiftLeft, a1, a2]
    show (c.toBitVec.toNat % 256) <<< 0 % 2 ^ 32 ||| (c.toBitVec.toNat / 256) <<< 8 % 2 ^ 32 = _
    rw [Nat.shiftLeft_zero, Nat.mod_eq_of_lt (show c.toBitVec.toNat % 256 < 2 ^ 32 by omega), Nat.mod_eq_of_lt (show (c.toBitVec.toNat / 256) <<< 8 < 2 ^ 32 by rw [Nat.shiftLeft_eq]; omega), Nat.or_comm, ← Nat.shiftLeft_add_eq_or_of_lt (by omega), Nat.shiftLeft_eq]
    omega
  show BitVec.toNat (((((lo8 c &&& 255) <<< (0 : Int32)) ||| ((hi8 c &&& 255) <<< (8 : Int32))).toBitVec.setWidth 16).setWidth 32) = _
  rw [BitVec.toNat_setWidth, BitVec.toNat_setWidth, g]
  omega
end StrChars
namespace StrChars
open Jvm Sem ClassFile Op Lib Jvm.Stand Jvm.Free.XT Jvm.Free.ALB Jvm.Free.JM Jvm.Free
open Jvm.Lib.Cold (StaticIs)
theorem shr1 {n : Nat} (h : 2 * n < 2 ^ 31) : Int32.ofNat (2 * n) >>> ((1 : Int32) &&& 31) = Int32.ofNat n := by
  have e : ((1 : Int32) &&& 31) = 1 := by decide
  rw [e]
  apply Int32.toBitVec_inj.mp
  rw [Int32.toBitVec_shiftRight]
  have e1 : ((1 : Int32).toBitVec.smod 32) = 1#32 := by decide
  have hm : (BitVec.ofNat 32 (2 * n)).toNat = 2 * n := by rw [BitVec.toNat_ofNat, Nat.mod_eq_of_lt (by omega)]
  rw [e1, BitVec.sshiftRight_eq']
  apply BitVec.eq_of_toNat_eq
  show ((BitVec.ofNat 32 (2 * n)).sshiftRight 1).toNat = (BitVec.ofNat 32 n).toNat
  rw [BitVec.toNat_sshiftRight_of_msb_false (by rw [BitVec.msb_eq_false_iff_two_mul_lt, hm]; omega), hm, BitVec.toNat_ofNat, Nat.shiftRight_eq_div_pow]
  omega
/-- charAt's cast of a byte read back -/
def chr8 (u : Int32) : Int32 := (u &&& 255).toUInt32.toUInt16.toUInt32.toInt32
theorem chr8_lo8 {c : Int32} (h0 : ¬ c < 0) (h1 : ¬ 255 < c) : chr8 (lo8 c) = c := by
  have t : ∀ k : Fin 256, (Int32.ofNat k.val).toUInt32.toUInt16.toUInt32.toInt32 = Int32.ofNat k.val := by decide +kernel
  unfold chr8
  rw [lo8_mask h0 h1]
  rw [Int32.lt_iff_toInt_lt] at h0 h1
  have e0 : (0 : Int32).toInt = 0 := rfl
  have e1 : (255 : Int32).toInt = 255 := rfl
  obtain ⟨k, hk⟩ : ∃ k : Nat, c.toInt = k := ⟨c.toInt.toNat, by omega⟩
  have hx : c = Int32.ofNat k := Int32.toInt_inj.mp (by rw [hk, Int32.toInt_ofNat_small (by omega)])
  rw [hx]
  exact t ⟨k, by omega⟩
theorem narrow_ch {c : Int32} (h0 : ¬ c < 0) (h1 : ¬ 65535 < c) : narrow .char (.int c) = .int c := by
  have q : narrow .char (.int (pairCh (lo8 c) (hi8 c))) = .int (pairCh (lo8 c) (hi8 c)) := narrow_c _
  rwa [pair_says h0 h1] at q
/-- the array's cell V codes the n chars f 0 .. f (n - 1) by the coder cd, as the JDK does: coder 1 just where some char is above 255 -/
def Cod (cd : Int32) (n : Nat) (f : Nat → Int32) (V : Cell) : Prop := (cd = 0 ∧ V.slots.size = n ∧ ∀ j, j < n → V.slots[j]? = some (.int (lo8 (f j))) ∧ ¬ 255 < f j) ∨ (cd = 1 ∧ V.slots.size = 2 * n ∧ (∀ j, j < n → V.slots[2 * j]? = some (.int (lo8 (f j))) ∧ V.slots[2 * j + 1]? = some (.int (hi8 (f j)))) ∧ ∃ j, j < n ∧ 255 < f j)
theorem Cod.cd {cd : Int32} {n : Nat} {f : Nat → Int32} {V : Cell} (h : Cod cd n f V) : cd = 0 ∨ cd = 1 := h.imp (fun q => q.1) fun q => q.1
theorem Cod.len {cd : Int32} {n : Nat} {f : Nat → Int32} {V : Cell} (h : Cod cd n f V) (hs : V.slots.size < 2 ^ 31) : Int32.ofNat V.slots.size >>> (cd &&& 31) = Int32.ofNat n := by
  rcases h with ⟨rfl, h, -⟩ | ⟨rfl, h, -⟩
  · rw [shr0, h]
  · rw [h, shr1 (by omega)]
/-- **x is a String of the n chars f 0 .. f (n - 1)**, Latin-1 or UTF-16; its array at t has the cell V -/
def Txt (x t : Addr) (V : Cell) (cd : Int32) (n : Nat) (f : Nat → Int32) (U : State) : Prop := Exact "java/lang/String" x U ∧ Has x "java/lang/String" "value" "[B" (.ref t) U ∧ Has x "java/lang/String" "coder" "B" (.int cd) U ∧ XT.Arr .byte t V U ∧ Cod cd n f V ∧ ∀ j, j < n → ¬ f j < 0 ∧ ¬ 65535 < f j
theorem Txt.mv {x t : Addr} {V : Cell} {cd : Int32} {n : Nat} {f : Nat → Int32} {U U' : State} (h : Txt x t V cd n f U) (hal : U.vm.Alike U'.vm) (hh : U'.heap = U.heap) : Txt x t V cd n f U' := ⟨h.1.mv hal hh, h.2.1.mv hal hh, h.2.2.1.mv hal hh, h.2.2.2.1.mv hal hh, h.2.2.2.2⟩
namespace Cdr
def yN : MethodName := ⟨"java/lang/String", "coder", "()B"⟩
abbrev yB : ByteArray := jdk_42_method_152_code
theorem d0 : decode yB 0 = .ok (.getstatic 38, 3) := by decide +kernel
theorem d3 : decode yB 3 = .ok (.ifCond (.eq) 10, 3) := by decide +kernel
theorem d6 : decode yB 6 = .ok (.aload_n 0, 1) := by decide +kernel
theorem d7 : decode yB 7 = .ok (.getfield 15, 3) := by decide +kernel
theorem d10 : decode yB 10 = .ok (.goto 4, 3) := by decide +kernel
theorem d14 : decode yB 14 = .ok (.ireturn, 1) := by decide +kernel
def site : List Cond := [.fieldLink "java/lang/String" 38 "java/lang/String" "COMPACT_STRINGS" "Z", .fieldLink "java/lang/String" 15 "java/lang/String" "coder" "B"]
def tab : Cond := tabOf yN yB 1 (some .byte) site
def P (x : Addr) (cd z : Int32) (args : Array Value) (s : State) : Prop := args = #[.ref x] ∧ Has x "java/lang/String" "coder" "B" (.int cd) s ∧ (cd = 0 ∨ cd = 1) ∧ StaticIs s "java/lang/String" "COMPACT_STRINGS" "Z" (.int z) ∧ ¬ z = 0
def E (cd : Int32) (r : Option Value) (s u : State) : Prop := XT.PureE (some (.int cd)) r s u
theorem law (l : Launch) (x : Addr) (cd z : Int32) : Law l yN 1 0 0 0 yB 1 (some .byte) site (P x cd z) (E cd) [] 0 0 := by
  refine Law.of_walk (plainFor_of_name (by decide +kernel)) (by decide +kernel) (by decide +kernel) (by decide) (fun _ _ h => by rw [h.1]; rfl) (fun _ U U' hal hh h => ⟨h.1, h.2.1.mv hal hh, h.2.2.1, h.2.2.2.1.there hal hh, h.2.2.2.2⟩) (fun r U U' V V' h1 hal h2 h => XT.PureE.mv r U U' V V' h1 hal h2 h) ?_
  intro p e s m args below meth c s₁ X0 hexec hbytes hml hret hlk hnm hown hh0 W hP
  obtain ⟨rfl, hx, hc, s1, hz⟩ := hP
  have c1 : Steps p.tables e below (s₁.setTop (entryFrame m #[.ref x] 1)) (s₁.setTop (mkF m 0 #[.val (.ref x)] [])) := entry rfl
  obtain ⟨T2, X2, q2, st2⟩ := X0.sget hexec hown (wk W (.fieldLink "java/lang/String" 38 "java/lang/String" "COMPACT_STRINGS" "Z")) s1 (fun _ _ h => by rw [hh0]; exact h) (g := (mkF m 0 #[.val (.ref x)] [])) rfl (hb hbytes d0)
  have hh2 := q2.trans hh0
  have c3 : Steps p.tables e below (s₁.setTop (entryFrame m #[.ref x] 1)) (T2.setTop (mkF m 7 #[.val (.ref x)] [.ref x])) := (c1.trans (st2 _ (Steps.refl _))).trans (by
    refine XS.ifNo X2.here hexec rfl (hb hbytes d3) rfl (i0_eq_f hz) ?_
    refine XS.aloadN X2.here hexec rfl (hb hbytes d6) rfl rfl ?_
    exact Steps.refl _)
  obtain ⟨T4, X4, q4, st4⟩ := X2.hget hexec hown (wk W (.fieldLink "java/lang/String" 15 "java/lang/String" "coder" "B")) (hx.mv X2.warmed.alike hh2) (g := (mkF m 7 #[.val (.ref x)] [.ref x])) rfl (rest := []) rfl (hb hbytes d7)
  have c5 : Steps p.tables e below (s₁.setTop (entryFrame m #[.ref x] 1)) (T4.setTop (mkF m 14 #[.val (.ref x)] [.int cd])) := (c3.trans (st4 _ (Steps.refl _))).trans (by
    refine XS.goto X4.here hexec rfl (pc0 := 10) rfl (hb hbytes d10) (by decide) rfl ?_
    exact Steps.refl _)
  exact ⟨T4, some (.int cd), _, _, _, X4, rfl, rfl, rfl, (fun h => by cases h), ⟨rfl, q4.trans hh2⟩, fun fs hl => c5.trans (X4.ireturnOut hexec hret (by rcases hc with rfl | rfl <;> rfl) (Or.inr (Or.inr (Or.inl rfl))) (hb hbytes d14) hl)⟩
end Cdr
namespace Len
def yN : MethodName := ⟨"java/lang/String", "length", "()I"⟩
abbrev yB : ByteArray := jdk_42_method_54_code
theorem d0 : decode yB 0 = .ok (.aload_n 0, 1) := by decide +kernel
theorem d1 : decode yB 1 = .ok (.getfield 9, 3) := by decide +kernel
theorem d4 : decode yB 4 = .ok (.arraylength, 1) := by decide +kernel
theorem d5 : decode yB 5 = .ok (.aload_n 0, 1) := by decide +kernel
theorem d6 : decode yB 6 = .ok (.invokevirtual 335, 3) := by decide +kernel
theorem d9 : decode yB 9 = .ok (.ishr, 1) := by decide +kernel
theorem d10 : decode yB 10 = .ok (.ireturn, 1) := by decide +kernel
def site : List Cond := [.fieldLink "java/lang/String" 9 "java/lang/String" "value" "[B", Cdr.tab] ++ virtW "java/lang/String" 335 "java/lang/String" Cdr.yN Cdr.yN
def tab : Cond := tabOf yN yB 1 (some .int) site
def P (x t : Addr) (V : Cell) (cd : Int32) (n : Nat) (f : Nat → Int32) (z : Int32) (args : Array Value) (s : State) : Prop := args = #[.ref x] ∧ Txt x t V cd n f s ∧ StaticIs s "java/lang/String" "COMPACT_STRINGS" "Z" (.int z) ∧ ¬ z = 0
def E (n : Nat) (r : Option Value) (s u : State) : Prop := XT.PureE (some (.int (Int32.ofNat n))) r s u
/-- length() of a String of n chars, in either coding -/
theorem law (l : Launch) (x t : Addr) (V : Cell) (cd : Int32) (n : Nat) (f : Nat → Int32) (z : Int32) : Law l yN 1 0 1 13 yB 1 (some .int) site (P x t V cd n f z) (E n) [] 0 0 := by
  refine Law.of_walk (plainFor_of_name (by decide +kernel)) (by decide +kernel) (by decide +kernel) (by decide) (fun _ _ h => by rw [h.1]; rfl) (fun _ U U' hal hh h => ⟨h.1, h.2.1.mv hal hh, h.2.2.1.there hal hh, h.2.2.2⟩) (fun r U U' V V' h1 hal h2 h => XT.PureE.mv r U U' V V' h1 hal h2 h) ?_
  intro p e s m args below meth c s₁ X0 hexec hbytes hml hret hlk hnm hown hh0 W hP
  obtain ⟨rfl, hx, s1, hz⟩ := hP
  have v31 := hx.2.2.2.1.2.2.2
  have c1 : Steps p.tables e below (s₁.setTop (entryFrame m #[.ref x] 1)) (s₁.setTop (mkF m 1 #[.val (.ref x)] [.ref x])) := Steps.trans (entry rfl) (by
    show Steps p.tables e below (s₁.setTop (mkF m 0 #[.val (.ref x)] [])) _
    refine XS.aloadN X0.here hexec rfl (hb hbytes d0) rfl rfl ?_
    exact Steps.refl _)
  obtain ⟨T2, X2, q2, st2⟩ := X0.hget hexec hown (wk W (.fieldLink "java/lang/String" 9 "java/lang/String" "value" "[B")) (hx.mv X0.warmed.alike hh0).2.1 (g := (mkF m 1 #[.val (.ref x)] [.ref x])) rfl (rest := []) rfl (hb hbytes d1)
  have hh2 := q2.trans hh0
  have hx2 := hx.mv X2.warmed.alike hh2
  have c3 : Steps p.tables e below (s₁.setTop (entryFrame m #[.ref x] 1)) (T2.setTop (mkF m 6 #[.val (.ref x)] [.ref x, .int (Int32.ofNat V.slots.size)])) := (c1.trans (st2 _ (Steps.refl _))).trans (by
    refine X2.alen hexec hx2.2.2.2.1 rfl rfl (hb hbytes d4) ?_
    refine XS.aloadN X2.here hexec rfl (hb hbytes d5) rfl rfl ?_
    exact Steps.refl _)
  obtain ⟨v4, T4, X4, E4, g4⟩ := X2.callV hexec (Cdr.law l x cd z) hown (wks W (virtW "java/lang/String" 335 "java/lang/String" Cdr.yN Cdr.yN)) rfl (by decide) (wk W Cdr.tab) (W := 1) (Nat.le_of_ble_eq_true rfl) (Nat.le_of_ble_eq_true rfl) (Nat.le_refl _) (Nat.le_refl _) (hx2.1.fc X2.warmed.alike) hx2.1.is (g := (mkF m 6 #[.val (.ref x)] [.ref x, .int (Int32.ofNat V.slots.size)])) rfl (by rw [hml]; rfl) c3 (argsL := []) (rest := [.int (Int32.ofNat V.slots.size)]) rfl rfl (by show 2 * 0 + (1 + 0) ≤ _; decide) (hb hbytes d6) (⟨rfl, hx2.2.2.1, hx.2.2.2.2.1.cd, s1.there X2.warmed.alike hh2, hz⟩)
  obtain ⟨rfl, q4⟩ := E4
  have c5 : Steps p.tables e below (s₁.setTop (entryFrame m #[.ref x] 1)) (T4.setTop (mkF m 10 #[.val (.ref x)] [.int (Int32.ofNat V.slots.size >>> (cd &&& 31))])) := Steps.trans g4 (by
    refine ishr X4.here hexec rfl (hb hbytes d9) rfl ?_
    exact Steps.refl _)
  rw [hx.2.2.2.2.1.len v31] at c5
  exact ⟨T4, some (.int (Int32.ofNat n)), _, _, _, X4, rfl, rfl, rfl, (fun h => by cases h), ⟨rfl, q4.trans hh2⟩, fun fs hl => c5.trans (X4.ireturnOut hexec hret rfl (Or.inl rfl) (hb hbytes d10) hl)⟩
theorem pays {l : Launch} {R : Room} {p : Program} {e : Env} {below : List Frame} {s : State} {sargs : Array Value} {len W : Nat} (x t : Addr) (V : Cell) (cd : Int32) (n : Nat) (f : Nat → Int32) (z : Int32) (htab : tab.before sargs s = true) (hfr : 2 ≤ R.frames) (hlo : W + 25 ≤ R.locals) :
    Back l R p e below s sargs yN len W (fun A₁ a₁ => A₁.cells + 0 ≤ R.cells ∧ A₁.slots + 0 ≤ R.slots ∧ P x t V cd n f z a₁ A₁.U) (fun A₁ _ v₁ B₁ => E n v₁ A₁.U B₁.U ∧ B₁.locs = A₁.locs ++ [] ∧ B₁.cells = A₁.cells + 0 ∧ B₁.slots = A₁.slots + 0) :=
  (law l x t V cd n f z).pays htab hfr (by omega)
end Len
namespace IsL
def yN : MethodName := ⟨"java/lang/String", "isLatin1", "()Z"⟩
abbrev yB : ByteArray := jdk_42_method_154_code
theorem d0 : decode yB 0 = .ok (.getstatic 38, 3) := by decide +kernel
theorem d3 : decode yB 3 = .ok (.ifCond (.eq) 14, 3) := by decide +kernel
theorem d6 : decode yB 6 = .ok (.aload_n 0, 1) := by decide +kernel
theorem d7 : decode yB 7 = .ok (.getfield 15, 3) := by decide +kernel
theorem d10 : decode yB 10 = .ok (.ifCond (.ne) 7, 3) := by decide +kernel
theorem d13 : decode yB 13 = .ok (.iconst 1, 1) := by decide +kernel
theorem d14 : decode yB 14 = .ok (.goto 4, 3) := by decide +kernel
theorem d17 : decode yB 17 = .ok (.iconst 0, 1) := by decide +kernel
theorem d18 : decode yB 18 = .ok (.ireturn, 1) := by decide +kernel
def site : List Cond := [.fieldLink "java/lang/String" 38 "java/lang/String" "COMPACT_STRINGS" "Z", .fieldLink "java/lang/String" 15 "java/lang/String" "coder" "B"]
def tab : Cond := tabOf yN yB 1 (some .boolean) site
def P (x : Addr) (cd z : Int32) (args : Array Value) (s : State) : Prop := args = #[.ref x] ∧ Has x "java/lang/String" "coder" "B" (.int cd) s ∧ (cd = 0 ∨ cd = 1) ∧ StaticIs s "java/lang/String" "COMPACT_STRINGS" "Z" (.int z) ∧ ¬ z = 0
def E (cd : Int32) (r : Option Value) (s u : State) : Prop := XT.PureE (some (.int (1 - cd))) r s u
theorem law (l : Launch) (x : Addr) (cd z : Int32) : Law l yN 1 0 0 0 yB 1 (some .boolean) site (P x cd z) (E cd) [] 0 0 := by
  refine Law.of_walk (plainFor_of_name (by decide +kernel)) (by decide +kernel) (by decide +kernel) (by decide) (fun _ _ h => by rw [h.1]; rfl) (fun _ U U' hal hh h => ⟨h.1, h.2.1.mv hal hh, h.2.2.1, h.2.2.2.1.there hal hh, h.2.2.2.2⟩) (fun r U U' V V' h1 hal h2 h => XT.PureE.mv r U U' V V' h1 hal h2 h) ?_
  intro p e s m args below meth c s₁ X0 hexec hbytes hml hret hlk hnm hown hh0 W hP
  obtain ⟨rfl, hx, hc, s1, hz⟩ := hP
  have c1 : Steps p.tables e below (s₁.setTop (entryFrame m #[.ref x] 1)) (s₁.setTop (mkF m 0 #[.val (.ref x)] [])) := entry rfl
  obtain ⟨T2, X2, q2, st2⟩ := X0.sget hexec hown (wk W (.fieldLink "java/lang/String" 38 "java/lang/String" "COMPACT_STRINGS" "Z")) s1 (fun _ _ h => by rw [hh0]; exact h) (g := (mkF m 0 #[.val (.ref x)] [])) rfl (hb hbytes d0)
  have hh2 := q2.trans hh0
  have c3 : Steps p.tables e below (s₁.setTop (entryFrame m #[.ref x] 1)) (T2.setTop (mkF m 7 #[.val (.ref x)] [.ref x])) := (c1.trans (st2 _ (Steps.refl _))).trans (by
    refine XS.ifNo X2.here hexec rfl (hb hbytes d3) rfl (i0_eq_f hz) ?_
    refine XS.aloadN X2.here hexec rfl (hb hbytes d6) rfl rfl ?_
    exact Steps.refl _)
  obtain ⟨T4, X4, q4, st4⟩ := X2.hget hexec hown (wk W (.fieldLink "java/lang/String" 15 "java/lang/String" "coder" "B")) (hx.mv X2.warmed.alike hh2) (g := (mkF m 7 #[.val (.ref x)] [.ref x])) rfl (rest := []) rfl (hb hbytes d7)
  have c5 : Steps p.tables e below (s₁.setTop (entryFrame m #[.ref x] 1)) (T4.setTop (mkF m 10 #[.val (.ref x)] [.int cd])) := c3.trans (st4 _ (Steps.refl _))
  have c6 : Steps p.tables e below (s₁.setTop (entryFrame m #[.ref x] 1)) (T4.setTop (mkF m 18 #[.val (.ref x)] [.int (1 - cd)])) := by
    rcases hc with rfl | rfl
    · exact c5.trans (by
        refine XS.ifNo X4.here hexec rfl (hb hbytes d10) rfl (i0_ne_f rfl) ?_
        refine iconstV X4.here hexec rfl 1 (hb hbytes d13) (by decide) ?_
        refine XS.goto X4.here hexec rfl (pc0 := 14) rfl (hb hbytes d14) (by decide) rfl ?_
        exact Steps.refl _)
    · exact c5.trans (by
        refine XS.ifYes X4.here hexec rfl (pc0 := 10) rfl (hb hbytes d10) rfl (i0_ne_t (by decide)) (by decide) rfl ?_
        refine iconstV X4.here hexec rfl 0 (hb hbytes d17) (by decide) ?_
        exact Steps.refl _)
  exact ⟨T4, some (.int (1 - cd)), _, _, _, X4, rfl, rfl, rfl, (fun h => by cases h), ⟨rfl, q4.trans hh2⟩, fun fs hl => c6.trans (X4.ireturnOut hexec hret (by rcases hc with rfl | rfl <;> rfl) (Or.inr (Or.inl rfl)) (hb hbytes d18) hl)⟩
end IsL
namespace LChA
def yN : MethodName := ⟨"java/lang/StringLatin1", "charAt", "([BI)C"⟩
abbrev yB : ByteArray := jdk_43_method_2_code
theorem d0 : decode yB 0 = .ok (.iload_n 1, 1) := by decide +kernel
theorem d1 : decode yB 1 = .ok (.aload_n 0, 1) := by decide +kernel
theorem d2 : decode yB 2 = .ok (.arraylength, 1) := by decide +kernel
theorem d3 : decode yB 3 = .ok (.invokestatic 9, 3) := by decide +kernel
theorem d6 : decode yB 6 = .ok (.aload_n 0, 1) := by decide +kernel
theorem d7 : decode yB 7 = .ok (.iload_n 1, 1) := by decide +kernel
theorem d8 : decode yB 8 = .ok (.baload, 1) := by decide +kernel
theorem d9 : decode yB 9 = .ok (.sipush 255, 3) := by decide +kernel
theorem d12 : decode yB 12 = .ok (.iand, 1) := by decide +kernel
theorem d13 : decode yB 13 = .ok (.i2c, 1) := by decide +kernel
theorem d14 : decode yB 14 = .ok (.ireturn, 1) := by decide +kernel
def site : List Cond := [JO.Str_checkIndex.tab] ++ staticW "java/lang/StringLatin1" 9 JO.Str_checkIndex.yN
def tab : Cond := tabOf yN yB 2 (some .char) site
def P (t : Addr) (V : Cell) (i : Nat) (u : Int32) (fm : Value) (args : Array Value) (s : State) : Prop := args = #[.ref t, .int (Int32.ofNat i)] ∧ XT.Arr .byte t V s ∧ V.slots[i]? = some (.int u) ∧ (StaticIs s "jdk/internal/util/Preconditions" "SIOOBE_FORMATTER" "Ljava/util/function/BiFunction;" fm ∧ fm.isRef = true)
def E (u : Int32) (r : Option Value) (s w : State) : Prop := XT.PureE (some (.int (chr8 u))) r s w
theorem law (l : Launch) (t : Addr) (V : Cell) (i : Nat) (u : Int32) (fm : Value) : Law l yN 2 2 2 27 yB 2 (some .char) site (P t V i u fm) (E u) [] 0 0 := by
  refine Law.of_walk (plainFor_of_name (by decide +kernel)) (by decide +kernel) (by decide +kernel) (by decide) (fun _ _ h => by rw [h.1]; rfl) (fun _ U U' hal hh h => ⟨h.1, h.2.1.mv hal hh, h.2.2.1, h.2.2.2.1.there hal hh, h.2.2.2.2⟩) (fun r U U' V V' h1 hal h2 h => XT.PureE.mv r U U' V V' h1 hal h2 h) ?_
  intro p e s m args below meth c s₁ X0 hexec hbytes hml hret hlk hnm hown hh0 W hP
  obtain ⟨rfl, hV, hu, s1, rf⟩ := hP
  have v31 := hV.2.2.2
  have hi : i < V.slots.size := (Array.getElem?_eq_some_iff.mp hu).1
  have c1 : Steps p.tables e below (s₁.setTop (entryFrame m #[.ref t, .int (Int32.ofNat i)] 2)) (s₁.setTop (mkF m 0 #[.val (.ref t), .val (.int (Int32.ofNat i))] [])) := entry rfl
  have c2 : Steps p.tables e below (s₁.setTop (entryFrame m #[.ref t, .int (Int32.ofNat i)] 2)) (s₁.setTop (mkF m 3 #[.val (.ref t), .val (.int (Int32.ofNat i))] [.int (Int32.ofNat V.slots.size), .int (Int32.ofNat i)])) := c1.trans (by
    refine XS.iloadN X0.here hexec rfl (hb hbytes d0) rfl ?_
    refine XS.aloadN X0.here hexec rfl (hb hbytes d1) rfl rfl ?_
    refine X0.alen hexec (hV.mv X0.warmed.alike hh0) rfl rfl (hb hbytes d2) ?_
    exact Steps.refl _)
  obtain ⟨v3, T3, X3, E3, g3⟩ := X0.callS hexec (JO.Str_checkIndex.law l (Int32.ofNat i) (Int32.ofNat V.slots.size) fm) hown (wks W (staticW "java/lang/StringLatin1" 9 JO.Str_checkIndex.yN)) (wk W JO.Str_checkIndex.tab) (W := 0) (Nat.le_of_ble_eq_true rfl) (Nat.le_of_ble_eq_true rfl) (Nat.le_refl _) (Nat.le_refl _) (g := (mkF m 3 #[.val (.ref t), .val (.int (Int32.ofNat i))] [.int (Int32.ofNat V.slots.size), .int (Int32.ofNat i)])) rfl (by rw [hml]; rfl) c2 (argsL := [.int (Int32.ofNat i), .int (Int32.ofNat V.slots.size)]) (rest := []) rfl rfl (by show 2 * 0 + 0 ≤ _; decide) (hb hbytes d3) (⟨rfl, rf, s1.there X0.warmed.alike hh0, Int32.ofNat_not_neg (by omega), lt32 v31 hi⟩)
  obtain ⟨rfl, q3⟩ := E3
  have hh3 := q3.trans hh0
  have c4 : Steps p.tables e below (s₁.setTop (entryFrame m #[.ref t, .int (Int32.ofNat i)] 2)) (T3.setTop (mkF m 14 #[.val (.ref t), .val (.int (Int32.ofNat i))] [.int (chr8 u)])) := Steps.trans g3 (by
    refine XS.aloadN X3.here hexec rfl (hb hbytes d6) rfl rfl ?_
    refine XS.iloadN X3.here hexec rfl (hb hbytes d7) rfl ?_
    refine X3.aget hexec (hV.mv X3.warmed.alike hh3) rfl hu rfl rfl (hb hbytes d8) ?_
    refine sipushV X3.here hexec rfl 255 (hb hbytes d9) (by decide) ?_
    refine XS.iand X3.here hexec rfl (hb hbytes d12) rfl ?_
    refine i2c X3.here hexec rfl (hb hbytes d13) rfl ?_
    exact Steps.refl _)
  exact ⟨T3, some (.int (chr8 u)), _, _, _, X3, rfl, rfl, rfl, (fun h => by cases h), ⟨rfl, hh3⟩, fun fs hl => c4.trans (X3.ireturnOut hexec hret (narrow_c _) (Or.inr (Or.inr (Or.inr (Or.inl rfl)))) (hb hbytes d14) hl)⟩
end LChA
end StrChars
namespace StrChars.Road
open Jvm Sem ClassFile Op Lib Jvm.Stand Jvm.Free Jvm.Free.XT
open Jvm.Lib.Cold (StaticIs)
theorem consq {a : Array Value} {s : State} {c : Jvm.Cond} {L : List Jvm.Cond} (h0 : c.before a s = true) (h : ∀ w ∈ L, w.before a s = true) : ∀ w ∈ c :: L, w.before a s = true := fun w hw => (List.mem_cons.mp hw).elim (fun e => e ▸ h0) (h w)
/-- the words of String.length(), either coding -/
abbrev wordsLen : List Jvm.Cond := [.code Len.yN Len.yB 1 (some .int), .initialized ST, .fieldLink ST 9 ST "value" "[B", .fieldLink ST 38 ST "COMPACT_STRINGS" "Z", .fieldLink ST 15 ST "coder" "B", .code Cdr.yN Cdr.yB 1 (some .byte), .methodLink ST 335 Cdr.yN, .declares Cdr.yN, .selects ST Cdr.yN Cdr.yN, .instanceMethod Cdr.yN]
theorem tabLen_of {a : Array Value} {s : State} (h : ∀ w ∈ wordsLen, w.before a s = true) : Len.tab.before a s = true := by
  have hc : Cdr.tab.before a s = true := unparts (wk h (.code Cdr.yN Cdr.yB 1 (some .byte))) (wks h (.initialized Cdr.yN.cls :: Cdr.site))
  have q := consq hc h
  exact unparts (wk q (.code Len.yN Len.yB 1 (some .int))) (wks q (.initialized Len.yN.cls :: Len.site))
theorem movedLen {Z s : State} {a0 args : Array Value} (hZ : Z.Warmed39 s.vm) (hw : ∀ d ∈ wordsLen, d.before a0 Z = true) : ∀ d ∈ wordsLen, d.before args s = true := fun d hd => by
  have q := hw d hd
  have t : ∀ d ∈ wordsLen, d = .arrayClass .byte ∨ (d.onTables && d.keepsFace) = true := by decide +kernel
  rcases t d hd with rfl | t
  · exact RoadKit.mvA hZ q
  · exact RoadKit.mv hZ q t
/-- the bytes of the chars cs, low before high -/
def wideBytes : List Int32 → List Value
  | [] => []
  | c :: cs => .int (lo8 c) :: .int (hi8 c) :: wideBytes cs
theorem wide_lo (d : Value) : ∀ (cs : List Int32) (j : Nat), j < cs.length → (wideBytes cs).getD (2 * j) d = .int (lo8 (cs.getD j 0))
  | [], j, h => absurd h (Nat.not_lt_zero j)
  | c :: cs, 0, _ => rfl
  | c :: cs, j + 1, h => by
    have q := wide_lo d cs j (by simpa using h)
    rw [show 2 * (j + 1) = 2 * j + 1 + 1 from by omega]
    simpa [wideBytes] using q
theorem wide_hi (d : Value) : ∀ (cs : List Int32) (j : Nat), j < cs.length → (wideBytes cs).getD (2 * j + 1) d = .int (hi8 (cs.getD j 0))
  | [], j, h => absurd h (Nat.not_lt_zero j)
  | c :: cs, 0, _ => rfl
  | c :: cs, j + 1, h => by
    have q := wide_hi d cs j (by simpa using h)
    rw [show 2 * (j + 1) + 1 = 2 * j + 1 + 1 + 1 from by omega]
    simpa [wideBytes] using q
theorem low_at (d : Value) (cs : List Int32) (j : Nat) (h : j < cs.length) : (cs.map fun c => Value.int (lo8 c)).getD j d = .int (lo8 (cs.getD j 0)) := by
  simp [List.getD_eq_getElem?_getD, h]
/-- an array of N2 bytes vs codes the chars cs by the coder cd -/
def CodA (cs : List Int32) (cd N2 : Int32) (vs : List Value) : Prop := (cd = 0 ∧ N2 = Int32.ofNat cs.length ∧ vs = (cs.map fun c => Value.int (lo8 c)) ∧ ∀ c ∈ cs, ¬ 255 < c) ∨ (cd = 1 ∧ N2 = Int32.ofNat (2 * cs.length) ∧ vs = wideBytes cs ∧ ∃ c ∈ cs, 255 < c)
theorem CodA.cod {cs : List Int32} {cd N2 : Int32} {vs : List Value} {V : Cell} (h : CodA cs cd N2 vs) (hn : 2 * cs.length < 2 ^ 31) (hs : V.slots.size = N2.toNatClampNeg) (hv : RoadKit.Has V vs (.int 0)) : Cod cd cs.length (fun j => cs.getD j 0) V := by
  rcases h with ⟨rfl, rfl, rfl, h⟩ | ⟨rfl, rfl, rfl, c, hc, hw⟩
  · rw [n32 (by omega)] at hs
    exact Or.inl ⟨rfl, hs, fun j hj => ⟨by rw [hv j (by omega), low_at _ _ _ hj], by
      have e : cs.getD j 0 = cs[j] := by simp [List.getD_eq_getElem?_getD, hj]
      show ¬ 255 < cs.getD j 0
      rw [e]; exact h _ (List.getElem_mem _)⟩⟩
  · rw [n32 (by omega)] at hs
    obtain ⟨j, hj, rfl⟩ := List.getElem_of_mem hc
    exact Or.inr ⟨rfl, hs, fun j hj => ⟨by rw [hv _ (by omega), wide_lo _ _ _ hj], by rw [hv _ (by omega), wide_hi _ _ _ hj]⟩, j, hj, by
      have e : cs.getD j 0 = cs[j] := by simp [List.getD_eq_getElem?_getD, hj]
      show 255 < cs.getD j 0
      rw [e]; exact hw⟩
/-- an object of exactly java/lang/String, its two fields found: as the laws ask it -/
theorem strObj {Z U : State} {a0 : Array Value} {kI : Nat} (wi : (Jvm.Cond.instantiable ST kI).before a0 Z = true) (al : Z.vm.Alike U.vm) {x : Addr} {v0 c0 : Value} (E : RoadKit.Exa Z U.heap x ST) (V : RoadKit.Fld Z U.heap x ST "value" "[B" v0) (C : RoadKit.Fld Z U.heap x ST "coder" "B" c0) :
    ∃ (D : Cell) (fV fC : Field), Blank ST x D U ∧ Found ST "value" "[B" fV U ∧ Found ST "coder" "B" fC U ∧ D.slots[fV.slot]? = some v0 ∧ D.slots[fC.slot]? = some c0 ∧ RoadKit.slotOf Z ST "value" "[B" = fV.slot ∧ RoadKit.slotOf Z ST "coder" "B" = fC.slot := by
  obtain ⟨D, cfV, kV, iV, fV, hD, gV, stV, knV, obV, asV, slV⟩ := V
  obtain ⟨D', cfC, kC, iC, fC, hD', gC, stC, -, -, asC, slC⟩ := C
  cases hD.symm.trans hD'
  obtain ⟨D2, kD, e1, e2, e3, e4, e5⟩ := E
  cases hD.symm.trans e1
  obtain ⟨c2, k2, i1, i2, i3, -⟩ := Cond.instantiable_spec wi
  cases e2.symm.trans i1
  cases e3.symm.trans i2
  obtain ⟨kU, u1, u2⟩ := al.2.2 _ _ e3
  exact ⟨D, fV, fC, ⟨hD, ⟨knV, fun q hq => by rw [hq] at obV; cases obV⟩, by rw [al.findClass]; exact e2, kU, u1, by rw [u2]; exact i3, by rw [u2]; exact e5 i3⟩, ⟨SBG.found_only al ⟨cfV, kV, iV, gV⟩, stV⟩, ⟨SBG.found_only al ⟨cfC, kC, iC, gC⟩, stC⟩, slV, slC, by simp [RoadKit.slotOf, gV], by simp [RoadKit.slotOf, gC]⟩
theorem sta_is {Z U : State} (al : Z.vm.Alike U.vm) {C n d : String} {v : Value} (S : RoadKit.Sta Z U.heap C n d v) : StaticIs U C n d v := by
  obtain ⟨cfS, iS, kS, fS, st, cS, t1, t2, t3, t4, t5, t6, t7⟩ := S
  exact StaticIs.there (s := { Z with heap := U.heap }) ⟨cfS, iS, kS, fS, st, cS, t1, t2, t3, t4, t5, (fun q => by rw [q] at t6; cases t6), t7⟩ al rfl
/-- **length() OF SUCH A STRING** -/
theorem lenW {p : Program} {l : Launch} {e : Env} {R : Room} {s : State} {args : Array Value} {below : List Frame} {len W : Nat} {Z : State} {a0 : Array Value} {h : Heap} (hZ : Z.Warmed39 s.vm) (hw : ∀ d ∈ wordsLen, d.before a0 Z = true) {kI : Nat} (wi : (Jvm.Cond.instantiable ST kI).before a0 Z = true)
    {x t : Addr} {kb : ClassId} {cs : List Int32} {cd N2 z : Int32} {vs : List Value} (E : RoadKit.Exa Z h x ST) (V : RoadKit.Fld Z h x ST "value" "[B" (.ref t)) (C : RoadKit.Fld Z h x ST "coder" "B" (.int cd)) (K : RoadKit.Arv Z h t kb .byte N2 vs (.int 0)) (hc : CodA cs cd N2 vs) (hb : ∀ c ∈ cs, ¬ c < 0 ∧ ¬ (65535 : Int32) < c)
    (S : RoadKit.Sta Z h ST "COMPACT_STRINGS" "Z" (.int z)) (hz : ¬ z = 0) (l2 : cs.length ≤ 4000) (hfr : 2 ≤ R.frames) (hlo : W + 25 ≤ R.locals) :
    Back l R p e below s args (⟨"java/lang/String", "length", "()I"⟩ : MethodName) len W (fun P a => a = #[.ref x] ∧ P.U.heap = h ∧ P.cells + 0 ≤ R.cells ∧ P.slots + 0 ≤ R.slots)
      (fun P _ v B => ∃ L, (v = some (.int (Int32.ofNat cs.length)) ∧ L = [] ∧ B.U.heap = h) ∧ B.locs = P.locs ++ L ∧ B.cells = P.cells + 0 ∧ B.slots = P.slots + 0) := by
  obtain ⟨A, K1, K2, K3, K4, K5, K6⟩ := K
  have hcod := hc.cod (by omega) K3 K5
  intro m meth c P g ig mk a X hg hsize hdg hW hn hp'
  obtain ⟨rfl, rfl, r1, r2⟩ := hp'
  have al : Z.vm.Alike P.U.vm := hZ.alike.trans X.warmed.alike
  obtain ⟨D, fV, fC, hB, F1, F2, g1, g2, -, -⟩ := strObj wi al E V C
  have hx : Txt x t A cd cs.length (fun j => cs.getD j 0) P.U := ⟨⟨_, hB.2.2.1, D, hB.1, rfl, by cases q : D.vm <;> first | rfl | exact absurd q (hB.2.1.2 _)⟩, Has.of hB F1 g1, Has.of hB F2 g2, ⟨K1.1, State.isArrayOf_alike al K1.2.1, K1.2.2, by rcases hcod with ⟨-, q, -⟩ | ⟨-, q, -⟩ <;> omega⟩, hcod, fun j hj => by
    have e : cs.getD j 0 = cs[j] := by simp [List.getD_eq_getElem?_getD, hj]
    show ¬ cs.getD j 0 < 0 ∧ ¬ 65535 < cs.getD j 0
    rw [e]; exact hb _ (List.getElem_mem _)⟩
  obtain ⟨v, B, X', ⟨⟨hv, hh⟩, hl, hk, hs⟩, st⟩ := Len.pays x t A cd cs.length (fun j => cs.getD j 0) z (tabLen_of (movedLen hZ hw)) hfr hlo m meth c P g ig mk _ X hg hsize hdg hW hn ⟨r1, r2, rfl, hx, sta_is al S, hz⟩
  exact ⟨v, B, X', ⟨[], ⟨hv, rfl, hh⟩, hl, hk, hs⟩, st⟩
end StrChars.Road
namespace StrChars
open Jvm Sem ClassFile Op Lib Jvm.Stand Jvm.Free.XT Jvm.Free.ALB Jvm.Free.JM Jvm.Free
open Jvm.Lib.Cold (StaticIs)
namespace Emp
def yN : MethodName := ⟨"java/lang/String", "isEmpty", "()Z"⟩
abbrev yB : ByteArray := jdk_42_method_55_code
theorem d0 : decode yB 0 = .ok (.aload_n 0, 1) := by decide +kernel
theorem d1 : decode yB 1 = .ok (.getfield 9, 3) := by decide +kernel
theorem d4 : decode yB 4 = .ok (.arraylength, 1) := by decide +kernel
theorem d5 : decode yB 5 = .ok (.ifCond (.ne) 7, 3) := by decide +kernel
theorem d8 : decode yB 8 = .ok (.iconst 1, 1) := by decide +kernel
theorem d9 : decode yB 9 = .ok (.goto 4, 3) := by decide +kernel
theorem d12 : decode yB 12 = .ok (.iconst 0, 1) := by decide +kernel
theorem d13 : decode yB 13 = .ok (.ireturn, 1) := by decide +kernel
def site : List Cond := [.fieldLink "java/lang/String" 9 "java/lang/String" "value" "[B"]
def tab : Cond := tabOf yN yB 1 (some .boolean) site
def P (x t : Addr) (V : Cell) (cd : Int32) (n : Nat) (f : Nat → Int32) (args : Array Value) (s : State) : Prop := args = #[.ref x] ∧ Txt x t V cd n f s
def E (n : Nat) (r : Option Value) (s u : State) : Prop := XT.PureE (some (.int (if n = 0 then 1 else 0))) r s u
/-- isEmpty() of a String of n chars -/
theorem law (l : Launch) (x t : Addr) (V : Cell) (cd : Int32) (n : Nat) (f : Nat → Int32) : Law l yN 1 0 0 0 yB 1 (some .boolean) site (P x t V cd n f) (E n) [] 0 0 := by
  refine Law.of_walk (plainFor_of_name (by decide +kernel)) (by decide +kernel) (by decide +kernel) (by decide) (fun _ _ h => by rw [h.1]; rfl) (fun _ U U' hal hh h => ⟨h.1, h.2.mv hal hh⟩) (fun r U U' V V' h1 hal h2 h => XT.PureE.mv r U U' V V' h1 hal h2 h) ?_
  intro p e s m args below meth c s₁ X0 hexec hbytes hml hret hlk hnm hown hh0 W hP
  obtain ⟨rfl, hx⟩ := hP
  have v31 := hx.2.2.2.1.2.2.2
  have c1 : Steps p.tables e below (s₁.setTop (entryFrame m #[.ref x] 1)) (s₁.setTop (mkF m 1 #[.val (.ref x)] [.ref x])) := Steps.trans (entry rfl) (by
    show Steps p.tables e below (s₁.setTop (mkF m 0 #[.val (.ref x)] [])) _
    refine XS.aloadN X0.here hexec rfl (hb hbytes d0) rfl rfl ?_
    exact Steps.refl _)
  obtain ⟨T2, X2, q2, st2⟩ := X0.hget hexec hown (wk W (.fieldLink "java/lang/String" 9 "java/lang/String" "value" "[B")) (hx.mv X0.warmed.alike hh0).2.1 (g := (mkF m 1 #[.val (.ref x)] [.ref x])) rfl (rest := []) rfl (hb hbytes d1)
  have hh2 := q2.trans hh0
  have hx2 := hx.mv X2.warmed.alike hh2
  have c3 : Steps p.tables e below (s₁.setTop (entryFrame m #[.ref x] 1)) (T2.setTop (mkF m 5 #[.val (.ref x)] [.int (Int32.ofNat V.slots.size)])) := (c1.trans (st2 _ (Steps.refl _))).trans (by
    refine X2.alen hexec hx2.2.2.2.1 rfl rfl (hb hbytes d4) ?_
    exact Steps.refl _)
  have hz : V.slots.size = 0 ↔ n = 0 := by
    rcases hx.2.2.2.2.1 with ⟨-, q, -⟩ | ⟨-, q, -⟩ <;> omega
  by_cases h0 : n = 0
  · have c4 : Steps p.tables e below (s₁.setTop (entryFrame m #[.ref x] 1)) (T2.setTop (mkF m 13 #[.val (.ref x)] [.int 1])) := c3.trans (by
      refine XS.ifNo X2.here hexec rfl (hb hbytes d5) rfl (i0_ne_f (by rw [hz.mpr h0]; rfl)) ?_
      refine iconstV X2.here hexec rfl 1 (hb hbytes d8) (by decide) ?_
      refine XS.goto X2.here hexec rfl (pc0 := 9) rfl (hb hbytes d9) (by decide) rfl ?_
      exact Steps.refl _)
    exact ⟨T2, some (.int 1), _, _, _, X2, rfl, rfl, rfl, (fun h => by cases h), ⟨by rw [if_pos h0], hh2⟩, fun fs hl => c4.trans (X2.ireturnOut hexec hret rfl (Or.inr (Or.inl rfl)) (hb hbytes d13) hl)⟩
  · have c4 : Steps p.tables e below (s₁.setTop (entryFrame m #[.ref x] 1)) (T2.setTop (mkF m 13 #[.val (.ref x)] [.int 0])) := c3.trans (by
      refine XS.ifYes X2.here hexec rfl (pc0 := 5) rfl (hb hbytes d5) rfl (i0_ne_t (nz32 v31 (by omega))) (by decide) rfl ?_
      refine iconstV X2.here hexec rfl 0 (hb hbytes d12) (by decide) ?_
      exact Steps.refl _)
    exact ⟨T2, some (.int 0), _, _, _, X2, rfl, rfl, rfl, (fun h => by cases h), ⟨by rw [if_neg h0], hh2⟩, fun fs hl => c4.trans (X2.ireturnOut hexec hret rfl (Or.inr (Or.inl rfl)) (hb hbytes d13) hl)⟩
theorem pays {l : Launch} {R : Room} {p : Program} {e : Env} {below : List Frame} {s : State} {sargs : Array Value} {len W : Nat} (x t : Addr) (V : Cell) (cd : Int32) (n : Nat) (f : Nat → Int32) (htab : tab.before sargs s = true) (hfr : 1 ≤ R.frames) (hlo : W + 12 ≤ R.locals) :
    Back l R p e below s sargs yN len W (fun A₁ a₁ => A₁.cells + 0 ≤ R.cells ∧ A₁.slots + 0 ≤ R.slots ∧ P x t V cd n f a₁ A₁.U) (fun A₁ _ v₁ B₁ => E n v₁ A₁.U B₁.U ∧ B₁.locs = A₁.locs ++ [] ∧ B₁.cells = A₁.cells + 0 ∧ B₁.slots = A₁.slots + 0) :=
  (law l x t V cd n f).pays htab hfr (by omega)
end Emp
end StrChars
namespace StrChars.Road
open Jvm Sem ClassFile Op Lib Jvm.Stand Jvm.Free Jvm.Free.XT
open Jvm.Lib.Cold (StaticIs)
/-- the words of String.isEmpty() -/
abbrev wordsEmp : List Jvm.Cond := [.code Emp.yN Emp.yB 1 (some .boolean), .initialized ST, .fieldLink ST 9 ST "value" "[B"]
theorem tabEmp_of {a : Array Value} {s : State} (h : ∀ w ∈ wordsEmp, w.before a s = true) : Emp.tab.before a s = true := unparts (wk h (.code Emp.yN Emp.yB 1 (some .boolean))) (wks h (.initialized Emp.yN.cls :: Emp.site))
theorem movedEmp {Z s : State} {a0 args : Array Value} (hZ : Z.Warmed39 s.vm) (hw : ∀ d ∈ wordsEmp, d.before a0 Z = true) : ∀ d ∈ wordsEmp, d.before args s = true := fun d hd => by
  have t : ∀ d ∈ wordsEmp, (d.onTables && d.keepsFace) = true := by decide +kernel
  exact RoadKit.mv hZ (hw d hd) (t d hd)
/-- the road's facts of a String, as the laws ask it -/
theorem txt_of {Z U : State} {a0 : Array Value} {kI : Nat} (wi : (Jvm.Cond.instantiable ST kI).before a0 Z = true) (al : Z.vm.Alike U.vm) {x t : Addr} {kb : ClassId} {cs : List Int32} {cd N2 : Int32} {vs : List Value} (E : RoadKit.Exa Z U.heap x ST) (V : RoadKit.Fld Z U.heap x ST "value" "[B" (.ref t)) (C : RoadKit.Fld Z U.heap x ST "coder" "B" (.int cd)) (K : RoadKit.Arv Z U.heap t kb .byte N2 vs (.int 0)) (hc : CodA cs cd N2 vs) (hb : ∀ c ∈ cs, ¬ c < 0 ∧ ¬ (65535 : Int32) < c) (l2 : cs.length ≤ 4000) :
    ∃ A, Txt x t A cd cs.length (fun j => cs.getD j 0) U := by
  obtain ⟨A, K1, K2, K3, K4, K5, K6⟩ := K
  have hcod := hc.cod (by omega) K3 K5
  obtain ⟨D, fV, fC, hB, F1, F2, g1, g2, -, -⟩ := strObj wi al E V C
  exact ⟨A, ⟨_, hB.2.2.1, D, hB.1, rfl, by cases q : D.vm <;> first | rfl | exact absurd q (hB.2.1.2 _)⟩, Has.of hB F1 g1, Has.of hB F2 g2, ⟨K1.1, State.isArrayOf_alike al K1.2.1, K1.2.2, by rcases hcod with ⟨-, q, -⟩ | ⟨-, q, -⟩ <;> omega⟩, hcod, fun j hj => by
    have e : cs.getD j 0 = cs[j] := by simp [List.getD_eq_getElem?_getD, hj]
    show ¬ cs.getD j 0 < 0 ∧ ¬ 65535 < cs.getD j 0
    rw [e]; exact hb _ (List.getElem_mem _)⟩
/-- **isEmpty() OF SUCH A STRING** -/
theorem empW {p : Program} {l : Launch} {e : Env} {R : Room} {s : State} {args : Array Value} {below : List Frame} {len W : Nat} {Z : State} {a0 : Array Value} {h : Heap} (hZ : Z.Warmed39 s.vm) (hw : ∀ d ∈ wordsEmp, d.before a0 Z = true) {kI : Nat} (wi : (Jvm.Cond.instantiable ST kI).before a0 Z = true)
    {x t : Addr} {kb : ClassId} {cs : List Int32} {cd N2 : Int32} {vs : List Value} (E : RoadKit.Exa Z h x ST) (V : RoadKit.Fld Z h x ST "value" "[B" (.ref t)) (C : RoadKit.Fld Z h x ST "coder" "B" (.int cd)) (K : RoadKit.Arv Z h t kb .byte N2 vs (.int 0)) (hc : CodA cs cd N2 vs) (hb : ∀ c ∈ cs, ¬ c < 0 ∧ ¬ (65535 : Int32) < c) (l2 : cs.length ≤ 4000) (hfr : 1 ≤ R.frames) (hlo : W + 12 ≤ R.locals) :
    Back l R p e below s args (⟨"java/lang/String", "isEmpty", "()Z"⟩ : MethodName) len W (fun P a => a = #[.ref x] ∧ P.U.heap = h ∧ P.cells + 0 ≤ R.cells ∧ P.slots + 0 ≤ R.slots)
      (fun P _ v B => ∃ L, (v = some (.int (if cs.length = 0 then 1 else 0)) ∧ L = [] ∧ B.U.heap = h) ∧ B.locs = P.locs ++ L ∧ B.cells = P.cells + 0 ∧ B.slots = P.slots + 0) := by
  intro m meth c P g ig mk a X hg hsize hdg hW hn hp'
  obtain ⟨rfl, rfl, r1, r2⟩ := hp'
  have al : Z.vm.Alike P.U.vm := hZ.alike.trans X.warmed.alike
  obtain ⟨A, hx⟩ := txt_of wi al E V C K hc hb l2
  obtain ⟨v, B, X', ⟨⟨hv, hh⟩, hl, hk, hs⟩, st⟩ := Emp.pays x t A cd cs.length (fun j => cs.getD j 0) (tabEmp_of (movedEmp hZ hw)) hfr hlo m meth c P g ig mk _ X hg hsize hdg hW hn ⟨r1, r2, rfl, hx⟩
  exact ⟨v, B, X', ⟨[], ⟨hv, rfl, hh⟩, hl, hk, hs⟩, st⟩
end StrChars.Road
namespace StrChars
open Jvm Sem ClassFile Op Lib Jvm.Stand Jvm.Free.XT Jvm.Free.ALB Jvm.Free.JM Jvm.Free
open Jvm.Lib.Cold (StaticIs)
namespace ChN
def yN : MethodName := ⟨"java/lang/String", "charAt", "(I)C"⟩
abbrev yB : ByteArray := jdk_42_method_56_code
theorem d0 : decode yB 0 = .ok (.aload_n 0, 1) := by decide +kernel
theorem d1 : decode yB 1 = .ok (.invokevirtual 492, 3) := by decide +kernel
theorem d4 : decode yB 4 = .ok (.ifCond (.eq) 12, 3) := by decide +kernel
theorem d7 : decode yB 7 = .ok (.aload_n 0, 1) := by decide +kernel
theorem d8 : decode yB 8 = .ok (.getfield 9, 3) := by decide +kernel
theorem d11 : decode yB 11 = .ok (.iload_n 1, 1) := by decide +kernel
theorem d12 : decode yB 12 = .ok (.invokestatic 495, 3) := by decide +kernel
theorem d15 : decode yB 15 = .ok (.ireturn, 1) := by decide +kernel
def site : List Cond := [.fieldLink "java/lang/String" 9 "java/lang/String" "value" "[B", IsL.tab, LChA.tab] ++ virtW "java/lang/String" 492 "java/lang/String" IsL.yN IsL.yN ++ staticW "java/lang/String" 495 LChA.yN
def tab : Cond := tabOf yN yB 2 (some .char) site
def P (x t : Addr) (V : Cell) (n : Nat) (f : Nat → Int32) (z : Int32) (fm : Value) (i : Nat) (args : Array Value) (s : State) : Prop := args = #[.ref x, .int (Int32.ofNat i)] ∧ Txt x t V 0 n f s ∧ i < n ∧ StaticIs s "java/lang/String" "COMPACT_STRINGS" "Z" (.int z) ∧ ¬ z = 0 ∧ StaticIs s "jdk/internal/util/Preconditions" "SIOOBE_FORMATTER" "Ljava/util/function/BiFunction;" fm ∧ fm.isRef = true
def E (f : Nat → Int32) (i : Nat) (r : Option Value) (s u : State) : Prop := XT.PureE (some (.int (f i))) r s u
/-- charAt(i) of a Latin-1 String of n chars, i < n: f i -/
theorem law (l : Launch) (x t : Addr) (V : Cell) (n : Nat) (f : Nat → Int32) (z : Int32) (fm : Value) (i : Nat) : Law l yN 2 1 3 40 yB 2 (some .char) site (P x t V n f z fm i) (E f i) [] 0 0 := by
  refine Law.of_walk (plainFor_of_name (by decide +kernel)) (by decide +kernel) (by decide +kernel) (by decide) (fun _ _ h => by rw [h.1]; rfl) (fun _ U U' hal hh h => ⟨h.1, h.2.1.mv hal hh, h.2.2.1, h.2.2.2.1.there hal hh, h.2.2.2.2.1, h.2.2.2.2.2.1.there hal hh, h.2.2.2.2.2.2⟩) (fun r U U' V V' h1 hal h2 h => XT.PureE.mv r U U' V V' h1 hal h2 h) ?_
  intro p e s m args below meth c s₁ X0 hexec hbytes hml hret hlk hnm hown hh0 W hP
  obtain ⟨rfl, hx, hi, s1, hz, s3, rf⟩ := hP
  have v31 := hx.2.2.2.1.2.2.2
  have hr := hx.2.2.2.2.2 i hi
  have hx0 := hx.mv X0.warmed.alike hh0
  have c1 : Steps p.tables e below (s₁.setTop (entryFrame m #[.ref x, .int (Int32.ofNat i)] 2)) (s₁.setTop (mkF m 1 #[.val (.ref x), .val (.int (Int32.ofNat i))] [.ref x])) := Steps.trans (entry rfl) (by
    show Steps p.tables e below (s₁.setTop (mkF m 0 #[.val (.ref x), .val (.int (Int32.ofNat i))] [])) _
    refine XS.aloadN X0.here hexec rfl (hb hbytes d0) rfl rfl ?_
    exact Steps.refl _)
  obtain ⟨v2, T2, X2, E2, g2⟩ := X0.callV hexec (IsL.law l x 0 z) hown (wks W (virtW "java/lang/String" 492 "java/lang/String" IsL.yN IsL.yN)) rfl (by decide) (wk W IsL.tab) (W := 0) (Nat.le_of_ble_eq_true rfl) (Nat.le_of_ble_eq_true rfl) (Nat.le_refl _) (Nat.le_refl _) (hx0.1.fc X0.warmed.alike) hx0.1.is (g := (mkF m 1 #[.val (.ref x), .val (.int (Int32.ofNat i))] [.ref x])) rfl (by rw [hml]; rfl) c1 (argsL := []) (rest := []) rfl rfl (by show 2 * 0 + 0 ≤ _; decide) (hb hbytes d1) (⟨rfl, hx0.2.2.1, hx.2.2.2.2.1.cd, s1.there X0.warmed.alike hh0, hz⟩)
  obtain ⟨rfl, q2⟩ := E2
  have hh2 := q2.trans hh0
  have hx2 := hx.mv X2.warmed.alike hh2
  obtain ⟨-, k1, k2⟩ | ⟨k0, -⟩ := hx.2.2.2.2.1
  · have c3 : Steps p.tables e below (s₁.setTop (entryFrame m #[.ref x, .int (Int32.ofNat i)] 2)) (T2.setTop (mkF m 8 #[.val (.ref x), .val (.int (Int32.ofNat i))] [.ref x])) := Steps.trans g2 (by
      refine XS.ifNo X2.here hexec rfl (hb hbytes d4) rfl (i0_eq_f (by decide)) ?_
      refine XS.aloadN X2.here hexec rfl (hb hbytes d7) rfl rfl ?_
      exact Steps.refl _)
    obtain ⟨T4, X4, q4, st4⟩ := X2.hget hexec hown (wk W (.fieldLink "java/lang/String" 9 "java/lang/String" "value" "[B")) hx2.2.1 (g := (mkF m 8 #[.val (.ref x), .val (.int (Int32.ofNat i))] [.ref x])) rfl (rest := []) rfl (hb hbytes d8)
    have hh4 := q4.trans hh2
    have c5 : Steps p.tables e below (s₁.setTop (entryFrame m #[.ref x, .int (Int32.ofNat i)] 2)) (T4.setTop (mkF m 12 #[.val (.ref x), .val (.int (Int32.ofNat i))] [.int (Int32.ofNat i), .ref t])) := (c3.trans (st4 _ (Steps.refl _))).trans (by
      refine XS.iloadN X4.here hexec rfl (hb hbytes d11) rfl ?_
      exact Steps.refl _)
    obtain ⟨v6, T6, X6, E6, g6⟩ := X4.callS hexec (LChA.law l t V i (lo8 (f i)) fm) hown (wks W (staticW "java/lang/String" 495 LChA.yN)) (wk W LChA.tab) (W := 0) (Nat.le_of_ble_eq_true rfl) (Nat.le_of_ble_eq_true rfl) (Nat.le_refl _) (Nat.le_refl _) (g := (mkF m 12 #[.val (.ref x), .val (.int (Int32.ofNat i))] [.int (Int32.ofNat i), .ref t])) rfl (by rw [hml]; rfl) c5 (argsL := [.ref t, .int (Int32.ofNat i)]) (rest := []) rfl rfl (by show 2 * 0 + 0 ≤ _; decide) (hb hbytes d12) (⟨rfl, hx.2.2.2.1.mv X4.warmed.alike hh4, (k2 i hi).1, s3.there X4.warmed.alike hh4, rf⟩)
    obtain ⟨rfl, q6⟩ := E6
    rw [chr8_lo8 hr.1 (k2 i hi).2] at g6
    exact ⟨T6, some (.int (f i)), _, _, _, X6, rfl, rfl, rfl, (fun h => by cases h), ⟨rfl, q6.trans hh4⟩, fun fs hl => Steps.trans g6 (X6.ireturnOut hexec hret (narrow_ch hr.1 hr.2) (Or.inr (Or.inr (Or.inr (Or.inl rfl)))) (hb hbytes d15) hl)⟩
  · exact absurd k0 (by decide)
theorem pays {l : Launch} {R : Room} {p : Program} {e : Env} {below : List Frame} {s : State} {sargs : Array Value} {len W : Nat} (x t : Addr) (V : Cell) (n : Nat) (f : Nat → Int32) (z : Int32) (fm : Value) (i : Nat) (htab : tab.before sargs s = true) (hfr : 4 ≤ R.frames) (hlo : W + 53 ≤ R.locals) :
    Back l R p e below s sargs yN len W (fun A₁ a₁ => A₁.cells + 0 ≤ R.cells ∧ A₁.slots + 0 ≤ R.slots ∧ P x t V n f z fm i a₁ A₁.U) (fun A₁ _ v₁ B₁ => E f i v₁ A₁.U B₁.U ∧ B₁.locs = A₁.locs ++ [] ∧ B₁.cells = A₁.cells + 0 ∧ B₁.slots = A₁.slots + 0) :=
  (law l x t V n f z fm i).pays htab hfr (by omega)
end ChN
end StrChars
namespace StrChars.Road
open Jvm Sem ClassFile Op Lib Jvm.Stand Jvm.Free Jvm.Free.XT
open Jvm.Lib.Cold (StaticIs)
/-- the words of String.charAt(int), the Latin-1 road alone -/
abbrev wordsChN : List Jvm.Cond := [.code ChN.yN ChN.yB 2 (some .char), .initialized ST, .fieldLink ST 9 ST "value" "[B", .fieldLink ST 38 ST "COMPACT_STRINGS" "Z", .fieldLink ST 15 ST "coder" "B", .code IsL.yN IsL.yB 1 (some .boolean), .methodLink ST 492 IsL.yN, .declares IsL.yN, .selects ST IsL.yN IsL.yN, .instanceMethod IsL.yN,
  .methodLink ST 495 LChA.yN, .static LChA.yN, .code LChA.yN LChA.yB 2 (some .char), .initialized "java/lang/StringLatin1", .methodLink "java/lang/StringLatin1" 9 JO.Str_checkIndex.yN, .static JO.Str_checkIndex.yN, .code JO.Str_checkIndex.yN JO.Str_checkIndex.yB 2 none,
  .fieldLink ST 1053 "jdk/internal/util/Preconditions" "SIOOBE_FORMATTER" "Ljava/util/function/BiFunction;", .methodLink ST 1059 JC.PreCheck.yN, .static JC.PreCheck.yN, .code JC.PreCheck.yN JC.PreCheck.yB 3 (some .int), .initialized "jdk/internal/util/Preconditions"]
theorem tabChN_of {a : Array Value} {s : State} (h : ∀ w ∈ wordsChN, w.before a s = true) : ChN.tab.before a s = true := by
  have hp : JC.PreCheck.tab.before a s = true := unparts (wk h (.code JC.PreCheck.yN JC.PreCheck.yB 3 (some .int))) (wks h (.initialized JC.PreCheck.yN.cls :: JC.PreCheck.site))
  have qk := consq hp h
  have hk : JO.Str_checkIndex.tab.before a s = true := unparts (wk qk (.code JO.Str_checkIndex.yN JO.Str_checkIndex.yB 2 none)) (wks qk (.initialized JO.Str_checkIndex.yN.cls :: JO.Str_checkIndex.site))
  have ql := consq hk h
  have hl : LChA.tab.before a s = true := unparts (wk ql (.code LChA.yN LChA.yB 2 (some .char))) (wks ql (.initialized LChA.yN.cls :: LChA.site))
  have hi : IsL.tab.before a s = true := unparts (wk h (.code IsL.yN IsL.yB 1 (some .boolean))) (wks h (.initialized IsL.yN.cls :: IsL.site))
  have q := consq hi (consq hl h)
  exact unparts (wk q (.code ChN.yN ChN.yB 2 (some .char))) (wks q (.initialized ChN.yN.cls :: ChN.site))
theorem movedChN {Z s : State} {a0 args : Array Value} (hZ : Z.Warmed39 s.vm) (hw : ∀ d ∈ wordsChN, d.before a0 Z = true) : ∀ d ∈ wordsChN, d.before args s = true := fun d hd => by
  have t : ∀ d ∈ wordsChN, (d.onTables && d.keepsFace) = true := by decide +kernel
  exact RoadKit.mv hZ (hw d hd) (t d hd)
/-- **charAt(i) OF A LATIN-1 STRING**, i < n: the char -/
theorem chN {p : Program} {l : Launch} {e : Env} {R : Room} {s : State} {args : Array Value} {below : List Frame} {len W : Nat} {Z : State} {a0 : Array Value} {h : Heap} (hZ : Z.Warmed39 s.vm) (hw : ∀ d ∈ wordsChN, d.before a0 Z = true) {kI : Nat} (wi : (Jvm.Cond.instantiable ST kI).before a0 Z = true)
    {x t : Addr} {kb : ClassId} {cs : List Int32} {N2 z : Int32} {vs : List Value} {fm : Value} {i : Nat} {j : Int32} (E : RoadKit.Exa Z h x ST) (V : RoadKit.Fld Z h x ST "value" "[B" (.ref t)) (C : RoadKit.Fld Z h x ST "coder" "B" (.int 0)) (K : RoadKit.Arv Z h t kb .byte N2 vs (.int 0)) (hc : CodA cs 0 N2 vs) (hb : ∀ c ∈ cs, ¬ c < 0 ∧ ¬ (65535 : Int32) < c)
    (S : RoadKit.Sta Z h ST "COMPACT_STRINGS" "Z" (.int z)) (hz : ¬ z = 0) (F : RoadKit.Sta Z h "jdk/internal/util/Preconditions" "SIOOBE_FORMATTER" "Ljava/util/function/BiFunction;" fm) (rf : fm.isRef = true) (l2 : cs.length ≤ 4000) (hi : i < cs.length) (hj : j = Int32.ofNat i) (hfr : 4 ≤ R.frames) (hlo : W + 53 ≤ R.locals) :
    Back l R p e below s args (⟨"java/lang/String", "charAt", "(I)C"⟩ : MethodName) len W (fun P a => a = #[.ref x, .int j] ∧ P.U.heap = h ∧ P.cells + 0 ≤ R.cells ∧ P.slots + 0 ≤ R.slots)
      (fun P _ v B => ∃ L, (v = some (.int (cs.getD i 0)) ∧ L = [] ∧ B.U.heap = h) ∧ B.locs = P.locs ++ L ∧ B.cells = P.cells + 0 ∧ B.slots = P.slots + 0) := by
  subst hj
  intro m meth c P g ig mk a X hg hsize hdg hW hn hp'
  obtain ⟨rfl, rfl, r1, r2⟩ := hp'
  have al : Z.vm.Alike P.U.vm := hZ.alike.trans X.warmed.alike
  obtain ⟨A, hx⟩ := txt_of wi al E V C K hc hb l2
  obtain ⟨v, B, X', ⟨⟨hv, hh⟩, hl, hk, hs⟩, st⟩ := ChN.pays x t A cs.length (fun j => cs.getD j 0) z fm i (tabChN_of (movedChN hZ hw)) hfr hlo m meth c P g ig mk _ X hg hsize hdg hW hn ⟨r1, r2, rfl, hx, hi, sta_is al S, hz, sta_is al F, rf⟩
  exact ⟨v, B, X', ⟨[], ⟨hv, rfl, hh⟩, hl, hk, hs⟩, st⟩
end StrChars.Road
end Jvm.Pilot.@@N@@
namespace Jvm.Pilot.@@N@@
open Jvm Jvm.ClassFile Sem Op Lib Jvm.Free Jvm.Stand Jvm.LawKit Jvm.RoadKit Bundle Jvm.Pilot.@@N@@.Jvm.D
section OwnStr
variable {p : Program} {l : Launch} {e : Env} {R : Room} {args : Array Value} {below : List Frame} {Z : State} {a0 : Array Value} {h h' : Heap} {ws : List Addr} {a t : Addr} {cs ds : List Int32}
/-- the object at a is a String of the chars cs; its bytes lie at t -/
def Str (Z : State) (h : Heap) (a t : Addr) (cs : List Int32) : Prop := (∀ c ∈ cs, ¬ c < 0 ∧ ¬ (65535 : Int32) < c) ∧ cs.length ≤ 4000 ∧ Exa Z h a "java/lang/String" ∧ Fld Z h a "java/lang/String" "value" "[B" (.ref t) ∧
  ∃ (cd N2 : Int32) (vs : List Value) (kb : ClassId), Fld Z h a "java/lang/String" "coder" "B" (.int cd) ∧ Arv Z h t kb .byte N2 vs (.int 0) ∧ StrChars.Road.CodA cs cd N2 vs
theorem Str.exa (F : Str Z h a t cs) : Exa Z h a "java/lang/String" := F.2.2.1
theorem Str.lt (F : Str Z h a t cs) : a < h.size := F.2.2.1.lt
theorem Str.ltt (F : Str Z h a t cs) : t < h.size := by obtain ⟨_, _, _, _, _, _, _, _, _, A, _⟩ := F; exact A.lt
theorem Str.keep (F : Str Z h a t cs) (K : Keep h h' ws) (q : a ∉ ws) (r : t ∉ ws) : Str Z h' a t cs := by
  obtain ⟨h1, h2, h3, h4, cd, N2, vs, kb, h5, h6, h7⟩ := F
  exact ⟨h1, h2, h3.keep K, h4.keep K q, cd, N2, vs, kb, h5.keep K q, h6.keep K r, h7⟩
theorem Str.ext (F : Str Z h a t cs) (E : Ext h h') : Str Z h' a t cs := by
  obtain ⟨h1, h2, h3, h4, cd, N2, vs, kb, h5, h6, h7⟩ := F
  exact ⟨h1, h2, h3.ext E, h4.ext E, cd, N2, vs, kb, h5.ext E, h6.ext E, h7⟩
theorem up255 (h : ∀ c ∈ cs, ¬ c < 0 ∧ ¬ (255 : Int32) < c) : ∀ c ∈ cs, ¬ c < 0 ∧ ¬ (65535 : Int32) < c := fun c hc => ⟨(h c hc).1, fun q => (h c hc).2 (by rw [Int32.lt_iff_toInt_lt] at q ⊢; have e1 : (65535 : Int32).toInt = 65535 := rfl; have e2 : (255 : Int32).toInt = 255 := rfl; omega)⟩
/-- what backArv leaves is such a String -/
theorem str_of {kb : ClassId} (hp : ∀ c ∈ cs, ¬ c < 0 ∧ ¬ (255 : Int32) < c) (l2 : cs.length ≤ 4000) (E : Exa Z h a "java/lang/String") (F : Fld Z h a "java/lang/String" "value" "[B" (.ref t)) (C : Fld Z h a "java/lang/String" "coder" "B" (.int 0)) {zn : Int32} (hz : zn = Int32.ofNat cs.length) {vs : List Value} (hv : vs = cs.map fun c => Value.int (StrChars.lo8 c)) (A : Arv Z h t kb .byte zn vs (.int 0)) : Str Z h a t cs :=
  ⟨up255 hp, l2, E, F, 0, zn, vs, kb, C, A, Or.inl ⟨rfl, hz, hv, fun c hc => (hp c hc).2⟩⟩
theorem lat_and (x : Int32) : ¬ (x &&& (255 : Int32)) < 0 ∧ ¬ (255 : Int32) < (x &&& (255 : Int32)) := by
  have q := c_and x 255 (by decide)
  have e : (255 : Int32).toInt = 255 := rfl
  have z : (0 : Int32).toInt = 0 := rfl
  rw [Int32.lt_iff_toInt_lt, Int32.lt_iff_toInt_lt]; omega
theorem nar_id {c : Int32} (h0 : ¬ c < 0) (h1 : ¬ (65535 : Int32) < c) : nar .char c = c := by
  have q := c_i2c c
  have e1 : (65535 : Int32).toInt = 65535 := rfl
  have e2 : (0 : Int32).toInt = 0 := rfl
  rw [Int32.lt_iff_toInt_lt] at h0 h1
  apply Int32.toInt_inj.mp
  show c.toUInt32.toUInt16.toUInt32.toInt32.toInt = c.toInt
  omega
theorem lat_nar {c : Int32} (q : ¬ c < 0 ∧ ¬ (255 : Int32) < c) : ¬ nar .char c < 0 ∧ ¬ (255 : Int32) < nar .char c := by
  rw [nar_id q.1 (fun r => q.2 (by rw [Int32.lt_iff_toInt_lt] at r ⊢; have e1 : (65535 : Int32).toInt = 65535 := rfl; have e2 : (255 : Int32).toInt = 255 := rfl; omega))]; exact q
theorem mem2 {P : Int32 → Prop} {x : Int32} {L : List Int32} (q : P x) (r : ∀ c ∈ L, P c) : ∀ c ∈ x :: L, P c := fun c hc => (List.mem_cons.mp hc).elim (fun u => u ▸ q) (r c)
theorem mem0 {P : Int32 → Prop} : ∀ c ∈ ([] : List Int32), P c := fun _ q => nomatch q
/-- new String(char[]), 1 to 4,000 chars, each 0 to 255 -/
theorem payNew {W n : Nat} (hws : ∀ d ∈ StrChars.Road.words, d.before a0 Z = true) (wi : (Jvm.Cond.instantiable "java/lang/String" 4).before a0 Z = true) {x b : Addr} {kC : ClassId} {dv v0 c0 : Value} {z N : Int32} (E : Exa Z h x "java/lang/String") (V : Fld Z h x "java/lang/String" "value" "[B" v0) (C : Fld Z h x "java/lang/String" "coder" "B" c0) (K : Arv Z h b kC .char N (cs.map Value.int) dv)
    (S : Sta Z h "java/lang/String" "COMPACT_STRINGS" "Z" (.int z)) (hz : ¬ z = 0) (hn : cs.length = n) (hN : N = Int32.ofNat n) (l0 : 0 < n) (l2 : n ≤ 4000) (hp : ∀ c ∈ cs, ¬ c < 0 ∧ ¬ (255 : Int32) < c) (hfr : 4 ≤ R.frames) (hlo : W + 65 ≤ R.locals) :
    PayN l R p e below args Z (⟨"java/lang/String", "<init>", "([C)V"⟩ : MethodName) W #[.ref x, .ref b] h 1 n [x] (fun v h' => v = none ∧ ∃ t, @Eq Nat t h.size ∧ h'.size > t ∧ Str Z h' x t cs) := fun s hZ => by
  subst hn hN
  refine Back.mono (StrChars.Road.backArv hZ hws wi E V C K S hz (Int32.toNatClampNeg_ofNat_of_lt (by omega)) l0 (by omega) (fun c hc => (hp c hc).2) hfr hlo) (fun P a hp => hp) (fun P a v B hp' hq => ?_)
  obtain ⟨L, ⟨q1, q2, q3, q4, q5, q6, q7, ⟨kb, v1, v2⟩, q9⟩, hl, hc, hs⟩ := hq
  exact ⟨L, ⟨⟨q1, h.size, rfl, (by show h.size < _; omega), str_of hp l2 q5 q6 q7 rfl rfl v2⟩, fun y hy => Or.inl (by rw [q2 y hy]; exact List.mem_singleton.mpr rfl), q3⟩, hl, hc, hs⟩
theorem payLen {W : Nat} (hws : ∀ d ∈ StrChars.Road.wordsLen, d.before a0 Z = true) (wi : (Jvm.Cond.instantiable "java/lang/String" 4).before a0 Z = true) {x : Addr} {z : Int32} (F : Str Z h x t cs) (S : Sta Z h "java/lang/String" "COMPACT_STRINGS" "Z" (.int z)) (hz : ¬ z = 0) (hfr : 2 ≤ R.frames) (hlo : W + 25 ≤ R.locals) :
    PayN l R p e below args Z (⟨"java/lang/String", "length", "()I"⟩ : MethodName) W #[.ref x] h 0 0 [] (fun v h' => v = some (.int (Int32.ofNat cs.length)) ∧ h = h') := fun s hZ => by
  obtain ⟨h1, h2, h3, h4, cd, N2, vs, kb, h5, h6, h7⟩ := F
  refine Back.mono (StrChars.Road.lenW hZ hws wi h3 h4 h5 h6 h7 h1 S hz h2 hfr hlo) (fun P a hp => hp) (fun P a v B hp' hq => ?_)
  obtain ⟨L, ⟨q1, rfl, q3⟩, hl, hc, hs⟩ := hq
  exact ⟨[], ⟨⟨q1, q3.symm⟩, (fun y hy => nomatch hy), by rw [q3]; exact Keep.refl _ _⟩, hl, hc, hs⟩
theorem payEmp {W : Nat} (hws : ∀ d ∈ StrChars.Road.wordsEmp, d.before a0 Z = true) (wi : (Jvm.Cond.instantiable "java/lang/String" 4).before a0 Z = true) {x : Addr} (F : Str Z h x t cs) (hfr : 1 ≤ R.frames) (hlo : W + 12 ≤ R.locals) :
    PayN l R p e below args Z (⟨"java/lang/String", "isEmpty", "()Z"⟩ : MethodName) W #[.ref x] h 0 0 [] (fun v h' => v = some (.int (if cs.length = 0 then 1 else 0)) ∧ h = h') := fun s hZ => by
  obtain ⟨h1, h2, h3, h4, cd, N2, vs, kb, h5, h6, h7⟩ := F
  refine Back.mono (StrChars.Road.empW hZ hws wi h3 h4 h5 h6 h7 h1 h2 hfr hlo) (fun P a hp => hp) (fun P a v B hp' hq => ?_)
  obtain ⟨L, ⟨q1, rfl, q3⟩, hl, hc, hs⟩ := hq
  exact ⟨[], ⟨⟨q1, q3.symm⟩, (fun y hy => nomatch hy), by rw [q3]; exact Keep.refl _ _⟩, hl, hc, hs⟩
theorem payCh {W : Nat} (hws : ∀ d ∈ StrChars.Road.wordsChN, d.before a0 Z = true) (wi : (Jvm.Cond.instantiable "java/lang/String" 4).before a0 Z = true) {x : Addr} {z : Int32} (F : Str Z h x t cs) (hl : ∀ c ∈ cs, ¬ (255 : Int32) < c) (S : Sta Z h "java/lang/String" "COMPACT_STRINGS" "Z" (.int z)) (hz : ¬ z = 0) {fm : Value} (S2 : Sta Z h "jdk/internal/util/Preconditions" "SIOOBE_FORMATTER" "Ljava/util/function/BiFunction;" fm) (rf : fm.isRef = true) {i : Nat} {j : Int32} (hi : i < cs.length) (hj : j = Int32.ofNat i) (hfr : 4 ≤ R.frames) (hlo : W + 53 ≤ R.locals) :
    PayN l R p e below args Z (⟨"java/lang/String", "charAt", "(I)C"⟩ : MethodName) W #[.ref x, .int j] h 0 0 [] (fun v h' => v = some (.int (cs.getD i 0)) ∧ h = h') := fun s hZ => by
  obtain ⟨h1, h2, h3, h4, cd, N2, vs, kb, h5, h6, h7⟩ := F
  have hcd : cd = 0 := by
    rcases h7 with ⟨q, -⟩ | ⟨-, -, -, c, hc, hb⟩
    · exact q
    · exact absurd hb (hl c hc)
  subst hcd
  refine Back.mono (StrChars.Road.chN hZ hws wi h3 h4 h5 h6 h7 h1 S hz S2 rf h2 hi hj hfr hlo) (fun P a hp => hp) (fun P a v B hp' hq => ?_)
  obtain ⟨L, ⟨q1, rfl, q3⟩, hl, hc, hs⟩ := hq
  exact ⟨[], ⟨⟨q1, q3.symm⟩, (fun y hy => nomatch hy), by rw [q3]; exact Keep.refl _ _⟩, hl, hc, hs⟩
end OwnStr
end Jvm.Pilot.@@N@@
namespace Jvm.Pilot.@@N@@
open Jvm Jvm.ClassFile Sem Op Lib Jvm.Free Jvm.Stand Jvm.LawKit Jvm.RoadKit Bundle Jvm.Pilot.@@N@@.Jvm.D
section OwnStart
variable {args : Array Value} {s : State} {t u : Term} {a : Addr}
theorem ev_int {n : Int32} (q : (Jvm.Cond.eq t (.int n)).value args s none s [] = some true) : t.eval args s none [] s = some (.int n) := by
  obtain ⟨x, y, h1, h2, k1, k2⟩ := cmp_v (Or.inl q)
  cases h2.symm.trans (Term.int_eval n)
  obtain ⟨z, rfl⟩ := k2
  have := gotT (Cond.eq_ints h1 (Term.int_eval n)) q
  rw [h1, this]
theorem ev_ref {y : Addr} (q : (Jvm.Cond.eq t u).value args s none s [] = some true) (hu : u.eval args s none [] s = some (.ref y)) : t.eval args s none [] s = some (.ref y) := by
  obtain ⟨x, y', h1, h2, k1, k2⟩ := cmp_v (Or.inl q)
  cases hu.symm.trans h2
  have hx : x.isRef = true := k2.2
  have := gotT (eq_R h1 hu hx rfl) q
  rw [h1, this]
theorem fld_start {C n d : String} {v : Value} (ev : t.eval args s none [] s = some (.ref a)) (q : (Term.field t C n d).eval args s none [] s = some v) : Fld s s.heap a C n d v := Fld.start ((fld_at ev).symm.trans q)
theorem hasL_of {cl : Cell} {dv : Value} : ∀ (vs : List Value) (i : Nat), (∀ j, j < vs.length → cl.slots[i + j]? = some (vs.getD j dv)) → HasL cl i vs
  | [], _, _ => trivial
  | v :: r, i, H => ⟨by have := H 0 (by simp); simpa using this, hasL_of r (i + 1) fun j hj => by
      have := H (j + 1) (by simpa using hj)
      rw [show i + 1 + j = i + (j + 1) by omega]; simpa using this⟩
theorem arr_start {ty : FieldType} {n : Int32} {vs : List Value} {dv : Value} (hfit : Fit s) (ev : t.eval args s none [] s = some (.ref a)) (q1 : (Jvm.Cond.arrayOf t ty).value args s none s [] = some true) (q2 : (Jvm.Cond.eq (.length t) (.int n)).value args s none s [] = some true) (hn : ¬ n < 0) (hl : n.toNatClampNeg = vs.length)
    (q3 : ∀ j, j < vs.length → (Term.elem t (.int (Int32.ofNat j))).eval args s none [] s = some (vs.getD j dv)) : ∃ k, Arv s s.heap a k ty n vs dv := by
  obtain ⟨cl, A⟩ := Arr.start ev q1
  have hat : s.arrayAt? a = some cl := A.fin (Vm.Alike.refl _)
  have hlen := ev_int q2
  have h31 := Jvm.Free.SBG.length_lt ev hat hlen
  have e := len_f ev hat h31
  have e2 : cl.slots.size.toInt32 = n := by
    have q := Option.some.inj (e.symm.trans hlen)
    injection q
  have hsz : vs.length < 2 ^ 31 := by
    rw [← hl]; have := Int32.toInt_lt n; simp only [Int32.toNatClampNeg]; omega
  refine ⟨cl.cls, Arv.start hfit A h31 e2 hn hl (hasL_of (dv := dv) vs 0 fun j hj => ?_)⟩
  have q := (elem_in (q3 j hj) ev (Term.int_eval _) A.1).2
  rw [Int32.toNatClampNeg_ofNat_of_lt (Nat.lt_trans hj hsz)] at q
  rw [Nat.zero_add]; exact q
theorem str_start {cs : List Int32} (hfit : Fit s) (ev : t.eval args s none [] s = some (.ref a)) (q1 : (Jvm.Cond.exactly t "java/lang/String").value args s none s [] = some true) (q2 : (Jvm.Cond.eq (.field t "java/lang/String" "coder" "B") (.int 0)).value args s none s [] = some true) (q3 : (Jvm.Cond.arrayOf (.field t "java/lang/String" "value" "[B") .byte).value args s none s [] = some true)
    (q4 : (Jvm.Cond.eq (.length (.field t "java/lang/String" "value" "[B")) (.int (Int32.ofNat cs.length))).value args s none s [] = some true) (hp : ∀ c ∈ cs, ¬ c < 0 ∧ ¬ (255 : Int32) < c) (l2 : cs.length ≤ 4000)
    (q5 : ∀ j, j < cs.length → (Term.elem (.field t "java/lang/String" "value" "[B") (.int (Int32.ofNat j))).eval args s none [] s = some ((cs.map fun c => Value.int (StrChars.lo8 c)).getD j (.int 0))) : ∃ b, Str s s.heap a b cs := by
  obtain ⟨b, eb⟩ := arr_v q3
  have hz : ¬ (Int32.ofNat cs.length) < 0 := by
    rw [Int32.lt_iff_toInt_lt, len_toInt (n := cs.length) (by omega)]; show ¬ ((cs.length : Int) < 0); omega
  obtain ⟨k, A⟩ := arr_start (dv := .int 0) hfit eb q3 q4 hz (by rw [List.length_map]; exact Int32.toNatClampNeg_ofNat_of_lt (by omega)) (fun j hj => q5 j (by simpa using hj))
  exact ⟨b, str_of hp l2 (Exa.start ev q1) (fld_start ev eb) (fld_start ev (ev_int q2)) rfl rfl A⟩
end OwnStart
end Jvm.Pilot.@@N@@
namespace Jvm.Pilot.@@N@@
open Jvm Jvm.ClassFile Sem Op Lib Jvm.Free Jvm.Stand Jvm.LawKit Jvm.RoadKit Bundle Jvm.Pilot.@@N@@.Jvm.D
theorem hws_new {Z : State} {a0 : Array Value} (hw : ∀ d ∈ tables_1, d.before a0 Z = true) : ∀ d ∈ StrChars.Road.words, d.before a0 Z = true := fun d hd => hw d ((by decide +kernel : ∀ d ∈ StrChars.Road.words, d ∈ tables_1) d hd)
theorem hws_len {Z : State} {a0 : Array Value} (hw : ∀ d ∈ tables_1, d.before a0 Z = true) : ∀ d ∈ StrChars.Road.wordsLen, d.before a0 Z = true := fun d hd => hw d ((by decide +kernel : ∀ d ∈ StrChars.Road.wordsLen, d ∈ tables_1) d hd)
theorem hws_emp {Z : State} {a0 : Array Value} (hw : ∀ d ∈ tables_1, d.before a0 Z = true) : ∀ d ∈ StrChars.Road.wordsEmp, d.before a0 Z = true := fun d hd => hw d ((by decide +kernel : ∀ d ∈ StrChars.Road.wordsEmp, d ∈ tables_1) d hd)
theorem hws_ch {Z : State} {a0 : Array Value} (hw : ∀ d ∈ tables_1, d.before a0 Z = true) : ∀ d ∈ StrChars.Road.wordsChN, d.before a0 Z = true := fun d hd => hw d ((by decide +kernel : ∀ d ∈ StrChars.Road.wordsChN, d ∈ tables_1) d hd)
theorem hws_sa {Z : State} {a0 : Array Value} (hw : ∀ d ∈ tables_1, d.before a0 Z = true) : ∀ d ∈ Bundle.stringAtoms, d.before a0 Z = true := fun d hd => hw d ((by decide +kernel : ∀ d ∈ Bundle.stringAtoms, d ∈ tables_1) d hd)
theorem u_all {P : Nat → Prop} {M : Nat} (h : ∀ k : Fin (M + 1), P k.val) {n : Nat} (hn : n ≤ M) : P n := h ⟨n, by omega⟩
theorem u_shl {n : Nat} (hn : n ≤ 4) : (Int32.ofNat n) <<< ((1 : Int32) &&& 31) = Int32.ofNat (2 * n) := u_all (P := fun n => (Int32.ofNat n) <<< ((1 : Int32) &&& 31) = Int32.ofNat (2 * n)) (M := 4) (by decide +kernel) hn
theorem u_cod {n : Nat} (hn : n ≤ 4) (h0 : 0 < n) : XT.ushr (Int32.ofNat n - Int32.ofNat (2 * n)) (31 : Int32) = 1 := u_all (P := fun n => 0 < n → XT.ushr (Int32.ofNat n - Int32.ofNat (2 * n)) (31 : Int32) = 1) (M := 4) (by decide +kernel) hn h0
theorem u_big {n : Nat} (hn : n ≤ 4) : Int32.ofNat n < (1073741823 : Int32) := u_all (P := fun n => Int32.ofNat n < (1073741823 : Int32)) (M := 4) (by decide +kernel) hn
theorem u_nn {n : Nat} (hn : n ≤ 8000) : ¬ Int32.ofNat n < 0 := by
  rw [Int32.lt_iff_toInt_lt, len_toInt (n := n) (by omega)]; show ¬ ((n : Int) < 0); omega
theorem u_cl {n : Nat} (hn : n ≤ 8000) : (Int32.ofNat n).toNatClampNeg = n := Int32.toNatClampNeg_ofNat_of_lt (by omega)
theorem u_lt {i n : Nat} (h : i < n) (hn : n ≤ 8000) : Int32.ofNat i < Int32.ofNat n := by
  rw [Int32.lt_iff_toInt_lt, len_toInt (n := i) (by omega), len_toInt (n := n) (by omega)]; omega
theorem u_nlt {n : Nat} : ¬ Int32.ofNat n < Int32.ofNat n := by rw [Int32.lt_iff_toInt_lt]; omega
theorem u_ne {i n : Nat} (h : i ≠ n) (hi : i ≤ 8000) (hn : n ≤ 8000) : ¬ Int32.ofNat i = Int32.ofNat n := fun r => h (by
  have e := congrArg Int32.toInt r
  rw [len_toInt (n := i) (by omega), len_toInt (n := n) (by omega)] at e; omega)
theorem u_ne0 {n : Nat} (h : 0 < n) (hn : n ≤ 8000) : ¬ Int32.ofNat n = 0 := u_ne (n := 0) (by omega) hn (by omega)
theorem u_succ (i : Nat) : Int32.ofNat i + (1 : Int32) = Int32.ofNat (i + 1) := (Int32.ofNat_add i 1).symm
theorem u_lo (x : Int32) : nar .byte (nar .byte x) = StrChars.lo8 x := by
  show x.toInt8.toInt32.toInt8.toInt32 = x.toInt8.toInt32
  simp
theorem u_put (vs : List Value) (c : Int32) : (vs ++ [Value.int (nar .byte (nar .byte (c >>> ((0 : Int32) &&& 31))))]) ++ [Value.int (nar .byte (nar .byte (c >>> ((8 : Int32) &&& 31))))] = vs ++ [Value.int (StrChars.lo8 c), Value.int (StrChars.hi8 c)] := by
  rw [u_lo, u_lo, StrChars.shr0, List.append_assoc]; rfl
theorem u_wide (cs : List Int32) : (StrChars.Road.wideBytes cs).length = 2 * cs.length := by
  induction cs with
  | nil => rfl
  | cons c cs ih => show (StrChars.Road.wideBytes cs).length + 1 + 1 = 2 * (cs.length + 1); omega
theorem u_wapp (cs ds : List Int32) : StrChars.Road.wideBytes (cs ++ ds) = StrChars.Road.wideBytes cs ++ StrChars.Road.wideBytes ds := by
  induction cs with
  | nil => rfl
  | cons c cs ih => show _ :: _ :: StrChars.Road.wideBytes (cs ++ ds) = _ :: _ :: (StrChars.Road.wideBytes cs ++ StrChars.Road.wideBytes ds); rw [ih]
theorem u_take {cs : List Int32} {i : Nat} (hi : i < cs.length) : StrChars.Road.wideBytes (cs.take i) ++ [Value.int (StrChars.lo8 (cs.getD i 0)), Value.int (StrChars.hi8 (cs.getD i 0))] = StrChars.Road.wideBytes (cs.take (i + 1)) := by
  have e : cs.getD i 0 = cs[i] := by simp [List.getD_eq_getElem?_getD, hi]
  rw [List.take_succ_eq_append_getElem hi, u_wapp, e]; rfl
theorem u_mem {cs : List Int32} {i : Nat} (hi : i < cs.length) {P : Int32 → Prop} (h : ∀ c ∈ cs, P c) : P (cs.getD i 0) := by
  have e : cs.getD i 0 = cs[i] := by simp [List.getD_eq_getElem?_getD, hi]
  rw [e]; exact h _ (List.getElem_mem _)
theorem u_map {cs : List Int32} {i : Nat} (hi : i < cs.length) (d : Value) : (cs.map Value.int).getD i d = .int (cs.getD i 0) := by
  simp [List.getD_eq_getElem?_getD, hi]
theorem u_none {cs : List Int32} (h : ∀ j, j < cs.length → ¬ (255 : Int32) < cs.getD j 0) : ¬ ∃ c ∈ cs, (255 : Int32) < c := by
  rintro ⟨c, hc, hbig⟩
  obtain ⟨j, hj, rfl⟩ := List.getElem_of_mem hc
  have e : cs.getD j 0 = cs[j] := by simp [List.getD_eq_getElem?_getD, hj]
  have := h j hj
  rw [e] at this; exact this hbig
theorem u_pair {c : Int32} (h : ¬ c < 0 ∧ ¬ (65535 : Int32) < c) : nar .char (nar .char (((StrChars.lo8 c &&& (255 : Int32)) <<< ((0 : Int32) &&& 31)) ||| ((StrChars.hi8 c &&& (255 : Int32)) <<< ((8 : Int32) &&& 31)))) = c := by
  show nar .char (StrChars.pairCh (StrChars.lo8 c) (StrChars.hi8 c)) = c
  rw [StrChars.pair_says h.1 h.2]; exact nar_id h.1 h.2
theorem u_ref {v : Value} (h : v.isRef = true) : v = .null ∨ ∃ a, v = .ref a := by
  cases v <;> simp_all [Value.isRef]
theorem u_char (x : Int32) : ¬ nar .char x < 0 ∧ ¬ (65535 : Int32) < nar .char x := by
  have q := c_i2c x
  have e1 : (65535 : Int32).toInt = 65535 := rfl
  have e2 : (0 : Int32).toInt = 0 := rfl
  have e : (nar .char x).toInt = x.toUInt32.toUInt16.toUInt32.toInt32.toInt := rfl
  rw [Int32.lt_iff_toInt_lt, Int32.lt_iff_toInt_lt, e]; omega
theorem own_n (x : Int32) : (1 : Int32) + (x &&& (3 : Int32)) = 1 ∨ (1 : Int32) + (x &&& (3 : Int32)) = 2 ∨ (1 : Int32) + (x &&& (3 : Int32)) = 3 ∨ (1 : Int32) + (x &&& (3 : Int32)) = 4 := by
  have q := c_and x 3 (by decide)
  have e3 : (3 : Int32).toInt = 3 := rfl
  generalize x &&& (3 : Int32) = y at q
  have : y = 0 ∨ y = 1 ∨ y = 2 ∨ y = 3 := by
    have h : y.toInt = 0 ∨ y.toInt = 1 ∨ y.toInt = 2 ∨ y.toInt = 3 := by omega
    rcases h with h | h | h | h
    · exact Or.inl (Int32.toInt_inj.mp h)
    · exact Or.inr (Or.inl (Int32.toInt_inj.mp h))
    · exact Or.inr (Or.inr (Or.inl (Int32.toInt_inj.mp h)))
    · exact Or.inr (Or.inr (Or.inr (Int32.toInt_inj.mp h)))
  rcases this with rfl | rfl | rfl | rfl <;> decide
def Base (Z : State) (a0 : Array Value) (zc : Int32) (fm : Value) : Prop := (∀ d ∈ tables_1, d.before a0 Z = true) ∧ (Sta Z Z.heap "java/lang/String" "COMPACT_STRINGS" "Z" (.int zc)) ∧ (¬ zc = 0) ∧ (Sta Z Z.heap "jdk/internal/util/Preconditions" "SIOOBE_FORMATTER" "Ljava/util/function/BiFunction;" fm) ∧ (fm.isRef = true) ∧ (Sta Z Z.heap "java/lang/StringUTF16" "$assertionsDisabled" "Z" (.int 1)) ∧ (Sta Z Z.heap "java/lang/StringUTF16" "HI_BYTE_SHIFT" "I" (.int 0)) ∧ (Sta Z Z.heap "java/lang/StringUTF16" "LO_BYTE_SHIFT" "I" (.int 8))
theorem ef_c_put (m : MethodId) (x0 : Addr) (x1 : Int32) (x2 : Int32) : entryFrame m #[(.ref x0), (.int x1), (.int x2)] 3 = mkF m 0 #[.val (.ref x0), .val (.int x1), .val (.int x2)] [] := by first | (simp [entryFrame, mkF, argsToLocals, Value.category]; done) | rfl
theorem pn_java_lang_StringUTF16 : plainName "java/lang/StringUTF16" = true := by first | (simp [plainName, overriddenIn]; done) | decide +kernel
theorem d_jdk_52_m4_0 : decode jdk_52_method_4_code 0 = .ok (.getstatic 44, 3) := by decide +kernel
theorem d_jdk_52_m4_3 : decode jdk_52_method_4_code 3 = .ok (.ifCond .ne 25, 3) := by decide +kernel
theorem d_jdk_52_m4_28 : decode jdk_52_method_4_code 28 = .ok (.iload_n 1, 1) := by decide +kernel
theorem d_jdk_52_m4_29 : decode jdk_52_method_4_code 29 = .ok (.iconst 1, 1) := by decide +kernel
theorem d_jdk_52_m4_30 : decode jdk_52_method_4_code 30 = .ok (.ishl, 1) := by decide +kernel
theorem d_jdk_52_m4_31 : decode jdk_52_method_4_code 31 = .ok (.istore_n 1, 1) := by decide +kernel
theorem d_jdk_52_m4_32 : decode jdk_52_method_4_code 32 = .ok (.aload_n 0, 1) := by decide +kernel
theorem d_jdk_52_m4_33 : decode jdk_52_method_4_code 33 = .ok (.iload_n 1, 1) := by decide +kernel
theorem d_jdk_52_m4_34 : decode jdk_52_method_4_code 34 = .ok (.iinc 1 1, 3) := by decide +kernel
theorem d_jdk_52_m4_37 : decode jdk_52_method_4_code 37 = .ok (.iload_n 2, 1) := by decide +kernel
theorem d_jdk_52_m4_38 : decode jdk_52_method_4_code 38 = .ok (.getstatic 59, 3) := by decide +kernel
theorem d_jdk_52_m4_41 : decode jdk_52_method_4_code 41 = .ok (.ishr, 1) := by decide +kernel
theorem d_jdk_52_m4_42 : decode jdk_52_method_4_code 42 = .ok (.i2b, 1) := by decide +kernel
theorem d_jdk_52_m4_43 : decode jdk_52_method_4_code 43 = .ok (.bastore, 1) := by decide +kernel
theorem d_jdk_52_m4_44 : decode jdk_52_method_4_code 44 = .ok (.aload_n 0, 1) := by decide +kernel
theorem d_jdk_52_m4_45 : decode jdk_52_method_4_code 45 = .ok (.iload_n 1, 1) := by decide +kernel
theorem d_jdk_52_m4_46 : decode jdk_52_method_4_code 46 = .ok (.iload_n 2, 1) := by decide +kernel
theorem d_jdk_52_m4_47 : decode jdk_52_method_4_code 47 = .ok (.getstatic 63, 3) := by decide +kernel
theorem d_jdk_52_m4_50 : decode jdk_52_method_4_code 50 = .ok (.ishr, 1) := by decide +kernel
theorem d_jdk_52_m4_51 : decode jdk_52_method_4_code 51 = .ok (.i2b, 1) := by decide +kernel
theorem d_jdk_52_m4_52 : decode jdk_52_method_4_code 52 = .ok (.bastore, 1) := by decide +kernel
theorem d_jdk_52_m4_53 : decode jdk_52_method_4_code 53 = .ok (.return_, 1) := by decide +kernel
theorem ef_c_getc (m : MethodId) (x0 : Addr) (x1 : Int32) : entryFrame m #[(.ref x0), (.int x1)] 2 = mkF m 0 #[.val (.ref x0), .val (.int x1)] [] := by first | (simp [entryFrame, mkF, argsToLocals, Value.category]; done) | rfl
theorem d_jdk_52_m5_0 : decode jdk_52_method_5_code 0 = .ok (.getstatic 44, 3) := by decide +kernel
theorem d_jdk_52_m5_3 : decode jdk_52_method_5_code 3 = .ok (.ifCond .ne 25, 3) := by decide +kernel
theorem d_jdk_52_m5_28 : decode jdk_52_method_5_code 28 = .ok (.iload_n 1, 1) := by decide +kernel
theorem d_jdk_52_m5_29 : decode jdk_52_method_5_code 29 = .ok (.iconst 1, 1) := by decide +kernel
theorem d_jdk_52_m5_30 : decode jdk_52_method_5_code 30 = .ok (.ishl, 1) := by decide +kernel
theorem d_jdk_52_m5_31 : decode jdk_52_method_5_code 31 = .ok (.istore_n 1, 1) := by decide +kernel
theorem d_jdk_52_m5_32 : decode jdk_52_method_5_code 32 = .ok (.aload_n 0, 1) := by decide +kernel
theorem d_jdk_52_m5_33 : decode jdk_52_method_5_code 33 = .ok (.iload_n 1, 1) := by decide +kernel
theorem d_jdk_52_m5_34 : decode jdk_52_method_5_code 34 = .ok (.iinc 1 1, 3) := by decide +kernel
theorem d_jdk_52_m5_37 : decode jdk_52_method_5_code 37 = .ok (.baload, 1) := by decide +kernel
theorem d_jdk_52_m5_38 : decode jdk_52_method_5_code 38 = .ok (.sipush 255, 3) := by decide +kernel
theorem d_jdk_52_m5_41 : decode jdk_52_method_5_code 41 = .ok (.iand, 1) := by decide +kernel
theorem d_jdk_52_m5_42 : decode jdk_52_method_5_code 42 = .ok (.getstatic 59, 3) := by decide +kernel
theorem d_jdk_52_m5_45 : decode jdk_52_method_5_code 45 = .ok (.ishl, 1) := by decide +kernel
theorem d_jdk_52_m5_46 : decode jdk_52_method_5_code 46 = .ok (.aload_n 0, 1) := by decide +kernel
theorem d_jdk_52_m5_47 : decode jdk_52_method_5_code 47 = .ok (.iload_n 1, 1) := by decide +kernel
theorem d_jdk_52_m5_48 : decode jdk_52_method_5_code 48 = .ok (.baload, 1) := by decide +kernel
theorem d_jdk_52_m5_49 : decode jdk_52_method_5_code 49 = .ok (.sipush 255, 3) := by decide +kernel
theorem d_jdk_52_m5_52 : decode jdk_52_method_5_code 52 = .ok (.iand, 1) := by decide +kernel
theorem d_jdk_52_m5_53 : decode jdk_52_method_5_code 53 = .ok (.getstatic 63, 3) := by decide +kernel
theorem d_jdk_52_m5_56 : decode jdk_52_method_5_code 56 = .ok (.ishl, 1) := by decide +kernel
theorem d_jdk_52_m5_57 : decode jdk_52_method_5_code 57 = .ok (.ior, 1) := by decide +kernel
theorem d_jdk_52_m5_58 : decode jdk_52_method_5_code 58 = .ok (.i2c, 1) := by decide +kernel
theorem d_jdk_52_m5_59 : decode jdk_52_method_5_code 59 = .ok (.ireturn, 1) := by decide +kernel
theorem ef_c_nbl (m : MethodId) (x0 : Int32) : entryFrame m #[(.int x0)] 1 = mkF m 0 #[.val (.int x0)] [] := by first | (simp [entryFrame, mkF, argsToLocals, Value.category]; done) | rfl
theorem d_jdk_52_m3_0 : decode jdk_52_method_3_code 0 = .ok (.iload_n 0, 1) := by decide +kernel
theorem d_jdk_52_m3_1 : decode jdk_52_method_3_code 1 = .ok (.ifCond .ge 11, 3) := by decide +kernel
theorem d_jdk_52_m3_12 : decode jdk_52_method_3_code 12 = .ok (.iload_n 0, 1) := by decide +kernel
theorem d_jdk_52_m3_13 : decode jdk_52_method_3_code 13 = .ok (.ldc 20, 2) := by decide +kernel
theorem d_jdk_52_m3_15 : decode jdk_52_method_3_code 15 = .ok (.if_icmp .lt 40, 3) := by decide +kernel
theorem d_jdk_52_m3_55 : decode jdk_52_method_3_code 55 = .ok (.iload_n 0, 1) := by decide +kernel
theorem d_jdk_52_m3_56 : decode jdk_52_method_3_code 56 = .ok (.iconst 1, 1) := by decide +kernel
theorem d_jdk_52_m3_57 : decode jdk_52_method_3_code 57 = .ok (.ishl, 1) := by decide +kernel
theorem d_jdk_52_m3_58 : decode jdk_52_method_3_code 58 = .ok (.ireturn, 1) := by decide +kernel
theorem ef_c_nbf (m : MethodId) (x0 : Int32) : entryFrame m #[(.int x0)] 1 = mkF m 0 #[.val (.int x0)] [] := by first | (simp [entryFrame, mkF, argsToLocals, Value.category]; done) | rfl
theorem d_jdk_52_m2_0 : decode jdk_52_method_2_code 0 = .ok (.iload_n 0, 1) := by decide +kernel
theorem d_jdk_52_m2_1 : decode jdk_52_method_2_code 1 = .ok (.invokestatic 11, 3) := by decide +kernel
theorem pd__I_I : parseMethodDescriptor "(I)I" = some ⟨[.int], some .int⟩ := by decide +kernel
theorem d_jdk_52_m2_4 : decode jdk_52_method_2_code 4 = .ok (.newarray .byte, 2) := by decide +kernel
theorem d_jdk_52_m2_6 : decode jdk_52_method_2_code 6 = .ok (.areturn, 1) := by decide +kernel
theorem ef_c_tob (m : MethodId) (x0 : Addr) (x1 : Int32) (x2 : Int32) : entryFrame m #[(.ref x0), (.int x1), (.int x2)] 5 = mkF m 0 #[.val (.ref x0), .val (.int x1), .val (.int x2), .unset, .unset] [] := by first | (simp [entryFrame, mkF, argsToLocals, Value.category]; done) | rfl
theorem d_jdk_52_m14_0 : decode jdk_52_method_14_code 0 = .ok (.iload_n 2, 1) := by decide +kernel
theorem d_jdk_52_m14_1 : decode jdk_52_method_14_code 1 = .ok (.invokestatic 107, 3) := by decide +kernel
theorem pd__I_AB : parseMethodDescriptor "(I)[B" = some ⟨[.int], some (.array .byte)⟩ := by decide +kernel
theorem d_jdk_52_m14_4 : decode jdk_52_method_14_code 4 = .ok (.astore_n 3, 1) := by decide +kernel
theorem d_jdk_52_m14_5 : decode jdk_52_method_14_code 5 = .ok (.iconst 0, 1) := by decide +kernel
theorem d_jdk_52_m14_6 : decode jdk_52_method_14_code 6 = .ok (.istore 4, 2) := by decide +kernel
theorem d_jdk_52_m14_8 : decode jdk_52_method_14_code 8 = .ok (.iload 4, 2) := by decide +kernel
theorem d_jdk_52_m14_10 : decode jdk_52_method_14_code 10 = .ok (.iload_n 2, 1) := by decide +kernel
theorem d_jdk_52_m14_11 : decode jdk_52_method_14_code 11 = .ok (.if_icmp .ge 21, 3) := by decide +kernel
theorem d_jdk_52_m14_32 : decode jdk_52_method_14_code 32 = .ok (.aload_n 3, 1) := by decide +kernel
theorem d_jdk_52_m14_33 : decode jdk_52_method_14_code 33 = .ok (.areturn, 1) := by decide +kernel
theorem d_jdk_52_m14_14 : decode jdk_52_method_14_code 14 = .ok (.aload_n 3, 1) := by decide +kernel
theorem d_jdk_52_m14_15 : decode jdk_52_method_14_code 15 = .ok (.iload 4, 2) := by decide +kernel
theorem d_jdk_52_m14_17 : decode jdk_52_method_14_code 17 = .ok (.aload_n 0, 1) := by decide +kernel
theorem d_jdk_52_m14_18 : decode jdk_52_method_14_code 18 = .ok (.iload_n 1, 1) := by decide +kernel
theorem d_jdk_52_m14_19 : decode jdk_52_method_14_code 19 = .ok (.caload, 1) := by decide +kernel
theorem d_jdk_52_m14_20 : decode jdk_52_method_14_code 20 = .ok (.invokestatic 111, 3) := by decide +kernel
theorem pd__ABII_V : parseMethodDescriptor "([BII)V" = some ⟨[(.array .byte), .int, .int], none⟩ := by decide +kernel
theorem d_jdk_52_m14_23 : decode jdk_52_method_14_code 23 = .ok (.iinc 1 1, 3) := by decide +kernel
theorem d_jdk_52_m14_26 : decode jdk_52_method_14_code 26 = .ok (.iinc 4 1, 3) := by decide +kernel
theorem d_jdk_52_m14_29 : decode jdk_52_method_14_code 29 = .ok (.goto (-21), 3) := by decide +kernel
theorem ef_c_cmp5 (m : MethodId) (x0 : Addr) (x1 : Int32) (x2 : Addr) (x3 : Int32) (x4 : Int32) : entryFrame m #[(.ref x0), (.int x1), (.ref x2), (.int x3), (.int x4)] 7 = mkF m 0 #[.val (.ref x0), .val (.int x1), .val (.ref x2), .val (.int x3), .val (.int x4), .unset, .unset] [] := by first | (simp [entryFrame, mkF, argsToLocals, Value.category]; done) | rfl
theorem d_jdk_52_m21_0 : decode jdk_52_method_21_code 0 = .ok (.iconst 0, 1) := by decide +kernel
theorem d_jdk_52_m21_1 : decode jdk_52_method_21_code 1 = .ok (.istore 5, 2) := by decide +kernel
theorem d_jdk_52_m21_3 : decode jdk_52_method_21_code 3 = .ok (.iload 5, 2) := by decide +kernel
theorem d_jdk_52_m21_5 : decode jdk_52_method_21_code 5 = .ok (.iload 4, 2) := by decide +kernel
theorem d_jdk_52_m21_7 : decode jdk_52_method_21_code 7 = .ok (.if_icmp .ge 37, 3) := by decide +kernel
theorem d_jdk_52_m21_10 : decode jdk_52_method_21_code 10 = .ok (.aload_n 0, 1) := by decide +kernel
theorem d_jdk_52_m21_11 : decode jdk_52_method_21_code 11 = .ok (.iload_n 1, 1) := by decide +kernel
theorem d_jdk_52_m21_12 : decode jdk_52_method_21_code 12 = .ok (.caload, 1) := by decide +kernel
theorem d_jdk_52_m21_13 : decode jdk_52_method_21_code 13 = .ok (.istore 6, 2) := by decide +kernel
theorem d_jdk_52_m21_15 : decode jdk_52_method_21_code 15 = .ok (.iload 6, 2) := by decide +kernel
theorem d_jdk_52_m21_17 : decode jdk_52_method_21_code 17 = .ok (.sipush 255, 3) := by decide +kernel
theorem d_jdk_52_m21_20 : decode jdk_52_method_21_code 20 = .ok (.if_icmp .le 6, 3) := by decide +kernel
theorem d_jdk_52_m21_23 : decode jdk_52_method_21_code 23 = .ok (.iload 5, 2) := by decide +kernel
theorem d_jdk_52_m21_25 : decode jdk_52_method_21_code 25 = .ok (.ireturn, 1) := by decide +kernel
theorem d_jdk_52_m21_26 : decode jdk_52_method_21_code 26 = .ok (.aload_n 2, 1) := by decide +kernel
theorem d_jdk_52_m21_27 : decode jdk_52_method_21_code 27 = .ok (.iload_n 3, 1) := by decide +kernel
theorem d_jdk_52_m21_28 : decode jdk_52_method_21_code 28 = .ok (.iload 6, 2) := by decide +kernel
theorem d_jdk_52_m21_30 : decode jdk_52_method_21_code 30 = .ok (.i2b, 1) := by decide +kernel
theorem d_jdk_52_m21_31 : decode jdk_52_method_21_code 31 = .ok (.bastore, 1) := by decide +kernel
theorem d_jdk_52_m21_32 : decode jdk_52_method_21_code 32 = .ok (.iinc 1 1, 3) := by decide +kernel
theorem d_jdk_52_m21_35 : decode jdk_52_method_21_code 35 = .ok (.iinc 3 1, 3) := by decide +kernel
theorem d_jdk_52_m21_38 : decode jdk_52_method_21_code 38 = .ok (.iinc 5 1, 3) := by decide +kernel
theorem d_jdk_52_m21_41 : decode jdk_52_method_21_code 41 = .ok (.goto (-38), 3) := by decide +kernel
theorem ef_c_cmp3 (m : MethodId) (x0 : Addr) (x1 : Int32) (x2 : Int32) : entryFrame m #[(.ref x0), (.int x1), (.int x2)] 6 = mkF m 0 #[.val (.ref x0), .val (.int x1), .val (.int x2), .unset, .unset, .unset] [] := by first | (simp [entryFrame, mkF, argsToLocals, Value.category]; done) | rfl
theorem d_jdk_52_m16_0 : decode jdk_52_method_16_code 0 = .ok (.iload_n 2, 1) := by decide +kernel
theorem d_jdk_52_m16_1 : decode jdk_52_method_16_code 1 = .ok (.newarray .byte, 2) := by decide +kernel
theorem d_jdk_52_m16_3 : decode jdk_52_method_16_code 3 = .ok (.astore_n 3, 1) := by decide +kernel
theorem d_jdk_52_m16_4 : decode jdk_52_method_16_code 4 = .ok (.aload_n 0, 1) := by decide +kernel
theorem d_jdk_52_m16_5 : decode jdk_52_method_16_code 5 = .ok (.iload_n 1, 1) := by decide +kernel
theorem d_jdk_52_m16_6 : decode jdk_52_method_16_code 6 = .ok (.aload_n 3, 1) := by decide +kernel
theorem d_jdk_52_m16_7 : decode jdk_52_method_16_code 7 = .ok (.iconst 0, 1) := by decide +kernel
theorem d_jdk_52_m16_8 : decode jdk_52_method_16_code 8 = .ok (.iload_n 2, 1) := by decide +kernel
theorem d_jdk_52_m16_9 : decode jdk_52_method_16_code 9 = .ok (.invokestatic 115, 3) := by decide +kernel
theorem pd__ACIABII_I : parseMethodDescriptor "([CI[BII)I" = some ⟨[(.array .char), .int, (.array .byte), .int, .int], some .int⟩ := by decide +kernel
theorem d_jdk_52_m16_12 : decode jdk_52_method_16_code 12 = .ok (.istore 4, 2) := by decide +kernel
theorem d_jdk_52_m16_14 : decode jdk_52_method_16_code 14 = .ok (.iload 4, 2) := by decide +kernel
theorem d_jdk_52_m16_16 : decode jdk_52_method_16_code 16 = .ok (.iload_n 2, 1) := by decide +kernel
theorem d_jdk_52_m16_17 : decode jdk_52_method_16_code 17 = .ok (.if_icmp .eq 40, 3) := by decide +kernel
theorem d_jdk_52_m16_20 : decode jdk_52_method_16_code 20 = .ok (.aload_n 0, 1) := by decide +kernel
theorem d_jdk_52_m16_21 : decode jdk_52_method_16_code 21 = .ok (.iload_n 1, 1) := by decide +kernel
theorem d_jdk_52_m16_22 : decode jdk_52_method_16_code 22 = .ok (.iload_n 2, 1) := by decide +kernel
theorem d_jdk_52_m16_23 : decode jdk_52_method_16_code 23 = .ok (.invokestatic 119, 3) := by decide +kernel
theorem pd__ACII_AB : parseMethodDescriptor "([CII)[B" = some ⟨[(.array .char), .int, .int], some (.array .byte)⟩ := by decide +kernel
theorem d_jdk_52_m16_26 : decode jdk_52_method_16_code 26 = .ok (.astore 5, 2) := by decide +kernel
theorem d_jdk_52_m16_28 : decode jdk_52_method_16_code 28 = .ok (.aload 5, 2) := by decide +kernel
theorem d_jdk_52_m16_30 : decode jdk_52_method_16_code 30 = .ok (.iload 4, 2) := by decide +kernel
theorem d_jdk_52_m16_32 : decode jdk_52_method_16_code 32 = .ok (.invokestatic 71, 3) := by decide +kernel
theorem pd__ABI_C : parseMethodDescriptor "([BI)C" = some ⟨[(.array .byte), .int], some .char⟩ := by decide +kernel
theorem d_jdk_52_m16_35 : decode jdk_52_method_16_code 35 = .ok (.sipush 255, 3) := by decide +kernel
theorem d_jdk_52_m16_38 : decode jdk_52_method_16_code 38 = .ok (.if_icmp .gt 16, 3) := by decide +kernel
theorem d_jdk_52_m16_54 : decode jdk_52_method_16_code 54 = .ok (.aload 5, 2) := by decide +kernel
theorem d_jdk_52_m16_56 : decode jdk_52_method_16_code 56 = .ok (.areturn, 1) := by decide +kernel
theorem ef_c_codl (m : MethodId) (x0 : Addr) (x1 : Int32) : entryFrame m #[(.ref x0), (.int x1)] 2 = mkF m 0 #[.val (.ref x0), .val (.int x1)] [] := by first | (simp [entryFrame, mkF, argsToLocals, Value.category]; done) | rfl
theorem d_jdk_52_m15_0 : decode jdk_52_method_15_code 0 = .ok (.iload_n 1, 1) := by decide +kernel
theorem d_jdk_52_m15_1 : decode jdk_52_method_15_code 1 = .ok (.aload_n 0, 1) := by decide +kernel
theorem d_jdk_52_m15_2 : decode jdk_52_method_15_code 2 = .ok (.arraylength, 1) := by decide +kernel
theorem d_jdk_52_m15_3 : decode jdk_52_method_15_code 3 = .ok (.isub, 1) := by decide +kernel
theorem d_jdk_52_m15_4 : decode jdk_52_method_15_code 4 = .ok (.bipush 31, 2) := by decide +kernel
theorem d_jdk_52_m15_6 : decode jdk_52_method_15_code 6 = .ok (.iushr, 1) := by decide +kernel
theorem d_jdk_52_m15_7 : decode jdk_52_method_15_code 7 = .ok (.i2b, 1) := by decide +kernel
theorem d_jdk_52_m15_8 : decode jdk_52_method_15_code 8 = .ok (.ireturn, 1) := by decide +kernel
theorem ef_c_nwu4 (m : MethodId) (x0 : Addr) (x1 : Addr) (x2 : Int32) (x3 : Int32) : entryFrame m #[(.ref x0), (.ref x1), (.int x2), (.int x3), .null] 6 = mkF m 0 #[.val (.ref x0), .val (.ref x1), .val (.int x2), .val (.int x3), .val .null, .unset] [] := by first | (simp [entryFrame, mkF, argsToLocals, Value.category]; done) | rfl
theorem pn_java_lang_String : plainName "java/lang/String" = true := by first | (simp [plainName, overriddenIn]; done) | decide +kernel
theorem d_jdk_42_m149_0 : decode jdk_42_method_149_code 0 = .ok (.aload_n 0, 1) := by decide +kernel
theorem d_jdk_42_m149_1 : decode jdk_42_method_149_code 1 = .ok (.invokespecial 1, 3) := by decide +kernel
theorem d_jdk_42_m149_4 : decode jdk_42_method_149_code 4 = .ok (.iload_n 3, 1) := by decide +kernel
theorem d_jdk_42_m149_5 : decode jdk_42_method_149_code 5 = .ok (.ifCond .ne 22, 3) := by decide +kernel
theorem d_jdk_42_m149_27 : decode jdk_42_method_149_code 27 = .ok (.getstatic 38, 3) := by decide +kernel
theorem d_jdk_42_m149_30 : decode jdk_42_method_149_code 30 = .ok (.ifCond .eq 28, 3) := by decide +kernel
theorem d_jdk_42_m149_33 : decode jdk_42_method_149_code 33 = .ok (.aload_n 1, 1) := by decide +kernel
theorem d_jdk_42_m149_34 : decode jdk_42_method_149_code 34 = .ok (.iload_n 2, 1) := by decide +kernel
theorem d_jdk_42_m149_35 : decode jdk_42_method_149_code 35 = .ok (.iload_n 3, 1) := by decide +kernel
theorem d_jdk_42_m149_36 : decode jdk_42_method_149_code 36 = .ok (.invokestatic 177, 3) := by decide +kernel
theorem d_jdk_42_m149_39 : decode jdk_42_method_149_code 39 = .ok (.astore 5, 2) := by decide +kernel
theorem d_jdk_42_m149_41 : decode jdk_42_method_149_code 41 = .ok (.aload_n 0, 1) := by decide +kernel
theorem d_jdk_42_m149_42 : decode jdk_42_method_149_code 42 = .ok (.aload 5, 2) := by decide +kernel
theorem d_jdk_42_m149_44 : decode jdk_42_method_149_code 44 = .ok (.iload_n 3, 1) := by decide +kernel
theorem d_jdk_42_m149_45 : decode jdk_42_method_149_code 45 = .ok (.invokestatic 47, 3) := by decide +kernel
theorem pd__ABI_B : parseMethodDescriptor "([BI)B" = some ⟨[(.array .byte), .int], some .byte⟩ := by decide +kernel
theorem d_jdk_42_m149_48 : decode jdk_42_method_149_code 48 = .ok (.putfield 15, 3) := by decide +kernel
theorem d_jdk_42_m149_51 : decode jdk_42_method_149_code 51 = .ok (.aload_n 0, 1) := by decide +kernel
theorem d_jdk_42_m149_52 : decode jdk_42_method_149_code 52 = .ok (.aload 5, 2) := by decide +kernel
theorem d_jdk_42_m149_54 : decode jdk_42_method_149_code 54 = .ok (.putfield 9, 3) := by decide +kernel
theorem d_jdk_42_m149_57 : decode jdk_42_method_149_code 57 = .ok (.return_, 1) := by decide +kernel
theorem ef_c_nwu1 (m : MethodId) (x0 : Addr) (x1 : Addr) : entryFrame m #[(.ref x0), (.ref x1)] 2 = mkF m 0 #[.val (.ref x0), .val (.ref x1)] [] := by first | (simp [entryFrame, mkF, argsToLocals, Value.category]; done) | rfl
theorem d_jdk_42_m3_0 : decode jdk_42_method_3_code 0 = .ok (.aload_n 0, 1) := by decide +kernel
theorem d_jdk_42_m3_1 : decode jdk_42_method_3_code 1 = .ok (.aload_n 1, 1) := by decide +kernel
theorem d_jdk_42_m3_2 : decode jdk_42_method_3_code 2 = .ok (.iconst 0, 1) := by decide +kernel
theorem d_jdk_42_m3_3 : decode jdk_42_method_3_code 3 = .ok (.aload_n 1, 1) := by decide +kernel
theorem d_jdk_42_m3_4 : decode jdk_42_method_3_code 4 = .ok (.arraylength, 1) := by decide +kernel
theorem d_jdk_42_m3_5 : decode jdk_42_method_3_code 5 = .ok (.aconst_null, 1) := by decide +kernel
theorem d_jdk_42_m3_6 : decode jdk_42_method_3_code 6 = .ok (.invokespecial 27, 3) := by decide +kernel
theorem pd__ACIILjava_lang_Void__V : parseMethodDescriptor "([CIILjava/lang/Void;)V" = some ⟨[(.array .char), .int, .int, (.object "java/lang/Void")], none⟩ := by decide +kernel
theorem d_jdk_42_m3_9 : decode jdk_42_method_3_code 9 = .ok (.return_, 1) := by decide +kernel
theorem ef_c_isl1 (m : MethodId) (x0 : Addr) : entryFrame m #[(.ref x0)] 1 = mkF m 0 #[.val (.ref x0)] [] := by first | (simp [entryFrame, mkF, argsToLocals, Value.category]; done) | rfl
theorem d_jdk_42_m154_0 : decode jdk_42_method_154_code 0 = .ok (.getstatic 38, 3) := by decide +kernel
theorem d_jdk_42_m154_3 : decode jdk_42_method_154_code 3 = .ok (.ifCond .eq 14, 3) := by decide +kernel
theorem d_jdk_42_m154_6 : decode jdk_42_method_154_code 6 = .ok (.aload_n 0, 1) := by decide +kernel
theorem d_jdk_42_m154_7 : decode jdk_42_method_154_code 7 = .ok (.getfield 15, 3) := by decide +kernel
theorem d_jdk_42_m154_10 : decode jdk_42_method_154_code 10 = .ok (.ifCond .ne 7, 3) := by decide +kernel
theorem d_jdk_42_m154_17 : decode jdk_42_method_154_code 17 = .ok (.iconst 0, 1) := by decide +kernel
theorem d_jdk_42_m154_18 : decode jdk_42_method_154_code 18 = .ok (.ireturn, 1) := by decide +kernel
theorem ef_c_ulen (m : MethodId) (x0 : Addr) : entryFrame m #[(.ref x0)] 1 = mkF m 0 #[.val (.ref x0)] [] := by first | (simp [entryFrame, mkF, argsToLocals, Value.category]; done) | rfl
theorem d_jdk_52_m6_0 : decode jdk_52_method_6_code 0 = .ok (.aload_n 0, 1) := by decide +kernel
theorem d_jdk_52_m6_1 : decode jdk_52_method_6_code 1 = .ok (.arraylength, 1) := by decide +kernel
theorem d_jdk_52_m6_2 : decode jdk_52_method_6_code 2 = .ok (.iconst 1, 1) := by decide +kernel
theorem d_jdk_52_m6_3 : decode jdk_52_method_6_code 3 = .ok (.ishr, 1) := by decide +kernel
theorem d_jdk_52_m6_4 : decode jdk_52_method_6_code 4 = .ok (.ireturn, 1) := by decide +kernel
theorem ef_c_pciN (m : MethodId) (x0 : Int32) (x1 : Int32) : entryFrame m #[(.int x0), (.int x1), .null] 3 = mkF m 0 #[.val (.int x0), .val (.int x1), .val .null] [] := by first | (simp [entryFrame, mkF, argsToLocals, Value.category]; done) | rfl
theorem pn_jdk_internal_util_Preconditions : plainName "jdk/internal/util/Preconditions" = true := by first | (simp [plainName, overriddenIn]; done) | decide +kernel
theorem d_jdk_41_m11_0 : decode jdk_41_method_11_code 0 = .ok (.iload_n 0, 1) := by decide +kernel
theorem d_jdk_41_m11_1 : decode jdk_41_method_11_code 1 = .ok (.ifCond .lt 8, 3) := by decide +kernel
theorem d_jdk_41_m11_4 : decode jdk_41_method_11_code 4 = .ok (.iload_n 0, 1) := by decide +kernel
theorem d_jdk_41_m11_5 : decode jdk_41_method_11_code 5 = .ok (.iload_n 1, 1) := by decide +kernel
theorem d_jdk_41_m11_6 : decode jdk_41_method_11_code 6 = .ok (.if_icmp .lt 10, 3) := by decide +kernel
theorem d_jdk_41_m11_16 : decode jdk_41_method_11_code 16 = .ok (.iload_n 0, 1) := by decide +kernel
theorem d_jdk_41_m11_17 : decode jdk_41_method_11_code 17 = .ok (.ireturn, 1) := by decide +kernel
theorem ef_c_pciR (m : MethodId) (x0 : Int32) (x1 : Int32) (x2 : Addr) : entryFrame m #[(.int x0), (.int x1), (.ref x2)] 3 = mkF m 0 #[.val (.int x0), .val (.int x1), .val (.ref x2)] [] := by first | (simp [entryFrame, mkF, argsToLocals, Value.category]; done) | rfl
theorem ef_c_sci (m : MethodId) (x0 : Int32) (x1 : Int32) : entryFrame m #[(.int x0), (.int x1)] 2 = mkF m 0 #[.val (.int x0), .val (.int x1)] [] := by first | (simp [entryFrame, mkF, argsToLocals, Value.category]; done) | rfl
theorem d_jdk_42_m155_0 : decode jdk_42_method_155_code 0 = .ok (.iload_n 0, 1) := by decide +kernel
theorem d_jdk_42_m155_1 : decode jdk_42_method_155_code 1 = .ok (.iload_n 1, 1) := by decide +kernel
theorem d_jdk_42_m155_2 : decode jdk_42_method_155_code 2 = .ok (.getstatic 1053, 3) := by decide +kernel
theorem d_jdk_42_m155_5 : decode jdk_42_method_155_code 5 = .ok (.invokestatic 1059, 3) := by decide +kernel
theorem pd__IILjava_util_function_BiFunction__I : parseMethodDescriptor "(IILjava/util/function/BiFunction;)I" = some ⟨[.int, .int, (.object "java/util/function/BiFunction")], some .int⟩ := by decide +kernel
theorem d_jdk_42_m155_8 : decode jdk_42_method_155_code 8 = .ok (.pop, 1) := by decide +kernel
theorem d_jdk_42_m155_9 : decode jdk_42_method_155_code 9 = .ok (.return_, 1) := by decide +kernel
theorem ef_c_uci (m : MethodId) (x0 : Int32) (x1 : Addr) : entryFrame m #[(.int x0), (.ref x1)] 2 = mkF m 0 #[.val (.int x0), .val (.ref x1)] [] := by first | (simp [entryFrame, mkF, argsToLocals, Value.category]; done) | rfl
theorem d_jdk_52_m91_0 : decode jdk_52_method_91_code 0 = .ok (.iload_n 0, 1) := by decide +kernel
theorem d_jdk_52_m91_1 : decode jdk_52_method_91_code 1 = .ok (.aload_n 1, 1) := by decide +kernel
theorem d_jdk_52_m91_2 : decode jdk_52_method_91_code 2 = .ok (.invokestatic 48, 3) := by decide +kernel
theorem pd__AB_I : parseMethodDescriptor "([B)I" = some ⟨[(.array .byte)], some .int⟩ := by decide +kernel
theorem d_jdk_52_m91_5 : decode jdk_52_method_91_code 5 = .ok (.invokestatic 414, 3) := by decide +kernel
theorem pd__II_V : parseMethodDescriptor "(II)V" = some ⟨[.int, .int], none⟩ := by decide +kernel
theorem d_jdk_52_m91_8 : decode jdk_52_method_91_code 8 = .ok (.return_, 1) := by decide +kernel
theorem ef_c_uch (m : MethodId) (x0 : Addr) (x1 : Int32) : entryFrame m #[(.ref x0), (.int x1)] 2 = mkF m 0 #[.val (.ref x0), .val (.int x1)] [] := by first | (simp [entryFrame, mkF, argsToLocals, Value.category]; done) | rfl
theorem d_jdk_52_m83_0 : decode jdk_52_method_83_code 0 = .ok (.iload_n 1, 1) := by decide +kernel
theorem d_jdk_52_m83_1 : decode jdk_52_method_83_code 1 = .ok (.aload_n 0, 1) := by decide +kernel
theorem d_jdk_52_m83_2 : decode jdk_52_method_83_code 2 = .ok (.invokestatic 67, 3) := by decide +kernel
theorem pd__IAB_V : parseMethodDescriptor "(I[B)V" = some ⟨[.int, (.array .byte)], none⟩ := by decide +kernel
theorem d_jdk_52_m83_5 : decode jdk_52_method_83_code 5 = .ok (.aload_n 0, 1) := by decide +kernel
theorem d_jdk_52_m83_6 : decode jdk_52_method_83_code 6 = .ok (.iload_n 1, 1) := by decide +kernel
theorem d_jdk_52_m83_7 : decode jdk_52_method_83_code 7 = .ok (.invokestatic 71, 3) := by decide +kernel
theorem d_jdk_52_m83_10 : decode jdk_52_method_83_code 10 = .ok (.ireturn, 1) := by decide +kernel
theorem ef_c_chu (m : MethodId) (x0 : Addr) (x1 : Int32) : entryFrame m #[(.ref x0), (.int x1)] 2 = mkF m 0 #[.val (.ref x0), .val (.int x1)] [] := by first | (simp [entryFrame, mkF, argsToLocals, Value.category]; done) | rfl
theorem d_jdk_42_m56_0 : decode jdk_42_method_56_code 0 = .ok (.aload_n 0, 1) := by decide +kernel
theorem d_jdk_42_m56_1 : decode jdk_42_method_56_code 1 = .ok (.invokevirtual 492, 3) := by decide +kernel
theorem pd___Z : parseMethodDescriptor "()Z" = some ⟨[], some .boolean⟩ := by decide +kernel
theorem d_jdk_42_m56_4 : decode jdk_42_method_56_code 4 = .ok (.ifCond .eq 12, 3) := by decide +kernel
theorem d_jdk_42_m56_16 : decode jdk_42_method_56_code 16 = .ok (.aload_n 0, 1) := by decide +kernel
theorem d_jdk_42_m56_17 : decode jdk_42_method_56_code 17 = .ok (.getfield 9, 3) := by decide +kernel
theorem d_jdk_42_m56_20 : decode jdk_42_method_56_code 20 = .ok (.iload_n 1, 1) := by decide +kernel
theorem d_jdk_42_m56_21 : decode jdk_42_method_56_code 21 = .ok (.invokestatic 498, 3) := by decide +kernel
theorem d_jdk_42_m56_24 : decode jdk_42_method_56_code 24 = .ok (.ireturn, 1) := by decide +kernel
theorem ef_c_init (m : MethodId) (x0 : Addr) (x1 : Addr) (x2 : Int32) (x3 : Addr) (x4 : Addr) : entryFrame m #[(.ref x0), (.ref x1), (.int x2), (.ref x3), (.ref x4)] 5 = mkF m 0 #[.val (.ref x0), .val (.ref x1), .val (.int x2), .val (.ref x3), .val (.ref x4)] [] := by first | (simp [entryFrame, mkF, argsToLocals, Value.category]; done) | rfl
theorem pn_com_example_vestline_vestline_Field : plainName "com/example/vestline/vestline/Field" = true := by first | (simp [plainName, overriddenIn]; done) | decide +kernel
theorem d_prog_17_m1_0 : decode prog_17_method_1_code 0 = .ok (.aload_n 0, 1) := by decide +kernel
theorem d_prog_17_m1_1 : decode prog_17_method_1_code 1 = .ok (.invokespecial 1, 3) := by decide +kernel
theorem d_prog_17_m1_4 : decode prog_17_method_1_code 4 = .ok (.aload_n 0, 1) := by decide +kernel
theorem d_prog_17_m1_5 : decode prog_17_method_1_code 5 = .ok (.aload_n 1, 1) := by decide +kernel
theorem d_prog_17_m1_6 : decode prog_17_method_1_code 6 = .ok (.putfield 7, 3) := by decide +kernel
theorem d_prog_17_m1_9 : decode prog_17_method_1_code 9 = .ok (.aload_n 0, 1) := by decide +kernel
theorem d_prog_17_m1_10 : decode prog_17_method_1_code 10 = .ok (.iload_n 2, 1) := by decide +kernel
theorem d_prog_17_m1_11 : decode prog_17_method_1_code 11 = .ok (.putfield 13, 3) := by decide +kernel
theorem d_prog_17_m1_14 : decode prog_17_method_1_code 14 = .ok (.aload_n 0, 1) := by decide +kernel
theorem d_prog_17_m1_15 : decode prog_17_method_1_code 15 = .ok (.aload_n 3, 1) := by decide +kernel
theorem d_prog_17_m1_16 : decode prog_17_method_1_code 16 = .ok (.putfield 17, 3) := by decide +kernel
theorem d_prog_17_m1_19 : decode prog_17_method_1_code 19 = .ok (.aload_n 0, 1) := by decide +kernel
theorem d_prog_17_m1_20 : decode prog_17_method_1_code 20 = .ok (.aload 4, 2) := by decide +kernel
theorem d_prog_17_m1_22 : decode prog_17_method_1_code 22 = .ok (.putfield 20, 3) := by decide +kernel
theorem d_prog_17_m1_25 : decode prog_17_method_1_code 25 = .ok (.return_, 1) := by decide +kernel
theorem ef_c_text (m : MethodId) (x0 : Addr) : entryFrame m #[(.ref x0)] 1 = mkF m 0 #[.val (.ref x0)] [] := by first | (simp [entryFrame, mkF, argsToLocals, Value.category]; done) | rfl
theorem d_prog_17_m2_0 : decode prog_17_method_2_code 0 = .ok (.aload_n 0, 1) := by decide +kernel
theorem d_prog_17_m2_1 : decode prog_17_method_2_code 1 = .ok (.getfield 20, 3) := by decide +kernel
theorem d_prog_17_m2_4 : decode prog_17_method_2_code 4 = .ok (.invokevirtual 23, 3) := by decide +kernel
theorem d_prog_17_m2_7 : decode prog_17_method_2_code 7 = .ok (.ifCond .eq 10, 3) := by decide +kernel
theorem d_prog_17_m2_17 : decode prog_17_method_2_code 17 = .ok (.aload_n 0, 1) := by decide +kernel
theorem d_prog_17_m2_18 : decode prog_17_method_2_code 18 = .ok (.getfield 20, 3) := by decide +kernel
theorem d_prog_17_m2_21 : decode prog_17_method_2_code 21 = .ok (.areturn, 1) := by decide +kernel
theorem ef_c_emp (m : MethodId) (x0 : Addr) : entryFrame m #[(.ref x0)] 1 = mkF m 0 #[.val (.ref x0)] [] := by first | (simp [entryFrame, mkF, argsToLocals, Value.category]; done) | rfl
theorem d_prog_17_m4_0 : decode prog_17_method_4_code 0 = .ok (.aload_n 0, 1) := by decide +kernel
theorem d_prog_17_m4_1 : decode prog_17_method_4_code 1 = .ok (.getfield 20, 3) := by decide +kernel
theorem d_prog_17_m4_4 : decode prog_17_method_4_code 4 = .ok (.invokevirtual 23, 3) := by decide +kernel
theorem d_prog_17_m4_7 : decode prog_17_method_4_code 7 = .ok (.ireturn, 1) := by decide +kernel
theorem ef_c_prn (m : MethodId) (x0 : Addr) : entryFrame m #[(.ref x0)] 1 = mkF m 0 #[.val (.ref x0)] [] := by first | (simp [entryFrame, mkF, argsToLocals, Value.category]; done) | rfl
theorem d_prog_17_m3_0 : decode prog_17_method_3_code 0 = .ok (.aload_n 0, 1) := by decide +kernel
theorem d_prog_17_m3_1 : decode prog_17_method_3_code 1 = .ok (.getfield 20, 3) := by decide +kernel
theorem d_prog_17_m3_4 : decode prog_17_method_3_code 4 = .ok (.areturn, 1) := by decide +kernel
theorem ef_c_same (m : MethodId) (x0 : Addr) (x1 : Addr) : entryFrame m #[(.ref x0), (.ref x1)] 3 = mkF m 0 #[.val (.ref x0), .val (.ref x1), .unset] [] := by first | (simp [entryFrame, mkF, argsToLocals, Value.category]; done) | rfl
theorem d_jdk_42_m66_0 : decode jdk_42_method_66_code 0 = .ok (.aload_n 0, 1) := by decide +kernel
theorem d_jdk_42_m66_1 : decode jdk_42_method_66_code 1 = .ok (.aload_n 1, 1) := by decide +kernel
theorem d_jdk_42_m66_2 : decode jdk_42_method_66_code 2 = .ok (.if_acmp .ne 5, 3) := by decide +kernel
theorem d_jdk_42_m66_5 : decode jdk_42_method_66_code 5 = .ok (.iconst 1, 1) := by decide +kernel
theorem d_jdk_42_m66_6 : decode jdk_42_method_66_code 6 = .ok (.ireturn, 1) := by decide +kernel
theorem ef_c_law (m : MethodId) (x0 : Int32) (x1 : Int32) (x2 : Int32) (x3 : Int32) (x4 : Int32) (x5 : Int32) : entryFrame m #[(.int x0), (.int x1), (.int x2), (.int x3), (.int x4), (.int x5)] maxLocals = mkF m 0 #[.val (.int x0), .val (.int x1), .val (.int x2), .val (.int x3), .val (.int x4), .val (.int x5), .unset, .unset, .unset, .unset, .unset, .unset, .unset, .unset, .unset, .unset] [] := by first | (simp [entryFrame, mkF, argsToLocals, Value.category, maxLocals]; done) | rfl
theorem pn_com_example_vestline_vestline_FieldTextPinLaw : plainName "com/example/vestline/vestline/FieldTextPinLaw" = true := by first | (simp [plainName, overriddenIn]; done) | decide +kernel
theorem pd__AC_V : parseMethodDescriptor "([C)V" = some ⟨[(.array .char)], none⟩ := by decide +kernel
theorem pd__Ljava_lang_String_ILjava_lang_String_Ljava_lang_String__V : parseMethodDescriptor "(Ljava/lang/String;ILjava/lang/String;Ljava/lang/String;)V" = some ⟨[(.object "java/lang/String"), .int, (.object "java/lang/String"), (.object "java/lang/String")], none⟩ := by decide +kernel
theorem pd___Ljava_lang_String_ : parseMethodDescriptor "()Ljava/lang/String;" = some ⟨[], some (.object "java/lang/String")⟩ := by decide +kernel
theorem pd___I : parseMethodDescriptor "()I" = some ⟨[], some .int⟩ := by decide +kernel
theorem pd__I_C : parseMethodDescriptor "(I)C" = some ⟨[.int], some .char⟩ := by decide +kernel
theorem pd__Ljava_lang_Object__Z : parseMethodDescriptor "(Ljava/lang/Object;)Z" = some ⟨[(.object "java/lang/Object")], some .boolean⟩ := by decide +kernel
set_option maxRecDepth 65536 in
set_option maxHeartbeats 40000000 in
theorem c_put (l : Launch) {Z : State} {a0 : Array Value} {zc : Int32} {fm : Value} (B : Base Z a0 zc fm) (d : Addr) (ch : Int32) (kB : ClassId) (vs : List Value) (i n : Nat) (h0 : Heap) (O : Ext Z.heap h0) (hi : i < n) (hn : n ≤ 4) (AD : Arv Z h0 d kB .byte (Int32.ofNat (2 * n)) vs (.int 0)) (hv : vs.length = 2 * i) (gd : Z.heap.size ≤ d) :
    MetN l Z (⟨"java/lang/StringUTF16", "putChar", "([BII)V"⟩ : MethodName) jdk_52_method_4_code 3 none [] ({ frames := 0, cells := 0, slots := 0, locals := 0 } : Room) #[(.ref d), (.int (Int32.ofNat i)), (.int ch)] h0 [d] (fun v h => v = none ∧ Arv Z h d kB .byte (Int32.ofNat (2 * n)) (vs ++ [.int (StrChars.lo8 ch), .int (StrChars.hi8 ch)]) (.int 0)) := by
  obtain ⟨hw, SC0, hz0, SF1, rf1, SU2, SU3, SU4⟩ := B
  refine MetN.mk (plainFor_of_name pn_java_lang_StringUTF16) (fun m => ef_c_put m d (Int32.ofNat i) ch) O ?_
  intro p e s m below meth c T0 hx hby hml hret hlk hnm hsh H0
  have zs : s.heap.size = h0.size := by rw [hsh]
  have ld := natlt (AD).lt
  have H0 := H0.weak (ws' := [d]) (fun _ q => nomatch q) (allS gd all0)
  obtain ⟨T1, H1, st1⟩ := H0.getS (host := "") (Or.inl (hw _ (List.mem_of_getElem? (i := 120) rfl))) Via.refl (SU2.ext H0.old) (g := (mkF m 0 #[.val (.ref d), .val (.int (Int32.ofNat i)), .val (.int ch)] [])) rfl (hb hby d_jdk_52_m4_0)
  refine Rn.pu (g' := (mkF m 3 #[.val (.ref d), .val (.int (Int32.ofNat i)), .val (.int ch)] [(.int (1 : Int32))])) ?_ st1
  refine Rn.pu (T' := T1) (g' := (mkF m 28 #[.val (.ref d), .val (.int (Int32.ofNat i)), .val (.int ch)] [])) ?_ fun _ zk => XS.ifYes H1.here hx rfl (pc0 := 3) (pc' := 28) rfl (hb hby d_jdk_52_m4_3) rfl (z_ne_t (by decide)) (by decide) (by decide) zk
  refine Rn.pu (T' := T1) (g' := (mkF m 29 #[.val (.ref d), .val (.int (Int32.ofNat i)), .val (.int ch)] [(.int (Int32.ofNat i))])) ?_ fun _ zk => XS.iloadN H1.here hx rfl (hb hby d_jdk_52_m4_28) rfl zk
  refine Rn.pu (T' := T1) (g' := (mkF m 30 #[.val (.ref d), .val (.int (Int32.ofNat i)), .val (.int ch)] [(.int (1 : Int32)), (.int (Int32.ofNat i))])) ?_ fun _ zk => XS.iconst H1.here hx rfl (hb hby d_jdk_52_m4_29) zk
  refine Rn.pu (T' := T1) (g' := (mkF m 31 #[.val (.ref d), .val (.int (Int32.ofNat i)), .val (.int ch)] [(.int ((Int32.ofNat i) <<< ((1 : Int32) &&& 31)))])) ?_ fun _ zk => XT.ishl H1.here hx rfl (hb hby d_jdk_52_m4_30) rfl zk
  refine Rn.pu (T' := T1) (g' := (mkF m 32 #[.val (.ref d), .val (.int ((Int32.ofNat i) <<< ((1 : Int32) &&& 31))), .val (.int ch)] [])) ?_ fun _ zk => XS.istoreN H1.here hx rfl (hb hby d_jdk_52_m4_31) rfl (l' := #[.val (.ref d), .val (.int ((Int32.ofNat i) <<< ((1 : Int32) &&& 31))), .val (.int ch)]) rfl zk
  rw [u_shl (by omega : i ≤ 4)]
  refine Rn.pu (T' := T1) (g' := (mkF m 33 #[.val (.ref d), .val (.int (Int32.ofNat (2 * i))), .val (.int ch)] [(.ref d)])) ?_ fun _ zk => XS.aloadN H1.here hx rfl (hb hby d_jdk_52_m4_32) rfl rfl zk
  refine Rn.pu (T' := T1) (g' := (mkF m 34 #[.val (.ref d), .val (.int (Int32.ofNat (2 * i))), .val (.int ch)] [(.int (Int32.ofNat (2 * i))), (.ref d)])) ?_ fun _ zk => XS.iloadN H1.here hx rfl (hb hby d_jdk_52_m4_33) rfl zk
  refine Rn.pu (T' := T1) (g' := (mkF m 37 #[.val (.ref d), .val (.int ((Int32.ofNat (2 * i)) + (1 : Int32))), .val (.int ch)] [(.int (Int32.ofNat (2 * i))), (.ref d)])) ?_ fun _ zk => XS.iinc H1.here hx rfl (hb hby d_jdk_52_m4_34) rfl (l' := #[.val (.ref d), .val (.int ((Int32.ofNat (2 * i)) + (1 : Int32))), .val (.int ch)]) rfl zk
  rw [u_succ]
  refine Rn.pu (T' := T1) (g' := (mkF m 38 #[.val (.ref d), .val (.int (Int32.ofNat (2 * i + 1))), .val (.int ch)] [(.int ch), (.int (Int32.ofNat (2 * i))), (.ref d)])) ?_ fun _ zk => XS.iloadN H1.here hx rfl (hb hby d_jdk_52_m4_37) rfl zk
  obtain ⟨T2, H2, st2⟩ := H1.getS (host := "") (Or.inl (hw _ (List.mem_of_getElem? (i := 121) rfl))) Via.refl (SU3.ext H1.old) (g := (mkF m 38 #[.val (.ref d), .val (.int (Int32.ofNat (2 * i + 1))), .val (.int ch)] [(.int ch), (.int (Int32.ofNat (2 * i))), (.ref d)])) rfl (hb hby d_jdk_52_m4_38)
  refine Rn.pu (g' := (mkF m 41 #[.val (.ref d), .val (.int (Int32.ofNat (2 * i + 1))), .val (.int ch)] [(.int (0 : Int32)), (.int ch), (.int (Int32.ofNat (2 * i))), (.ref d)])) ?_ st2
  refine Rn.pu (T' := T2) (g' := (mkF m 42 #[.val (.ref d), .val (.int (Int32.ofNat (2 * i + 1))), .val (.int ch)] [(.int (ch >>> ((0 : Int32) &&& 31))), (.int (Int32.ofNat (2 * i))), (.ref d)])) ?_ fun _ zk => XT.ishr H2.here hx rfl (hb hby d_jdk_52_m4_41) rfl zk
  refine Rn.pu (T' := T2) (g' := (mkF m 43 #[.val (.ref d), .val (.int (Int32.ofNat (2 * i + 1))), .val (.int ch)] [(.int (nar .byte (ch >>> ((0 : Int32) &&& 31)))), (.int (Int32.ofNat (2 * i))), (.ref d)])) ?_ fun _ zk => XT.i2b H2.here hx rfl (hb hby d_jdk_52_m4_42) rfl zk
  obtain ⟨T3, h3, H3, K3, A3, st3⟩ := H2.stB AD ⟨u_nn (by omega), u_lt (by omega) (by omega)⟩ (by rw [u_cl (by omega)]; omega) (Or.inl (List.mem_singleton.mpr rfl)) (g := (mkF m 43 #[.val (.ref d), .val (.int (Int32.ofNat (2 * i + 1))), .val (.int ch)] [(.int (nar .byte (ch >>> ((0 : Int32) &&& 31)))), (.int (Int32.ofNat (2 * i))), (.ref d)])) rfl rfl (hb hby d_jdk_52_m4_43)
  have zh3 := K3.1
  refine Rn.pu (g' := (mkF m 44 #[.val (.ref d), .val (.int (Int32.ofNat (2 * i + 1))), .val (.int ch)] [])) ?_ st3
  refine Rn.pu (T' := T3) (g' := (mkF m 45 #[.val (.ref d), .val (.int (Int32.ofNat (2 * i + 1))), .val (.int ch)] [(.ref d)])) ?_ fun _ zk => XS.aloadN H3.here hx rfl (hb hby d_jdk_52_m4_44) rfl rfl zk
  refine Rn.pu (T' := T3) (g' := (mkF m 46 #[.val (.ref d), .val (.int (Int32.ofNat (2 * i + 1))), .val (.int ch)] [(.int (Int32.ofNat (2 * i + 1))), (.ref d)])) ?_ fun _ zk => XS.iloadN H3.here hx rfl (hb hby d_jdk_52_m4_45) rfl zk
  refine Rn.pu (T' := T3) (g' := (mkF m 47 #[.val (.ref d), .val (.int (Int32.ofNat (2 * i + 1))), .val (.int ch)] [(.int ch), (.int (Int32.ofNat (2 * i + 1))), (.ref d)])) ?_ fun _ zk => XS.iloadN H3.here hx rfl (hb hby d_jdk_52_m4_46) rfl zk
  obtain ⟨T4, H4, st4⟩ := H3.getS (host := "") (Or.inl (hw _ (List.mem_of_getElem? (i := 122) rfl))) Via.refl (SU4.ext H3.old) (g := (mkF m 47 #[.val (.ref d), .val (.int (Int32.ofNat (2 * i + 1))), .val (.int ch)] [(.int ch), (.int (Int32.ofNat (2 * i + 1))), (.ref d)])) rfl (hb hby d_jdk_52_m4_47)
  refine Rn.pu (g' := (mkF m 50 #[.val (.ref d), .val (.int (Int32.ofNat (2 * i + 1))), .val (.int ch)] [(.int (8 : Int32)), (.int ch), (.int (Int32.ofNat (2 * i + 1))), (.ref d)])) ?_ st4
  refine Rn.pu (T' := T4) (g' := (mkF m 51 #[.val (.ref d), .val (.int (Int32.ofNat (2 * i + 1))), .val (.int ch)] [(.int (ch >>> ((8 : Int32) &&& 31))), (.int (Int32.ofNat (2 * i + 1))), (.ref d)])) ?_ fun _ zk => XT.ishr H4.here hx rfl (hb hby d_jdk_52_m4_50) rfl zk
  refine Rn.pu (T' := T4) (g' := (mkF m 52 #[.val (.ref d), .val (.int (Int32.ofNat (2 * i + 1))), .val (.int ch)] [(.int (nar .byte (ch >>> ((8 : Int32) &&& 31)))), (.int (Int32.ofNat (2 * i + 1))), (.ref d)])) ?_ fun _ zk => XT.i2b H4.here hx rfl (hb hby d_jdk_52_m4_51) rfl zk
  obtain ⟨T5, h5, H5, K5, A5, st5⟩ := H4.stB A3 ⟨u_nn (by omega), u_lt (by omega) (by omega)⟩ (by rw [u_cl (by omega), List.length_append, hv]; rfl) (Or.inl (List.mem_singleton.mpr rfl)) (g := (mkF m 52 #[.val (.ref d), .val (.int (Int32.ofNat (2 * i + 1))), .val (.int ch)] [(.int (nar .byte (ch >>> ((8 : Int32) &&& 31)))), (.int (Int32.ofNat (2 * i + 1))), (.ref d)])) rfl rfl (hb hby d_jdk_52_m4_52)
  have zh5 := K5.1
  refine Rn.pu (g' := (mkF m 53 #[.val (.ref d), .val (.int (Int32.ofNat (2 * i + 1))), .val (.int ch)] [])) ?_ st5
  exact H5.retV ends_N hlk hret (hb hby d_jdk_52_m4_53) (by decide) (by decide) (fun _ q => q) ⟨rfl, (u_put vs ch) ▸ A5⟩
set_option maxRecDepth 65536 in
set_option maxHeartbeats 40000000 in
theorem c_getc (l : Launch) {Z : State} {a0 : Array Value} {zc : Int32} {fm : Value} (B : Base Z a0 zc fm) (d : Addr) (kB : ClassId) (cs : List Int32) (i : Nat) (h0 : Heap) (O : Ext Z.heap h0) (hi : i < cs.length) (hn : cs.length ≤ 4) (hc : ∀ c ∈ cs, ¬ c < 0 ∧ ¬ (65535 : Int32) < c) (AD : Arv Z h0 d kB .byte (Int32.ofNat (2 * cs.length)) (StrChars.Road.wideBytes cs) (.int 0)) :
    MetN l Z (⟨"java/lang/StringUTF16", "getChar", "([BI)C"⟩ : MethodName) jdk_52_method_5_code 2 (some .char) [] ({ frames := 0, cells := 0, slots := 0, locals := 0 } : Room) #[(.ref d), (.int (Int32.ofNat i))] h0 [] (fun v h => v = some (.int (cs.getD i 0)) ∧ h0 = h) := by
  obtain ⟨hw, SC0, hz0, SF1, rf1, SU2, SU3, SU4⟩ := B
  refine MetN.mk (plainFor_of_name pn_java_lang_StringUTF16) (fun m => ef_c_getc m d (Int32.ofNat i)) O ?_
  intro p e s m below meth c T0 hx hby hml hret hlk hnm hsh H0
  have zs : s.heap.size = h0.size := by rw [hsh]
  obtain ⟨T1, H1, st1⟩ := H0.getS (host := "") (Or.inl (hw _ (List.mem_of_getElem? (i := 120) rfl))) Via.refl (SU2.ext H0.old) (g := (mkF m 0 #[.val (.ref d), .val (.int (Int32.ofNat i))] [])) rfl (hb hby d_jdk_52_m5_0)
  refine Rn.pu (g' := (mkF m 3 #[.val (.ref d), .val (.int (Int32.ofNat i))] [(.int (1 : Int32))])) ?_ st1
  refine Rn.pu (T' := T1) (g' := (mkF m 28 #[.val (.ref d), .val (.int (Int32.ofNat i))] [])) ?_ fun _ zk => XS.ifYes H1.here hx rfl (pc0 := 3) (pc' := 28) rfl (hb hby d_jdk_52_m5_3) rfl (z_ne_t (by decide)) (by decide) (by decide) zk
  refine Rn.pu (T' := T1) (g' := (mkF m 29 #[.val (.ref d), .val (.int (Int32.ofNat i))] [(.int (Int32.ofNat i))])) ?_ fun _ zk => XS.iloadN H1.here hx rfl (hb hby d_jdk_52_m5_28) rfl zk
  refine Rn.pu (T' := T1) (g' := (mkF m 30 #[.val (.ref d), .val (.int (Int32.ofNat i))] [(.int (1 : Int32)), (.int (Int32.ofNat i))])) ?_ fun _ zk => XS.iconst H1.here hx rfl (hb hby d_jdk_52_m5_29) zk
  refine Rn.pu (T' := T1) (g' := (mkF m 31 #[.val (.ref d), .val (.int (Int32.ofNat i))] [(.int ((Int32.ofNat i) <<< ((1 : Int32) &&& 31)))])) ?_ fun _ zk => XT.ishl H1.here hx rfl (hb hby d_jdk_52_m5_30) rfl zk
  refine Rn.pu (T' := T1) (g' := (mkF m 32 #[.val (.ref d), .val (.int ((Int32.ofNat i) <<< ((1 : Int32) &&& 31)))] [])) ?_ fun _ zk => XS.istoreN H1.here hx rfl (hb hby d_jdk_52_m5_31) rfl (l' := #[.val (.ref d), .val (.int ((Int32.ofNat i) <<< ((1 : Int32) &&& 31)))]) rfl zk
  rw [u_shl (by omega : i ≤ 4)]
  refine Rn.pu (T' := T1) (g' := (mkF m 33 #[.val (.ref d), .val (.int (Int32.ofNat (2 * i)))] [(.ref d)])) ?_ fun _ zk => XS.aloadN H1.here hx rfl (hb hby d_jdk_52_m5_32) rfl rfl zk
  refine Rn.pu (T' := T1) (g' := (mkF m 34 #[.val (.ref d), .val (.int (Int32.ofNat (2 * i)))] [(.int (Int32.ofNat (2 * i))), (.ref d)])) ?_ fun _ zk => XS.iloadN H1.here hx rfl (hb hby d_jdk_52_m5_33) rfl zk
  refine Rn.pu (T' := T1) (g' := (mkF m 37 #[.val (.ref d), .val (.int ((Int32.ofNat (2 * i)) + (1 : Int32)))] [(.int (Int32.ofNat (2 * i))), (.ref d)])) ?_ fun _ zk => XS.iinc H1.here hx rfl (hb hby d_jdk_52_m5_34) rfl (l' := #[.val (.ref d), .val (.int ((Int32.ofNat (2 * i)) + (1 : Int32)))]) rfl zk
  rw [u_succ]
  refine Rn.pu (g' := (mkF m 38 #[.val (.ref d), .val (.int (Int32.ofNat (2 * i + 1)))] [(.int (StrChars.lo8 (cs.getD i 0)))])) ?_ (H1.bald AD ⟨u_nn (by omega), u_lt (by omega) (by omega)⟩ (v := .int (StrChars.lo8 (cs.getD i 0))) (by rw [u_cl (by omega)]; exact StrChars.Road.wide_lo _ cs i hi) (g := (mkF m 37 #[.val (.ref d), .val (.int (Int32.ofNat (2 * i + 1)))] [(.int (Int32.ofNat (2 * i))), (.ref d)])) rfl rfl (hb hby d_jdk_52_m5_37))
  refine Rn.pu (T' := T1) (g' := (mkF m 41 #[.val (.ref d), .val (.int (Int32.ofNat (2 * i + 1)))] [(.int (255 : Int32)), (.int (StrChars.lo8 (cs.getD i 0)))])) ?_ fun _ zk => XS.sipush H1.here hx rfl (hb hby d_jdk_52_m5_38) zk
  refine Rn.pu (T' := T1) (g' := (mkF m 42 #[.val (.ref d), .val (.int (Int32.ofNat (2 * i + 1)))] [(.int ((StrChars.lo8 (cs.getD i 0)) &&& (255 : Int32)))])) ?_ fun _ zk => XS.iand H1.here hx rfl (hb hby d_jdk_52_m5_41) rfl zk
  obtain ⟨T2, H2, st2⟩ := H1.getS (host := "") (Or.inl (hw _ (List.mem_of_getElem? (i := 121) rfl))) Via.refl (SU3.ext H1.old) (g := (mkF m 42 #[.val (.ref d), .val (.int (Int32.ofNat (2 * i + 1)))] [(.int ((StrChars.lo8 (cs.getD i 0)) &&& (255 : Int32)))])) rfl (hb hby d_jdk_52_m5_42)
  refine Rn.pu (g' := (mkF m 45 #[.val (.ref d), .val (.int (Int32.ofNat (2 * i + 1)))] [(.int (0 : Int32)), (.int ((StrChars.lo8 (cs.getD i 0)) &&& (255 : Int32)))])) ?_ st2
  refine Rn.pu (T' := T2) (g' := (mkF m 46 #[.val (.ref d), .val (.int (Int32.ofNat (2 * i + 1)))] [(.int (((StrChars.lo8 (cs.getD i 0)) &&& (255 : Int32)) <<< ((0 : Int32) &&& 31)))])) ?_ fun _ zk => XT.ishl H2.here hx rfl (hb hby d_jdk_52_m5_45) rfl zk
  refine Rn.pu (T' := T2) (g' := (mkF m 47 #[.val (.ref d), .val (.int (Int32.ofNat (2 * i + 1)))] [(.ref d), (.int (((StrChars.lo8 (cs.getD i 0)) &&& (255 : Int32)) <<< ((0 : Int32) &&& 31)))])) ?_ fun _ zk => XS.aloadN H2.here hx rfl (hb hby d_jdk_52_m5_46) rfl rfl zk
  refine Rn.pu (T' := T2) (g' := (mkF m 48 #[.val (.ref d), .val (.int (Int32.ofNat (2 * i + 1)))] [(.int (Int32.ofNat (2 * i + 1))), (.ref d), (.int (((StrChars.lo8 (cs.getD i 0)) &&& (255 : Int32)) <<< ((0 : Int32) &&& 31)))])) ?_ fun _ zk => XS.iloadN H2.here hx rfl (hb hby d_jdk_52_m5_47) rfl zk
  refine Rn.pu (g' := (mkF m 49 #[.val (.ref d), .val (.int (Int32.ofNat (2 * i + 1)))] [(.int (StrChars.hi8 (cs.getD i 0))), (.int (((StrChars.lo8 (cs.getD i 0)) &&& (255 : Int32)) <<< ((0 : Int32) &&& 31)))])) ?_ (H2.bald AD ⟨u_nn (by omega), u_lt (by omega) (by omega)⟩ (v := .int (StrChars.hi8 (cs.getD i 0))) (by rw [u_cl (by omega)]; exact StrChars.Road.wide_hi _ cs i hi) (g := (mkF m 48 #[.val (.ref d), .val (.int (Int32.ofNat (2 * i + 1)))] [(.int (Int32.ofNat (2 * i + 1))), (.ref d), (.int (((StrChars.lo8 (cs.getD i 0)) &&& (255 : Int32)) <<< ((0 : Int32) &&& 31)))])) rfl rfl (hb hby d_jdk_52_m5_48))
  refine Rn.pu (T' := T2) (g' := (mkF m 52 #[.val (.ref d), .val (.int (Int32.ofNat (2 * i + 1)))] [(.int (255 : Int32)), (.int (StrChars.hi8 (cs.getD i 0))), (.int (((StrChars.lo8 (cs.getD i 0)) &&& (255 : Int32)) <<< ((0 : Int32) &&& 31)))])) ?_ fun _ zk => XS.sipush H2.here hx rfl (hb hby d_jdk_52_m5_49) zk
  refine Rn.pu (T' := T2) (g' := (mkF m 53 #[.val (.ref d), .val (.int (Int32.ofNat (2 * i + 1)))] [(.int ((StrChars.hi8 (cs.getD i 0)) &&& (255 : Int32))), (.int (((StrChars.lo8 (cs.getD i 0)) &&& (255 : Int32)) <<< ((0 : Int32) &&& 31)))])) ?_ fun _ zk => XS.iand H2.here hx rfl (hb hby d_jdk_52_m5_52) rfl zk
  obtain ⟨T3, H3, st3⟩ := H2.getS (host := "") (Or.inl (hw _ (List.mem_of_getElem? (i := 122) rfl))) Via.refl (SU4.ext H2.old) (g := (mkF m 53 #[.val (.ref d), .val (.int (Int32.ofNat (2 * i + 1)))] [(.int ((StrChars.hi8 (cs.getD i 0)) &&& (255 : Int32))), (.int (((StrChars.lo8 (cs.getD i 0)) &&& (255 : Int32)) <<< ((0 : Int32) &&& 31)))])) rfl (hb hby d_jdk_52_m5_53)
  refine Rn.pu (g' := (mkF m 56 #[.val (.ref d), .val (.int (Int32.ofNat (2 * i + 1)))] [(.int (8 : Int32)), (.int ((StrChars.hi8 (cs.getD i 0)) &&& (255 : Int32))), (.int (((StrChars.lo8 (cs.getD i 0)) &&& (255 : Int32)) <<< ((0 : Int32) &&& 31)))])) ?_ st3
  refine Rn.pu (T' := T3) (g' := (mkF m 57 #[.val (.ref d), .val (.int (Int32.ofNat (2 * i + 1)))] [(.int (((StrChars.hi8 (cs.getD i 0)) &&& (255 : Int32)) <<< ((8 : Int32) &&& 31))), (.int (((StrChars.lo8 (cs.getD i 0)) &&& (255 : Int32)) <<< ((0 : Int32) &&& 31)))])) ?_ fun _ zk => XT.ishl H3.here hx rfl (hb hby d_jdk_52_m5_56) rfl zk
  refine Rn.pu (T' := T3) (g' := (mkF m 58 #[.val (.ref d), .val (.int (Int32.ofNat (2 * i + 1)))] [(.int ((((StrChars.lo8 (cs.getD i 0)) &&& (255 : Int32)) <<< ((0 : Int32) &&& 31)) ||| (((StrChars.hi8 (cs.getD i 0)) &&& (255 : Int32)) <<< ((8 : Int32) &&& 31))))])) ?_ fun _ zk => XT.ior H3.here hx rfl (hb hby d_jdk_52_m5_57) rfl zk
  refine Rn.pu (T' := T3) (g' := (mkF m 59 #[.val (.ref d), .val (.int (Int32.ofNat (2 * i + 1)))] [(.int (nar .char ((((StrChars.lo8 (cs.getD i 0)) &&& (255 : Int32)) <<< ((0 : Int32) &&& 31)) ||| (((StrChars.hi8 (cs.getD i 0)) &&& (255 : Int32)) <<< ((8 : Int32) &&& 31)))))])) ?_ fun _ zk => XT.i2c H3.here hx rfl (hb hby d_jdk_52_m5_58) rfl zk
  exact H3.retS ends_N hlk (t := .char) hret (by simp) (hb hby d_jdk_52_m5_59) (by decide) (by decide) (fun _ q => nomatch q) ⟨by rw [u_pair (u_mem hi hc)], rfl⟩
set_option maxRecDepth 65536 in
set_option maxHeartbeats 40000000 in
theorem c_nbl (l : Launch) {Z : State} {a0 : Array Value} {zc : Int32} {fm : Value} (B : Base Z a0 zc fm) (cs : List Int32) (h0 : Heap) (O : Ext Z.heap h0) (hn : cs.length ≤ 4) :
    MetN l Z (⟨"java/lang/StringUTF16", "newBytesLength", "(I)I"⟩ : MethodName) jdk_52_method_3_code 1 (some .int) [] ({ frames := 0, cells := 0, slots := 0, locals := 0 } : Room) #[(.int (Int32.ofNat cs.length))] h0 [] (fun v h => v = some (.int (Int32.ofNat (2 * cs.length))) ∧ h0 = h) := by
  obtain ⟨hw, SC0, hz0, SF1, rf1, SU2, SU3, SU4⟩ := B
  refine MetN.mk (plainFor_of_name pn_java_lang_StringUTF16) (fun m => ef_c_nbl m (Int32.ofNat cs.length)) O ?_
  intro p e s m below meth c T0 hx hby hml hret hlk hnm hsh H0
  have zs : s.heap.size = h0.size := by rw [hsh]
  refine Rn.pu (T' := T0) (g' := (mkF m 1 #[.val (.int (Int32.ofNat cs.length))] [(.int (Int32.ofNat cs.length))])) ?_ fun _ zk => XS.iloadN H0.here hx rfl (hb hby d_jdk_52_m3_0) rfl zk
  refine Rn.pu (T' := T0) (g' := (mkF m 12 #[.val (.int (Int32.ofNat cs.length))] [])) ?_ fun _ zk => XS.ifYes H0.here hx rfl (pc0 := 1) (pc' := 12) rfl (hb hby d_jdk_52_m3_1) rfl (z_ge_t (u_nn (by omega))) (by decide) (by decide) zk
  refine Rn.pu (T' := T0) (g' := (mkF m 13 #[.val (.int (Int32.ofNat cs.length))] [(.int (Int32.ofNat cs.length))])) ?_ fun _ zk => XS.iloadN H0.here hx rfl (hb hby d_jdk_52_m3_12) rfl zk
  refine Rn.pu (g' := (mkF m 15 #[.val (.int (Int32.ofNat cs.length))] [(.int (1073741823 : Int32)), (.int (Int32.ofNat cs.length))])) ?_ (H0.ldcI (hw _ (List.mem_of_getElem? (i := 116) rfl)) (g := (mkF m 13 #[.val (.int (Int32.ofNat cs.length))] [(.int (Int32.ofNat cs.length))])) rfl (hb hby d_jdk_52_m3_13))
  refine Rn.pu (T' := T0) (g' := (mkF m 55 #[.val (.int (Int32.ofNat cs.length))] [])) ?_ fun _ zk => XS.icmpYes H0.here hx rfl (pc0 := 15) (pc' := 55) rfl (hb hby d_jdk_52_m3_15) rfl (c_lt_t (u_big hn)) (by decide) (by decide) zk
  refine Rn.pu (T' := T0) (g' := (mkF m 56 #[.val (.int (Int32.ofNat cs.length))] [(.int (Int32.ofNat cs.length))])) ?_ fun _ zk => XS.iloadN H0.here hx rfl (hb hby d_jdk_52_m3_55) rfl zk
  refine Rn.pu (T' := T0) (g' := (mkF m 57 #[.val (.int (Int32.ofNat cs.length))] [(.int (1 : Int32)), (.int (Int32.ofNat cs.length))])) ?_ fun _ zk => XS.iconst H0.here hx rfl (hb hby d_jdk_52_m3_56) zk
  refine Rn.pu (T' := T0) (g' := (mkF m 58 #[.val (.int (Int32.ofNat cs.length))] [(.int ((Int32.ofNat cs.length) <<< ((1 : Int32) &&& 31)))])) ?_ fun _ zk => XT.ishl H0.here hx rfl (hb hby d_jdk_52_m3_57) rfl zk
  exact H0.retI ends_N hlk hret (hb hby d_jdk_52_m3_58) (by decide) (by decide) (fun _ q => nomatch q) ⟨by rw [u_shl hn], rfl⟩
set_option maxRecDepth 65536 in
set_option maxHeartbeats 40000000 in
theorem c_nbf (l : Launch) {Z : State} {a0 : Array Value} {zc : Int32} {fm : Value} (B : Base Z a0 zc fm) (cs : List Int32) (h0 : Heap) (O : Ext Z.heap h0) (hn : cs.length ≤ 4) :
    MetN l Z (⟨"java/lang/StringUTF16", "newBytesFor", "(I)[B"⟩ : MethodName) jdk_52_method_2_code 1 (some (.array .byte)) [] ({ frames := 1, cells := 1, slots := 8, locals := 12 } : Room) #[(.int (Int32.ofNat cs.length))] h0 [] (fun v h => ∃ d kB, v = some (.ref d) ∧ Arv Z h d kB .byte (Int32.ofNat (2 * cs.length)) [] (.int 0) ∧ h0.size ≤ d ∧ h.size > d) := by
  obtain ⟨hw, SC0, hz0, SF1, rf1, SU2, SU3, SU4⟩ := B
  refine MetN.mk (plainFor_of_name pn_java_lang_StringUTF16) (fun m => ef_c_nbf m (Int32.ofNat cs.length)) O ?_
  intro p e s m below meth c T0 hx hby hml hret hlk hnm hsh H0
  have zs : s.heap.size = h0.size := by rw [hsh]
  refine Rn.pu (T' := T0) (g' := (mkF m 1 #[.val (.int (Int32.ofNat cs.length))] [(.int (Int32.ofNat cs.length))])) ?_ fun _ zk => XS.iloadN H0.here hx rfl (hb hby d_jdk_52_m2_0) rfl zk
  obtain ⟨_, T1, h1, H1, ⟨rfl, rfl⟩, -, st1⟩ := H0.callS (hw _ (List.mem_of_getElem? (i := 113) rfl)) (hw _ (List.mem_of_getElem? (i := 114) rfl)) (hw _ (List.mem_of_getElem? (i := 18) rfl)) (hw _ (List.mem_of_getElem? (i := 115) rfl)) (by decide) (MetN.pay (W := 0) (c_nbl l ⟨hw, SC0, hz0, SF1, rf1, SU2, SU3, SU4⟩ cs h0 H0.old hn) (hw _ (List.mem_of_getElem? (i := 115) rfl)) (hw _ (List.mem_of_getElem? (i := 18) rfl)) (by decide) (by decide)) (g := (mkF m 1 #[.val (.int (Int32.ofNat cs.length))] [(.int (Int32.ofNat cs.length))])) rfl (by rw [hml]; rfl) (argsL := [(.int (Int32.ofNat cs.length))]) (rest := []) (lenOf pd__I_I rfl) rfl rfl (Nat.le_of_eq rfl) (hb hby d_jdk_52_m2_1) (by decide) (by decide) all0
  refine Rn.pu (g' := (mkF m 4 #[.val (.int (Int32.ofNat cs.length))] [(.int (Int32.ofNat (2 * cs.length)))])) ?_ st1
  obtain ⟨a2, k2, T2, h2, e2, H2, K2, A2, st2⟩ := H1.newP (aty := .byte) (hw _ (List.mem_of_getElem? (i := 20) rfl)) (g := (mkF m 4 #[.val (.int (Int32.ofNat cs.length))] [(.int (Int32.ofNat (2 * cs.length)))])) rfl (hb hby d_jdk_52_m2_4) rfl (u_nn (by omega)) (cap := 8) (by rw [u_cl (by omega)]; omega) (by decide) (by decide) (by decide)
  have zh2 := K2.1
  have l2 := natlt (A2).lt
  have g2 : s.heap.size ≤ a2 := by omega
  refine Rn.pu (g' := (mkF m 6 #[.val (.int (Int32.ofNat cs.length))] [(.ref a2)])) ?_ st2
  exact H2.retA ends_N hlk hret rfl rfl rfl (hb hby d_jdk_52_m2_6) (by decide) (by decide) (fun _ q => nomatch q) ⟨a2, k2, rfl, A2, by omega, by omega⟩
set_option maxRecDepth 65536 in
set_option maxHeartbeats 40000000 in
theorem c_tob (l : Launch) {Z : State} {a0 : Array Value} {zc : Int32} {fm : Value} (B : Base Z a0 zc fm) (b : Addr) (kC : ClassId) (dv : Value) (cs : List Int32) (h0 : Heap) (O : Ext Z.heap h0) (hn : cs.length ≤ 4) (AB : Arv Z h0 b kC .char (Int32.ofNat cs.length) (cs.map Value.int) dv) :
    MetN l Z (⟨"java/lang/StringUTF16", "toBytes", "([CII)[B"⟩ : MethodName) jdk_52_method_14_code 5 (some (.array .byte)) [] ({ frames := 2, cells := 1, slots := 8, locals := 24 } : Room) #[(.ref b), (.int (0 : Int32)), (.int (Int32.ofNat cs.length))] h0 [] (fun v h => ∃ d kB, v = some (.ref d) ∧ Arv Z h d kB .byte (Int32.ofNat (2 * cs.length)) (StrChars.Road.wideBytes cs) (.int 0) ∧ h0.size ≤ d ∧ h.size > d) := by
  obtain ⟨hw, SC0, hz0, SF1, rf1, SU2, SU3, SU4⟩ := B
  refine MetN.mk (plainFor_of_name pn_java_lang_StringUTF16) (fun m => ef_c_tob m b (0 : Int32) (Int32.ofNat cs.length)) O ?_
  intro p e s m below meth c T0 hx hby hml hret hlk hnm hsh H0
  have zs : s.heap.size = h0.size := by rw [hsh]
  have lb := natlt (AB).lt
  refine Rn.pu (T' := T0) (g' := (mkF m 1 #[.val (.ref b), .val (.int (0 : Int32)), .val (.int (Int32.ofNat cs.length)), .unset, .unset] [(.int (Int32.ofNat cs.length))])) ?_ fun _ zk => XS.iloadN H0.here hx rfl (hb hby d_jdk_52_m14_0) rfl zk
  obtain ⟨_, T1, h1, H1, ⟨d1, kd1, rfl, A1, gd1, ld1⟩, K1, st1⟩ := H0.callS (hw _ (List.mem_of_getElem? (i := 110) rfl)) (hw _ (List.mem_of_getElem? (i := 111) rfl)) (hw _ (List.mem_of_getElem? (i := 18) rfl)) (hw _ (List.mem_of_getElem? (i := 112) rfl)) (by decide) (MetN.pay (W := 0) (c_nbf l ⟨hw, SC0, hz0, SF1, rf1, SU2, SU3, SU4⟩ cs h0 H0.old hn) (hw _ (List.mem_of_getElem? (i := 112) rfl)) (hw _ (List.mem_of_getElem? (i := 18) rfl)) (by decide) (by decide)) (g := (mkF m 1 #[.val (.ref b), .val (.int (0 : Int32)), .val (.int (Int32.ofNat cs.length)), .unset, .unset] [(.int (Int32.ofNat cs.length))])) rfl (by rw [hml]; rfl) (argsL := [(.int (Int32.ofNat cs.length))]) (rest := []) (lenOf pd__I_AB rfl) rfl rfl (Nat.le_of_eq rfl) (hb hby d_jdk_52_m14_1) (by decide) (by decide) all0
  have zh1 := K1.1
  refine Rn.pu (g' := (mkF m 4 #[.val (.ref b), .val (.int (0 : Int32)), .val (.int (Int32.ofNat cs.length)), .unset, .unset] [(.ref d1)])) ?_ st1
  refine Rn.pu (T' := T1) (g' := (mkF m 5 #[.val (.ref b), .val (.int (0 : Int32)), .val (.int (Int32.ofNat cs.length)), .val (.ref d1), .unset] [])) ?_ fun _ zk => XS.astoreN H1.here hx rfl (hb hby d_jdk_52_m14_4) rfl rfl (l' := #[.val (.ref b), .val (.int (0 : Int32)), .val (.int (Int32.ofNat cs.length)), .val (.ref d1), .unset]) rfl zk
  refine Rn.pu (T' := T1) (g' := (mkF m 6 #[.val (.ref b), .val (.int (0 : Int32)), .val (.int (Int32.ofNat cs.length)), .val (.ref d1), .unset] [(.int (0 : Int32))])) ?_ fun _ zk => XS.iconst H1.here hx rfl (hb hby d_jdk_52_m14_5) zk
  refine Rn.pu (T' := T1) (g' := (mkF m 8 #[.val (.ref b), .val (.int (0 : Int32)), .val (.int (Int32.ofNat cs.length)), .val (.ref d1), .val (.int (0 : Int32))] [])) ?_ fun _ zk => XS.istore H1.here hx rfl (hb hby d_jdk_52_m14_6) rfl (l' := #[.val (.ref b), .val (.int (0 : Int32)), .val (.int (Int32.ofNat cs.length)), .val (.ref d1), .val (.int (0 : Int32))]) rfl zk
  have L8 : ∀ (k i : Nat) (T : State) (h : Heap), i + k = cs.length → Hs p l e ({ frames := 2, cells := 1, slots := 8, locals := 24 } : Room) s m #[(.ref b), (.int (0 : Int32)), (.int (Int32.ofNat cs.length))] below meth c Z "java/lang/StringUTF16" [] (fun v => v = s.vm) T h 1 8 → h1.size ≤ h.size → Arv Z h b kC .char (Int32.ofNat cs.length) (cs.map Value.int) dv → Arv Z h d1 kd1 .byte (Int32.ofNat (2 * cs.length)) (StrChars.Road.wideBytes (cs.take i)) (.int 0) → Rn p e below s FrameEnd [] (({ frames := 2, cells := 1, slots := 8, locals := 24 } : Room)).cells (({ frames := 2, cells := 1, slots := 8, locals := 24 } : Room)).slots (fun v _ h => ∃ d kB, v = some (.ref d) ∧ Arv Z h d kB .byte (Int32.ofNat (2 * cs.length)) (StrChars.Road.wideBytes cs) (.int 0) ∧ h0.size ≤ d ∧ h.size > d) T (mkF m 8 #[.val (.ref b), .val (.int (Int32.ofNat i)), .val (.int (Int32.ofNat cs.length)), .val (.ref d1), .val (.int (Int32.ofNat i))] []) := by
    intro k
    induction k with
    | zero =>
      intro i T h hi HL zh AB AE
      have lE := natlt (AE).lt
      obtain rfl : i = cs.length := by omega
      rw [List.take_length] at AE
      refine Rn.pu (T' := T) (g' := (mkF m 10 #[.val (.ref b), .val (.int (Int32.ofNat cs.length)), .val (.int (Int32.ofNat cs.length)), .val (.ref d1), .val (.int (Int32.ofNat cs.length))] [(.int (Int32.ofNat cs.length))])) ?_ fun _ zk => XS.iload HL.here hx rfl (hb hby d_jdk_52_m14_8) rfl zk
      refine Rn.pu (T' := T) (g' := (mkF m 11 #[.val (.ref b), .val (.int (Int32.ofNat cs.length)), .val (.int (Int32.ofNat cs.length)), .val (.ref d1), .val (.int (Int32.ofNat cs.length))] [(.int (Int32.ofNat cs.length)), (.int (Int32.ofNat cs.length))])) ?_ fun _ zk => XS.iloadN HL.here hx rfl (hb hby d_jdk_52_m14_10) rfl zk
      refine Rn.pu (T' := T) (g' := (mkF m 32 #[.val (.ref b), .val (.int (Int32.ofNat cs.length)), .val (.int (Int32.ofNat cs.length)), .val (.ref d1), .val (.int (Int32.ofNat cs.length))] [])) ?_ fun _ zk => XS.icmpYes HL.here hx rfl (pc0 := 11) (pc' := 32) rfl (hb hby d_jdk_52_m14_11) rfl (c_ge_t u_nlt) (by decide) (by decide) zk
      refine Rn.pu (T' := T) (g' := (mkF m 33 #[.val (.ref b), .val (.int (Int32.ofNat cs.length)), .val (.int (Int32.ofNat cs.length)), .val (.ref d1), .val (.int (Int32.ofNat cs.length))] [(.ref d1)])) ?_ fun _ zk => XS.aloadN HL.here hx rfl (hb hby d_jdk_52_m14_32) rfl rfl zk
      exact HL.retA ends_N hlk hret rfl rfl rfl (hb hby d_jdk_52_m14_33) (by decide) (by decide) (fun _ q => nomatch q) ⟨d1, kd1, rfl, AE, by omega, by omega⟩
    | succ k ih =>
      intro i T h hi HL zh AB AE
      have lE := natlt (AE).lt
      have hlt : i < cs.length := by omega
      refine Rn.pu (T' := T) (g' := (mkF m 10 #[.val (.ref b), .val (.int (Int32.ofNat i)), .val (.int (Int32.ofNat cs.length)), .val (.ref d1), .val (.int (Int32.ofNat i))] [(.int (Int32.ofNat i))])) ?_ fun _ zk => XS.iload HL.here hx rfl (hb hby d_jdk_52_m14_8) rfl zk
      refine Rn.pu (T' := T) (g' := (mkF m 11 #[.val (.ref b), .val (.int (Int32.ofNat i)), .val (.int (Int32.ofNat cs.length)), .val (.ref d1), .val (.int (Int32.ofNat i))] [(.int (Int32.ofNat cs.length)), (.int (Int32.ofNat i))])) ?_ fun _ zk => XS.iloadN HL.here hx rfl (hb hby d_jdk_52_m14_10) rfl zk
      refine Rn.pu (T' := T) (g' := (mkF m 14 #[.val (.ref b), .val (.int (Int32.ofNat i)), .val (.int (Int32.ofNat cs.length)), .val (.ref d1), .val (.int (Int32.ofNat i))] [])) ?_ fun _ zk => XS.icmpNo HL.here hx rfl (hb hby d_jdk_52_m14_11) rfl (c_ge_f (u_lt hlt (by omega))) zk
      refine Rn.pu (T' := T) (g' := (mkF m 15 #[.val (.ref b), .val (.int (Int32.ofNat i)), .val (.int (Int32.ofNat cs.length)), .val (.ref d1), .val (.int (Int32.ofNat i))] [(.ref d1)])) ?_ fun _ zk => XS.aloadN HL.here hx rfl (hb hby d_jdk_52_m14_14) rfl rfl zk
      refine Rn.pu (T' := T) (g' := (mkF m 17 #[.val (.ref b), .val (.int (Int32.ofNat i)), .val (.int (Int32.ofNat cs.length)), .val (.ref d1), .val (.int (Int32.ofNat i))] [(.int (Int32.ofNat i)), (.ref d1)])) ?_ fun _ zk => XS.iload HL.here hx rfl (hb hby d_jdk_52_m14_15) rfl zk
      refine Rn.pu (T' := T) (g' := (mkF m 18 #[.val (.ref b), .val (.int (Int32.ofNat i)), .val (.int (Int32.ofNat cs.length)), .val (.ref d1), .val (.int (Int32.ofNat i))] [(.ref b), (.int (Int32.ofNat i)), (.ref d1)])) ?_ fun _ zk => XS.aloadN HL.here hx rfl (hb hby d_jdk_52_m14_17) rfl rfl zk
      refine Rn.pu (T' := T) (g' := (mkF m 19 #[.val (.ref b), .val (.int (Int32.ofNat i)), .val (.int (Int32.ofNat cs.length)), .val (.ref d1), .val (.int (Int32.ofNat i))] [(.int (Int32.ofNat i)), (.ref b), (.int (Int32.ofNat i)), (.ref d1)])) ?_ fun _ zk => XS.iloadN HL.here hx rfl (hb hby d_jdk_52_m14_18) rfl zk
      refine Rn.pu (g' := (mkF m 20 #[.val (.ref b), .val (.int (Int32.ofNat i)), .val (.int (Int32.ofNat cs.length)), .val (.ref d1), .val (.int (Int32.ofNat i))] [(.int (cs.getD i 0)), (.int (Int32.ofNat i)), (.ref d1)])) ?_ (HL.cald AB ⟨u_nn (by omega), u_lt hlt (by omega)⟩ (v := .int (cs.getD i 0)) (by rw [u_cl (by omega)]; exact u_map hlt _) (g := (mkF m 19 #[.val (.ref b), .val (.int (Int32.ofNat i)), .val (.int (Int32.ofNat cs.length)), .val (.ref d1), .val (.int (Int32.ofNat i))] [(.int (Int32.ofNat i)), (.ref b), (.int (Int32.ofNat i)), (.ref d1)])) rfl rfl (hb hby d_jdk_52_m14_19))
      obtain ⟨_, T2, h2, H2, ⟨rfl, A2⟩, K2, st2⟩ := HL.callS (hw _ (List.mem_of_getElem? (i := 117) rfl)) (hw _ (List.mem_of_getElem? (i := 118) rfl)) (hw _ (List.mem_of_getElem? (i := 18) rfl)) (hw _ (List.mem_of_getElem? (i := 119) rfl)) (by decide) (MetN.pay (W := 0) (c_put l ⟨hw, SC0, hz0, SF1, rf1, SU2, SU3, SU4⟩ d1 (cs.getD i 0) kd1 _ i cs.length h HL.old hlt hn AE (by rw [u_wide, List.length_take]; omega) (by have := H0.old.1; omega)) (hw _ (List.mem_of_getElem? (i := 119) rfl)) (hw _ (List.mem_of_getElem? (i := 18) rfl)) (by decide) (by decide)) (g := (mkF m 20 #[.val (.ref b), .val (.int (Int32.ofNat i)), .val (.int (Int32.ofNat cs.length)), .val (.ref d1), .val (.int (Int32.ofNat i))] [(.int (cs.getD i 0)), (.int (Int32.ofNat i)), (.ref d1)])) rfl (by rw [hml]; rfl) (argsL := [(.ref d1), (.int (Int32.ofNat i)), (.int (cs.getD i 0))]) (rest := []) (lenOf pd__ABII_V rfl) rfl rfl (Nat.le_of_eq rfl) (hb hby d_jdk_52_m14_20) (by decide) (by decide) (allS (Or.inr (by omega)) all0)
      have zh2 := K2.1
      refine Rn.pu (g' := (mkF m 23 #[.val (.ref b), .val (.int (Int32.ofNat i)), .val (.int (Int32.ofNat cs.length)), .val (.ref d1), .val (.int (Int32.ofNat i))] [])) ?_ st2
      refine Rn.pu (T' := T2) (g' := (mkF m 26 #[.val (.ref b), .val (.int ((Int32.ofNat i) + (1 : Int32))), .val (.int (Int32.ofNat cs.length)), .val (.ref d1), .val (.int (Int32.ofNat i))] [])) ?_ fun _ zk => XS.iinc H2.here hx rfl (hb hby d_jdk_52_m14_23) rfl (l' := #[.val (.ref b), .val (.int ((Int32.ofNat i) + (1 : Int32))), .val (.int (Int32.ofNat cs.length)), .val (.ref d1), .val (.int (Int32.ofNat i))]) rfl zk
      refine Rn.pu (T' := T2) (g' := (mkF m 29 #[.val (.ref b), .val (.int ((Int32.ofNat i) + (1 : Int32))), .val (.int (Int32.ofNat cs.length)), .val (.ref d1), .val (.int ((Int32.ofNat i) + (1 : Int32)))] [])) ?_ fun _ zk => XS.iinc H2.here hx rfl (hb hby d_jdk_52_m14_26) rfl (l' := #[.val (.ref b), .val (.int ((Int32.ofNat i) + (1 : Int32))), .val (.int (Int32.ofNat cs.length)), .val (.ref d1), .val (.int ((Int32.ofNat i) + (1 : Int32)))]) rfl zk
      refine Rn.pu (T' := T2) (g' := (mkF m 8 #[.val (.ref b), .val (.int ((Int32.ofNat i) + (1 : Int32))), .val (.int (Int32.ofNat cs.length)), .val (.ref d1), .val (.int ((Int32.ofNat i) + (1 : Int32)))] [])) ?_ fun _ zk => XS.goto H2.here hx rfl (pc0 := 29) (pc' := 8) rfl (hb hby d_jdk_52_m14_29) (by decide) (by decide) zk
      rw [u_succ]
      have AE2 := A2
      rw [u_take hlt] at AE2
      exact ih (i + 1) _ _ (by omega) H2 (by omega) (AB.keep K2 (ninS (adne (by omega)) nin0)) AE2
  exact L8 cs.length 0 _ _ (by omega) H1 (Nat.le_refl _) (AB.keep K1 nin0) A1
set_option maxRecDepth 65536 in
set_option maxHeartbeats 40000000 in
theorem c_cmp5 (l : Launch) {Z : State} {a0 : Array Value} {zc : Int32} {fm : Value} (B : Base Z a0 zc fm) (b d : Addr) (kC kB : ClassId) (dv : Value) (cs : List Int32) (h0 : Heap) (O : Ext Z.heap h0) (hn : cs.length ≤ 4) (hbig : ∃ c ∈ cs, (255 : Int32) < c) (AB : Arv Z h0 b kC .char (Int32.ofNat cs.length) (cs.map Value.int) dv) (AD : Arv Z h0 d kB .byte (Int32.ofNat cs.length) [] (.int 0)) (bd : b ≠ d) (gd : Z.heap.size ≤ d) :
    MetN l Z (⟨"java/lang/StringUTF16", "compress", "([CI[BII)I"⟩ : MethodName) jdk_52_method_21_code 7 (some .int) [] ({ frames := 0, cells := 0, slots := 0, locals := 0 } : Room) #[(.ref b), (.int (0 : Int32)), (.ref d), (.int (0 : Int32)), (.int (Int32.ofNat cs.length))] h0 [d] (fun v h => ∃ k, v = some (.int (Int32.ofNat k)) ∧ k < cs.length ∧ (255 : Int32) < cs.getD k 0) := by
  obtain ⟨hw, SC0, hz0, SF1, rf1, SU2, SU3, SU4⟩ := B
  refine MetN.mk (plainFor_of_name pn_java_lang_StringUTF16) (fun m => ef_c_cmp5 m b (0 : Int32) d (0 : Int32) (Int32.ofNat cs.length)) O ?_
  intro p e s m below meth c T0 hx hby hml hret hlk hnm hsh H0
  have zs : s.heap.size = h0.size := by rw [hsh]
  have H0 := H0.weak (ws' := [d]) (fun _ q => nomatch q) (allS gd all0)
  refine Rn.pu (T' := T0) (g' := (mkF m 1 #[.val (.ref b), .val (.int (0 : Int32)), .val (.ref d), .val (.int (0 : Int32)), .val (.int (Int32.ofNat cs.length)), .unset, .unset] [(.int (0 : Int32))])) ?_ fun _ zk => XS.iconst H0.here hx rfl (hb hby d_jdk_52_m21_0) zk
  refine Rn.pu (T' := T0) (g' := (mkF m 3 #[.val (.ref b), .val (.int (0 : Int32)), .val (.ref d), .val (.int (0 : Int32)), .val (.int (Int32.ofNat cs.length)), .val (.int (0 : Int32)), .unset] [])) ?_ fun _ zk => XS.istore H0.here hx rfl (hb hby d_jdk_52_m21_1) rfl (l' := #[.val (.ref b), .val (.int (0 : Int32)), .val (.ref d), .val (.int (0 : Int32)), .val (.int (Int32.ofNat cs.length)), .val (.int (0 : Int32)), .unset]) rfl zk
  have L3 : ∀ (k i : Nat) (T : State) (h : Heap) (vs : List Value) (o6 : Slot), i + k = cs.length → vs.length = i → One o6 → (∀ j, j < i → ¬ (255 : Int32) < cs.getD j 0) → Hs p l e ({ frames := 0, cells := 0, slots := 0, locals := 0 } : Room) s m #[(.ref b), (.int (0 : Int32)), (.ref d), (.int (0 : Int32)), (.int (Int32.ofNat cs.length))] below meth c Z "java/lang/StringUTF16" [d] (fun v => v = s.vm) T h 0 0 → Arv Z h b kC .char (Int32.ofNat cs.length) (cs.map Value.int) dv → Arv Z h d kB .byte (Int32.ofNat cs.length) vs (.int 0) → Rn p e below s FrameEnd [d] (({ frames := 0, cells := 0, slots := 0, locals := 0 } : Room)).cells (({ frames := 0, cells := 0, slots := 0, locals := 0 } : Room)).slots (fun v _ h => ∃ k, v = some (.int (Int32.ofNat k)) ∧ k < cs.length ∧ (255 : Int32) < cs.getD k 0) T (mkF m 3 #[.val (.ref b), .val (.int (Int32.ofNat i)), .val (.ref d), .val (.int (Int32.ofNat i)), .val (.int (Int32.ofNat cs.length)), .val (.int (Int32.ofNat i)), o6] []) := by
    intro k
    induction k with
    | zero =>
      intro i T h vs o6 hi hv h6 hj HL AB AD
      exact absurd hbig (u_none (fun j q => hj j (by omega)))
    | succ k ih =>
      intro i T h vs o6 hi hv h6 hj HL AB AD
      have hlt : i < cs.length := by omega
      refine Rn.pu (T' := T) (g' := (mkF m 5 #[.val (.ref b), .val (.int (Int32.ofNat i)), .val (.ref d), .val (.int (Int32.ofNat i)), .val (.int (Int32.ofNat cs.length)), .val (.int (Int32.ofNat i)), o6] [(.int (Int32.ofNat i))])) ?_ fun _ zk => XS.iload HL.here hx rfl (hb hby d_jdk_52_m21_3) rfl zk
      refine Rn.pu (T' := T) (g' := (mkF m 7 #[.val (.ref b), .val (.int (Int32.ofNat i)), .val (.ref d), .val (.int (Int32.ofNat i)), .val (.int (Int32.ofNat cs.length)), .val (.int (Int32.ofNat i)), o6] [(.int (Int32.ofNat cs.length)), (.int (Int32.ofNat i))])) ?_ fun _ zk => XS.iload HL.here hx rfl (hb hby d_jdk_52_m21_5) rfl zk
      refine Rn.pu (T' := T) (g' := (mkF m 10 #[.val (.ref b), .val (.int (Int32.ofNat i)), .val (.ref d), .val (.int (Int32.ofNat i)), .val (.int (Int32.ofNat cs.length)), .val (.int (Int32.ofNat i)), o6] [])) ?_ fun _ zk => XS.icmpNo HL.here hx rfl (hb hby d_jdk_52_m21_7) rfl (c_ge_f (u_lt hlt (by omega))) zk
      refine Rn.pu (T' := T) (g' := (mkF m 11 #[.val (.ref b), .val (.int (Int32.ofNat i)), .val (.ref d), .val (.int (Int32.ofNat i)), .val (.int (Int32.ofNat cs.length)), .val (.int (Int32.ofNat i)), o6] [(.ref b)])) ?_ fun _ zk => XS.aloadN HL.here hx rfl (hb hby d_jdk_52_m21_10) rfl rfl zk
      refine Rn.pu (T' := T) (g' := (mkF m 12 #[.val (.ref b), .val (.int (Int32.ofNat i)), .val (.ref d), .val (.int (Int32.ofNat i)), .val (.int (Int32.ofNat cs.length)), .val (.int (Int32.ofNat i)), o6] [(.int (Int32.ofNat i)), (.ref b)])) ?_ fun _ zk => XS.iloadN HL.here hx rfl (hb hby d_jdk_52_m21_11) rfl zk
      refine Rn.pu (g' := (mkF m 13 #[.val (.ref b), .val (.int (Int32.ofNat i)), .val (.ref d), .val (.int (Int32.ofNat i)), .val (.int (Int32.ofNat cs.length)), .val (.int (Int32.ofNat i)), o6] [(.int (cs.getD i 0))])) ?_ (HL.cald AB ⟨u_nn (by omega), u_lt hlt (by omega)⟩ (v := .int (cs.getD i 0)) (by rw [u_cl (by omega)]; exact u_map hlt _) (g := (mkF m 12 #[.val (.ref b), .val (.int (Int32.ofNat i)), .val (.ref d), .val (.int (Int32.ofNat i)), .val (.int (Int32.ofNat cs.length)), .val (.int (Int32.ofNat i)), o6] [(.int (Int32.ofNat i)), (.ref b)])) rfl rfl (hb hby d_jdk_52_m21_12))
      refine Rn.pu (T' := T) (g' := (mkF m 15 #[.val (.ref b), .val (.int (Int32.ofNat i)), .val (.ref d), .val (.int (Int32.ofNat i)), .val (.int (Int32.ofNat cs.length)), .val (.int (Int32.ofNat i)), .val (.int (cs.getD i 0))] [])) ?_ fun _ zk => XS.istoreS HL.here hx rfl (hb hby d_jdk_52_m21_13) rfl rfl h6 zk
      refine Rn.pu (T' := T) (g' := (mkF m 17 #[.val (.ref b), .val (.int (Int32.ofNat i)), .val (.ref d), .val (.int (Int32.ofNat i)), .val (.int (Int32.ofNat cs.length)), .val (.int (Int32.ofNat i)), .val (.int (cs.getD i 0))] [(.int (cs.getD i 0))])) ?_ fun _ zk => XS.iload HL.here hx rfl (hb hby d_jdk_52_m21_15) rfl zk
      refine Rn.pu (T' := T) (g' := (mkF m 20 #[.val (.ref b), .val (.int (Int32.ofNat i)), .val (.ref d), .val (.int (Int32.ofNat i)), .val (.int (Int32.ofNat cs.length)), .val (.int (Int32.ofNat i)), .val (.int (cs.getD i 0))] [(.int (255 : Int32)), (.int (cs.getD i 0))])) ?_ fun _ zk => XS.sipush HL.here hx rfl (hb hby d_jdk_52_m21_17) zk
      by_cases b20_1 : (255 : Int32) < (cs.getD i 0)
      ·
        refine Rn.pu (T' := T) (g' := (mkF m 23 #[.val (.ref b), .val (.int (Int32.ofNat i)), .val (.ref d), .val (.int (Int32.ofNat i)), .val (.int (Int32.ofNat cs.length)), .val (.int (Int32.ofNat i)), .val (.int (cs.getD i 0))] [])) ?_ fun _ zk => XS.icmpNo HL.here hx rfl (hb hby d_jdk_52_m21_20) rfl (c_le_f b20_1) zk
        refine Rn.pu (T' := T) (g' := (mkF m 25 #[.val (.ref b), .val (.int (Int32.ofNat i)), .val (.ref d), .val (.int (Int32.ofNat i)), .val (.int (Int32.ofNat cs.length)), .val (.int (Int32.ofNat i)), .val (.int (cs.getD i 0))] [(.int (Int32.ofNat i))])) ?_ fun _ zk => XS.iload HL.here hx rfl (hb hby d_jdk_52_m21_23) rfl zk
        exact HL.retI ends_N hlk hret (hb hby d_jdk_52_m21_25) (by decide) (by decide) (fun _ q => q) ⟨i, rfl, hlt, b20_1⟩
      ·
        refine Rn.pu (T' := T) (g' := (mkF m 26 #[.val (.ref b), .val (.int (Int32.ofNat i)), .val (.ref d), .val (.int (Int32.ofNat i)), .val (.int (Int32.ofNat cs.length)), .val (.int (Int32.ofNat i)), .val (.int (cs.getD i 0))] [])) ?_ fun _ zk => XS.icmpYes HL.here hx rfl (pc0 := 20) (pc' := 26) rfl (hb hby d_jdk_52_m21_20) rfl (c_le_t b20_1) (by decide) (by decide) zk
        refine Rn.pu (T' := T) (g' := (mkF m 27 #[.val (.ref b), .val (.int (Int32.ofNat i)), .val (.ref d), .val (.int (Int32.ofNat i)), .val (.int (Int32.ofNat cs.length)), .val (.int (Int32.ofNat i)), .val (.int (cs.getD i 0))] [(.ref d)])) ?_ fun _ zk => XS.aloadN HL.here hx rfl (hb hby d_jdk_52_m21_26) rfl rfl zk
        refine Rn.pu (T' := T) (g' := (mkF m 28 #[.val (.ref b), .val (.int (Int32.ofNat i)), .val (.ref d), .val (.int (Int32.ofNat i)), .val (.int (Int32.ofNat cs.length)), .val (.int (Int32.ofNat i)), .val (.int (cs.getD i 0))] [(.int (Int32.ofNat i)), (.ref d)])) ?_ fun _ zk => XS.iloadN HL.here hx rfl (hb hby d_jdk_52_m21_27) rfl zk
        refine Rn.pu (T' := T) (g' := (mkF m 30 #[.val (.ref b), .val (.int (Int32.ofNat i)), .val (.ref d), .val (.int (Int32.ofNat i)), .val (.int (Int32.ofNat cs.length)), .val (.int (Int32.ofNat i)), .val (.int (cs.getD i 0))] [(.int (cs.getD i 0)), (.int (Int32.ofNat i)), (.ref d)])) ?_ fun _ zk => XS.iload HL.here hx rfl (hb hby d_jdk_52_m21_28) rfl zk
        refine Rn.pu (T' := T) (g' := (mkF m 31 #[.val (.ref b), .val (.int (Int32.ofNat i)), .val (.ref d), .val (.int (Int32.ofNat i)), .val (.int (Int32.ofNat cs.length)), .val (.int (Int32.ofNat i)), .val (.int (cs.getD i 0))] [(.int (nar .byte (cs.getD i 0))), (.int (Int32.ofNat i)), (.ref d)])) ?_ fun _ zk => XT.i2b HL.here hx rfl (hb hby d_jdk_52_m21_30) rfl zk
        obtain ⟨T2, h2, H2, K2, A2, st2⟩ := HL.stB AD ⟨u_nn (by omega), u_lt hlt (by omega)⟩ (by rw [u_cl (by omega)]; omega) (Or.inl (List.mem_singleton.mpr rfl)) (g := (mkF m 31 #[.val (.ref b), .val (.int (Int32.ofNat i)), .val (.ref d), .val (.int (Int32.ofNat i)), .val (.int (Int32.ofNat cs.length)), .val (.int (Int32.ofNat i)), .val (.int (cs.getD i 0))] [(.int (nar .byte (cs.getD i 0))), (.int (Int32.ofNat i)), (.ref d)])) rfl rfl (hb hby d_jdk_52_m21_31)
        have zh2 := K2.1
        refine Rn.pu (g' := (mkF m 32 #[.val (.ref b), .val (.int (Int32.ofNat i)), .val (.ref d), .val (.int (Int32.ofNat i)), .val (.int (Int32.ofNat cs.length)), .val (.int (Int32.ofNat i)), .val (.int (cs.getD i 0))] [])) ?_ st2
        refine Rn.pu (T' := T2) (g' := (mkF m 35 #[.val (.ref b), .val (.int ((Int32.ofNat i) + (1 : Int32))), .val (.ref d), .val (.int (Int32.ofNat i)), .val (.int (Int32.ofNat cs.length)), .val (.int (Int32.ofNat i)), .val (.int (cs.getD i 0))] [])) ?_ fun _ zk => XS.iinc H2.here hx rfl (hb hby d_jdk_52_m21_32) rfl (l' := #[.val (.ref b), .val (.int ((Int32.ofNat i) + (1 : Int32))), .val (.ref d), .val (.int (Int32.ofNat i)), .val (.int (Int32.ofNat cs.length)), .val (.int (Int32.ofNat i)), .val (.int (cs.getD i 0))]) rfl zk
        refine Rn.pu (T' := T2) (g' := (mkF m 38 #[.val (.ref b), .val (.int ((Int32.ofNat i) + (1 : Int32))), .val (.ref d), .val (.int ((Int32.ofNat i) + (1 : Int32))), .val (.int (Int32.ofNat cs.length)), .val (.int (Int32.ofNat i)), .val (.int (cs.getD i 0))] [])) ?_ fun _ zk => XS.iinc H2.here hx rfl (hb hby d_jdk_52_m21_35) rfl (l' := #[.val (.ref b), .val (.int ((Int32.ofNat i) + (1 : Int32))), .val (.ref d), .val (.int ((Int32.ofNat i) + (1 : Int32))), .val (.int (Int32.ofNat cs.length)), .val (.int (Int32.ofNat i)), .val (.int (cs.getD i 0))]) rfl zk
        refine Rn.pu (T' := T2) (g' := (mkF m 41 #[.val (.ref b), .val (.int ((Int32.ofNat i) + (1 : Int32))), .val (.ref d), .val (.int ((Int32.ofNat i) + (1 : Int32))), .val (.int (Int32.ofNat cs.length)), .val (.int ((Int32.ofNat i) + (1 : Int32))), .val (.int (cs.getD i 0))] [])) ?_ fun _ zk => XS.iinc H2.here hx rfl (hb hby d_jdk_52_m21_38) rfl (l' := #[.val (.ref b), .val (.int ((Int32.ofNat i) + (1 : Int32))), .val (.ref d), .val (.int ((Int32.ofNat i) + (1 : Int32))), .val (.int (Int32.ofNat cs.length)), .val (.int ((Int32.ofNat i) + (1 : Int32))), .val (.int (cs.getD i 0))]) rfl zk
        refine Rn.pu (T' := T2) (g' := (mkF m 3 #[.val (.ref b), .val (.int ((Int32.ofNat i) + (1 : Int32))), .val (.ref d), .val (.int ((Int32.ofNat i) + (1 : Int32))), .val (.int (Int32.ofNat cs.length)), .val (.int ((Int32.ofNat i) + (1 : Int32))), .val (.int (cs.getD i 0))] [])) ?_ fun _ zk => XS.goto H2.here hx rfl (pc0 := 41) (pc' := 3) rfl (hb hby d_jdk_52_m21_41) (by decide) (by decide) zk
        rw [u_succ]
        exact ih (i + 1) _ _ _ _ (by omega) (by rw [List.length_append, hv]; rfl) (One.val rfl) (fun j hj' => by
          by_cases e : j < i
          · exact hj j e
          · obtain rfl : j = i := by omega
            exact b20_1) H2 (AB.keep K2 (ninS bd nin0)) A2
  exact L3 cs.length 0 _ _ _ _ (by omega) rfl One.u (fun j hj => absurd hj (by omega)) H0 AB AD
set_option maxRecDepth 65536 in
set_option maxHeartbeats 40000000 in
theorem c_cmp3 (l : Launch) {Z : State} {a0 : Array Value} {zc : Int32} {fm : Value} (B : Base Z a0 zc fm) (b : Addr) (kC : ClassId) (dv : Value) (cs : List Int32) (h0 : Heap) (O : Ext Z.heap h0) (hn : cs.length ≤ 4) (hc : ∀ c ∈ cs, ¬ c < 0 ∧ ¬ (65535 : Int32) < c) (hbig : ∃ c ∈ cs, (255 : Int32) < c) (AB : Arv Z h0 b kC .char (Int32.ofNat cs.length) (cs.map Value.int) dv) :
    MetN l Z (⟨"java/lang/StringUTF16", "compress", "([CII)[B"⟩ : MethodName) jdk_52_method_16_code 6 (some (.array .byte)) [] ({ frames := 3, cells := 2, slots := 12, locals := 40 } : Room) #[(.ref b), (.int (0 : Int32)), (.int (Int32.ofNat cs.length))] h0 [] (fun v h => ∃ d kB, v = some (.ref d) ∧ Arv Z h d kB .byte (Int32.ofNat (2 * cs.length)) (StrChars.Road.wideBytes cs) (.int 0) ∧ h0.size ≤ d ∧ h.size > d) := by
  obtain ⟨hw, SC0, hz0, SF1, rf1, SU2, SU3, SU4⟩ := B
  refine MetN.mk (plainFor_of_name pn_java_lang_StringUTF16) (fun m => ef_c_cmp3 m b (0 : Int32) (Int32.ofNat cs.length)) O ?_
  intro p e s m below meth c T0 hx hby hml hret hlk hnm hsh H0
  have zs : s.heap.size = h0.size := by rw [hsh]
  have lb := natlt (AB).lt
  refine Rn.pu (T' := T0) (g' := (mkF m 1 #[.val (.ref b), .val (.int (0 : Int32)), .val (.int (Int32.ofNat cs.length)), .unset, .unset, .unset] [(.int (Int32.ofNat cs.length))])) ?_ fun _ zk => XS.iloadN H0.here hx rfl (hb hby d_jdk_52_m16_0) rfl zk
  obtain ⟨a1, k1, T1, h1, e1, H1, K1, A1, st1⟩ := H0.newP (aty := .byte) (hw _ (List.mem_of_getElem? (i := 20) rfl)) (g := (mkF m 1 #[.val (.ref b), .val (.int (0 : Int32)), .val (.int (Int32.ofNat cs.length)), .unset, .unset, .unset] [(.int (Int32.ofNat cs.length))])) rfl (hb hby d_jdk_52_m16_1) rfl (u_nn (by omega)) (cap := 4) (by rw [u_cl (by omega)]; omega) (by decide) (by decide) (by decide)
  have zh1 := K1.1
  have l1 := natlt (A1).lt
  have g1 : s.heap.size ≤ a1 := by omega
  refine Rn.pu (g' := (mkF m 3 #[.val (.ref b), .val (.int (0 : Int32)), .val (.int (Int32.ofNat cs.length)), .unset, .unset, .unset] [(.ref a1)])) ?_ st1
  refine Rn.pu (T' := T1) (g' := (mkF m 4 #[.val (.ref b), .val (.int (0 : Int32)), .val (.int (Int32.ofNat cs.length)), .val (.ref a1), .unset, .unset] [])) ?_ fun _ zk => XS.astoreN H1.here hx rfl (hb hby d_jdk_52_m16_3) rfl rfl (l' := #[.val (.ref b), .val (.int (0 : Int32)), .val (.int (Int32.ofNat cs.length)), .val (.ref a1), .unset, .unset]) rfl zk
  refine Rn.pu (T' := T1) (g' := (mkF m 5 #[.val (.ref b), .val (.int (0 : Int32)), .val (.int (Int32.ofNat cs.length)), .val (.ref a1), .unset, .unset] [(.ref b)])) ?_ fun _ zk => XS.aloadN H1.here hx rfl (hb hby d_jdk_52_m16_4) rfl rfl zk
  refine Rn.pu (T' := T1) (g' := (mkF m 6 #[.val (.ref b), .val (.int (0 : Int32)), .val (.int (Int32.ofNat cs.length)), .val (.ref a1), .unset, .unset] [(.int (0 : Int32)), (.ref b)])) ?_ fun _ zk => XS.iloadN H1.here hx rfl (hb hby d_jdk_52_m16_5) rfl zk
  refine Rn.pu (T' := T1) (g' := (mkF m 7 #[.val (.ref b), .val (.int (0 : Int32)), .val (.int (Int32.ofNat cs.length)), .val (.ref a1), .unset, .unset] [(.ref a1), (.int (0 : Int32)), (.ref b)])) ?_ fun _ zk => XS.aloadN H1.here hx rfl (hb hby d_jdk_52_m16_6) rfl rfl zk
  refine Rn.pu (T' := T1) (g' := (mkF m 8 #[.val (.ref b), .val (.int (0 : Int32)), .val (.int (Int32.ofNat cs.length)), .val (.ref a1), .unset, .unset] [(.int (0 : Int32)), (.ref a1), (.int (0 : Int32)), (.ref b)])) ?_ fun _ zk => XS.iconst H1.here hx rfl (hb hby d_jdk_52_m16_7) zk
  refine Rn.pu (T' := T1) (g' := (mkF m 9 #[.val (.ref b), .val (.int (0 : Int32)), .val (.int (Int32.ofNat cs.length)), .val (.ref a1), .unset, .unset] [(.int (Int32.ofNat cs.length)), (.int (0 : Int32)), (.ref a1), (.int (0 : Int32)), (.ref b)])) ?_ fun _ zk => XS.iloadN H1.here hx rfl (hb hby d_jdk_52_m16_8) rfl zk
  obtain ⟨_, T2, h2, H2, ⟨k2, rfl, lk2, bk2⟩, K2, st2⟩ := H1.callS (hw _ (List.mem_of_getElem? (i := 21) rfl)) (hw _ (List.mem_of_getElem? (i := 22) rfl)) (hw _ (List.mem_of_getElem? (i := 18) rfl)) (hw _ (List.mem_of_getElem? (i := 23) rfl)) (by decide) (MetN.pay (W := 0) (c_cmp5 l ⟨hw, SC0, hz0, SF1, rf1, SU2, SU3, SU4⟩ b a1 kC k1 dv cs h1 H1.old hn hbig (AB.keep K1 nin0) A1 (adne (by omega)) (by have := H0.old.1; omega)) (hw _ (List.mem_of_getElem? (i := 23) rfl)) (hw _ (List.mem_of_getElem? (i := 18) rfl)) (by decide) (by decide)) (g := (mkF m 9 #[.val (.ref b), .val (.int (0 : Int32)), .val (.int (Int32.ofNat cs.length)), .val (.ref a1), .unset, .unset] [(.int (Int32.ofNat cs.length)), (.int (0 : Int32)), (.ref a1), (.int (0 : Int32)), (.ref b)])) rfl (by rw [hml]; rfl) (argsL := [(.ref b), (.int (0 : Int32)), (.ref a1), (.int (0 : Int32)), (.int (Int32.ofNat cs.length))]) (rest := []) (lenOf pd__ACIABII_I rfl) rfl rfl (Nat.le_of_eq rfl) (hb hby d_jdk_52_m16_9) (by decide) (by decide) (allS (Or.inr (by omega)) all0)
  have zh2 := K2.1
  refine Rn.pu (g' := (mkF m 12 #[.val (.ref b), .val (.int (0 : Int32)), .val (.int (Int32.ofNat cs.length)), .val (.ref a1), .unset, .unset] [(.int (Int32.ofNat k2))])) ?_ st2
  refine Rn.pu (T' := T2) (g' := (mkF m 14 #[.val (.ref b), .val (.int (0 : Int32)), .val (.int (Int32.ofNat cs.length)), .val (.ref a1), .val (.int (Int32.ofNat k2)), .unset] [])) ?_ fun _ zk => XS.istore H2.here hx rfl (hb hby d_jdk_52_m16_12) rfl (l' := #[.val (.ref b), .val (.int (0 : Int32)), .val (.int (Int32.ofNat cs.length)), .val (.ref a1), .val (.int (Int32.ofNat k2)), .unset]) rfl zk
  refine Rn.pu (T' := T2) (g' := (mkF m 16 #[.val (.ref b), .val (.int (0 : Int32)), .val (.int (Int32.ofNat cs.length)), .val (.ref a1), .val (.int (Int32.ofNat k2)), .unset] [(.int (Int32.ofNat k2))])) ?_ fun _ zk => XS.iload H2.here hx rfl (hb hby d_jdk_52_m16_14) rfl zk
  refine Rn.pu (T' := T2) (g' := (mkF m 17 #[.val (.ref b), .val (.int (0 : Int32)), .val (.int (Int32.ofNat cs.length)), .val (.ref a1), .val (.int (Int32.ofNat k2)), .unset] [(.int (Int32.ofNat cs.length)), (.int (Int32.ofNat k2))])) ?_ fun _ zk => XS.iloadN H2.here hx rfl (hb hby d_jdk_52_m16_16) rfl zk
  refine Rn.pu (T' := T2) (g' := (mkF m 20 #[.val (.ref b), .val (.int (0 : Int32)), .val (.int (Int32.ofNat cs.length)), .val (.ref a1), .val (.int (Int32.ofNat k2)), .unset] [])) ?_ fun _ zk => XS.icmpNo H2.here hx rfl (hb hby d_jdk_52_m16_17) rfl (c_eq_f (u_ne (by omega) (by omega) (by omega))) zk
  refine Rn.pu (T' := T2) (g' := (mkF m 21 #[.val (.ref b), .val (.int (0 : Int32)), .val (.int (Int32.ofNat cs.length)), .val (.ref a1), .val (.int (Int32.ofNat k2)), .unset] [(.ref b)])) ?_ fun _ zk => XS.aloadN H2.here hx rfl (hb hby d_jdk_52_m16_20) rfl rfl zk
  refine Rn.pu (T' := T2) (g' := (mkF m 22 #[.val (.ref b), .val (.int (0 : Int32)), .val (.int (Int32.ofNat cs.length)), .val (.ref a1), .val (.int (Int32.ofNat k2)), .unset] [(.int (0 : Int32)), (.ref b)])) ?_ fun _ zk => XS.iloadN H2.here hx rfl (hb hby d_jdk_52_m16_21) rfl zk
  refine Rn.pu (T' := T2) (g' := (mkF m 23 #[.val (.ref b), .val (.int (0 : Int32)), .val (.int (Int32.ofNat cs.length)), .val (.ref a1), .val (.int (Int32.ofNat k2)), .unset] [(.int (Int32.ofNat cs.length)), (.int (0 : Int32)), (.ref b)])) ?_ fun _ zk => XS.iloadN H2.here hx rfl (hb hby d_jdk_52_m16_22) rfl zk
  obtain ⟨_, T3, h3, H3, ⟨d3, kd3, rfl, A3, gd3, ld3⟩, K3, st3⟩ := H2.callS (hw _ (List.mem_of_getElem? (i := 107) rfl)) (hw _ (List.mem_of_getElem? (i := 108) rfl)) (hw _ (List.mem_of_getElem? (i := 18) rfl)) (hw _ (List.mem_of_getElem? (i := 109) rfl)) (by decide) (MetN.pay (W := 0) (c_tob l ⟨hw, SC0, hz0, SF1, rf1, SU2, SU3, SU4⟩ b kC dv cs h2 H2.old hn ((AB.keep K1 nin0).keep K2 (ninS (adne (by omega)) nin0))) (hw _ (List.mem_of_getElem? (i := 109) rfl)) (hw _ (List.mem_of_getElem? (i := 18) rfl)) (by decide) (by decide)) (g := (mkF m 23 #[.val (.ref b), .val (.int (0 : Int32)), .val (.int (Int32.ofNat cs.length)), .val (.ref a1), .val (.int (Int32.ofNat k2)), .unset] [(.int (Int32.ofNat cs.length)), (.int (0 : Int32)), (.ref b)])) rfl (by rw [hml]; rfl) (argsL := [(.ref b), (.int (0 : Int32)), (.int (Int32.ofNat cs.length))]) (rest := []) (lenOf pd__ACII_AB rfl) rfl rfl (Nat.le_of_eq rfl) (hb hby d_jdk_52_m16_23) (by decide) (by decide) all0
  have zh3 := K3.1
  refine Rn.pu (g' := (mkF m 26 #[.val (.ref b), .val (.int (0 : Int32)), .val (.int (Int32.ofNat cs.length)), .val (.ref a1), .val (.int (Int32.ofNat k2)), .unset] [(.ref d3)])) ?_ st3
  refine Rn.pu (T' := T3) (g' := (mkF m 28 #[.val (.ref b), .val (.int (0 : Int32)), .val (.int (Int32.ofNat cs.length)), .val (.ref a1), .val (.int (Int32.ofNat k2)), .val (.ref d3)] [])) ?_ fun _ zk => XS.astore H3.here hx rfl (hb hby d_jdk_52_m16_26) rfl rfl (l' := #[.val (.ref b), .val (.int (0 : Int32)), .val (.int (Int32.ofNat cs.length)), .val (.ref a1), .val (.int (Int32.ofNat k2)), .val (.ref d3)]) rfl zk
  refine Rn.pu (T' := T3) (g' := (mkF m 30 #[.val (.ref b), .val (.int (0 : Int32)), .val (.int (Int32.ofNat cs.length)), .val (.ref a1), .val (.int (Int32.ofNat k2)), .val (.ref d3)] [(.ref d3)])) ?_ fun _ zk => XS.aload H3.here hx rfl (hb hby d_jdk_52_m16_28) rfl rfl zk
  refine Rn.pu (T' := T3) (g' := (mkF m 32 #[.val (.ref b), .val (.int (0 : Int32)), .val (.int (Int32.ofNat cs.length)), .val (.ref a1), .val (.int (Int32.ofNat k2)), .val (.ref d3)] [(.int (Int32.ofNat k2)), (.ref d3)])) ?_ fun _ zk => XS.iload H3.here hx rfl (hb hby d_jdk_52_m16_30) rfl zk
  obtain ⟨_, T4, h4, H4, ⟨rfl, rfl⟩, -, st4⟩ := H3.callS (hw _ (List.mem_of_getElem? (i := 123) rfl)) (hw _ (List.mem_of_getElem? (i := 124) rfl)) (hw _ (List.mem_of_getElem? (i := 18) rfl)) (hw _ (List.mem_of_getElem? (i := 125) rfl)) (by decide) (MetN.pay (W := 0) (c_getc l ⟨hw, SC0, hz0, SF1, rf1, SU2, SU3, SU4⟩ d3 kd3 cs k2 h3 H3.old lk2 hn hc A3) (hw _ (List.mem_of_getElem? (i := 125) rfl)) (hw _ (List.mem_of_getElem? (i := 18) rfl)) (by decide) (by decide)) (g := (mkF m 32 #[.val (.ref b), .val (.int (0 : Int32)), .val (.int (Int32.ofNat cs.length)), .val (.ref a1), .val (.int (Int32.ofNat k2)), .val (.ref d3)] [(.int (Int32.ofNat k2)), (.ref d3)])) rfl (by rw [hml]; rfl) (argsL := [(.ref d3), (.int (Int32.ofNat k2))]) (rest := []) (lenOf pd__ABI_C rfl) rfl rfl (Nat.le_of_eq rfl) (hb hby d_jdk_52_m16_32) (by decide) (by decide) all0
  refine Rn.pu (g' := (mkF m 35 #[.val (.ref b), .val (.int (0 : Int32)), .val (.int (Int32.ofNat cs.length)), .val (.ref a1), .val (.int (Int32.ofNat k2)), .val (.ref d3)] [(.int (cs.getD k2 0))])) ?_ st4
  refine Rn.pu (T' := T4) (g' := (mkF m 38 #[.val (.ref b), .val (.int (0 : Int32)), .val (.int (Int32.ofNat cs.length)), .val (.ref a1), .val (.int (Int32.ofNat k2)), .val (.ref d3)] [(.int (255 : Int32)), (.int (cs.getD k2 0))])) ?_ fun _ zk => XS.sipush H4.here hx rfl (hb hby d_jdk_52_m16_35) zk
  refine Rn.pu (T' := T4) (g' := (mkF m 54 #[.val (.ref b), .val (.int (0 : Int32)), .val (.int (Int32.ofNat cs.length)), .val (.ref a1), .val (.int (Int32.ofNat k2)), .val (.ref d3)] [])) ?_ fun _ zk => XS.icmpYes H4.here hx rfl (pc0 := 38) (pc' := 54) rfl (hb hby d_jdk_52_m16_38) rfl (c_gt_t bk2) (by decide) (by decide) zk
  refine Rn.pu (T' := T4) (g' := (mkF m 56 #[.val (.ref b), .val (.int (0 : Int32)), .val (.int (Int32.ofNat cs.length)), .val (.ref a1), .val (.int (Int32.ofNat k2)), .val (.ref d3)] [(.ref d3)])) ?_ fun _ zk => XS.aload H4.here hx rfl (hb hby d_jdk_52_m16_54) rfl rfl zk
  exact H4.retA ends_N hlk hret rfl rfl rfl (hb hby d_jdk_52_m16_56) (by decide) (by decide) (fun _ q => nomatch q) ⟨d3, kd3, rfl, A3, by omega, by omega⟩
set_option maxRecDepth 65536 in
set_option maxHeartbeats 40000000 in
theorem c_codl (l : Launch) {Z : State} {a0 : Array Value} {zc : Int32} {fm : Value} (B : Base Z a0 zc fm) (d : Addr) (kB : ClassId) (vs : List Value) (cs : List Int32) (h0 : Heap) (O : Ext Z.heap h0) (hn : cs.length ≤ 4) (h1 : 0 < cs.length) (AD : Arv Z h0 d kB .byte (Int32.ofNat (2 * cs.length)) vs (.int 0)) :
    MetN l Z (⟨"java/lang/StringUTF16", "coderFromArrayLen", "([BI)B"⟩ : MethodName) jdk_52_method_15_code 2 (some .byte) [] ({ frames := 0, cells := 0, slots := 0, locals := 0 } : Room) #[(.ref d), (.int (Int32.ofNat cs.length))] h0 [] (fun v h => v = some (.int 1) ∧ h0 = h) := by
  obtain ⟨hw, SC0, hz0, SF1, rf1, SU2, SU3, SU4⟩ := B
  refine MetN.mk (plainFor_of_name pn_java_lang_StringUTF16) (fun m => ef_c_codl m d (Int32.ofNat cs.length)) O ?_
  intro p e s m below meth c T0 hx hby hml hret hlk hnm hsh H0
  have zs : s.heap.size = h0.size := by rw [hsh]
  refine Rn.pu (T' := T0) (g' := (mkF m 1 #[.val (.ref d), .val (.int (Int32.ofNat cs.length))] [(.int (Int32.ofNat cs.length))])) ?_ fun _ zk => XS.iloadN H0.here hx rfl (hb hby d_jdk_52_m15_0) rfl zk
  refine Rn.pu (T' := T0) (g' := (mkF m 2 #[.val (.ref d), .val (.int (Int32.ofNat cs.length))] [(.ref d), (.int (Int32.ofNat cs.length))])) ?_ fun _ zk => XS.aloadN H0.here hx rfl (hb hby d_jdk_52_m15_1) rfl rfl zk
  refine Rn.pu (g' := (mkF m 3 #[.val (.ref d), .val (.int (Int32.ofNat cs.length))] [(.int (Int32.ofNat (2 * cs.length))), (.int (Int32.ofNat cs.length))])) ?_ (H0.alen AD (g := (mkF m 2 #[.val (.ref d), .val (.int (Int32.ofNat cs.length))] [(.ref d), (.int (Int32.ofNat cs.length))])) rfl rfl (hb hby d_jdk_52_m15_2))
  refine Rn.pu (T' := T0) (g' := (mkF m 4 #[.val (.ref d), .val (.int (Int32.ofNat cs.length))] [(.int ((Int32.ofNat cs.length) - (Int32.ofNat (2 * cs.length))))])) ?_ fun _ zk => XS.isub H0.here hx rfl (hb hby d_jdk_52_m15_3) rfl zk
  refine Rn.pu (T' := T0) (g' := (mkF m 6 #[.val (.ref d), .val (.int (Int32.ofNat cs.length))] [(.int (31 : Int32)), (.int ((Int32.ofNat cs.length) - (Int32.ofNat (2 * cs.length))))])) ?_ fun _ zk => XS.bipush H0.here hx rfl (hb hby d_jdk_52_m15_4) zk
  refine Rn.pu (T' := T0) (g' := (mkF m 7 #[.val (.ref d), .val (.int (Int32.ofNat cs.length))] [(.int (XT.ushr ((Int32.ofNat cs.length) - (Int32.ofNat (2 * cs.length))) (31 : Int32)))])) ?_ fun _ zk => XT.iushr H0.here hx rfl (hb hby d_jdk_52_m15_6) rfl zk
  refine Rn.pu (T' := T0) (g' := (mkF m 8 #[.val (.ref d), .val (.int (Int32.ofNat cs.length))] [(.int (nar .byte (XT.ushr ((Int32.ofNat cs.length) - (Int32.ofNat (2 * cs.length))) (31 : Int32))))])) ?_ fun _ zk => XT.i2b H0.here hx rfl (hb hby d_jdk_52_m15_7) rfl zk
  exact H0.retS ends_N hlk (t := .byte) hret (by simp) (hb hby d_jdk_52_m15_8) (by decide) (by decide) (fun _ q => nomatch q) ⟨by rw [u_cod hn h1]; rfl, rfl⟩
set_option maxRecDepth 65536 in
set_option maxHeartbeats 40000000 in
theorem c_nwu4 (l : Launch) {Z : State} {a0 : Array Value} {zc : Int32} {fm : Value} (B : Base Z a0 zc fm) (x b : Addr) (kC : ClassId) (dv : Value) (cs : List Int32) (h0 : Heap) (O : Ext Z.heap h0) (hn : cs.length ≤ 4) (h1 : 0 < cs.length) (hc : ∀ c ∈ cs, ¬ c < 0 ∧ ¬ (65535 : Int32) < c) (hbig : ∃ c ∈ cs, (255 : Int32) < c) (AB : Arv Z h0 b kC .char (Int32.ofNat cs.length) (cs.map Value.int) dv) (E : Exa Z h0 x "java/lang/String") (G1 : Fld Z h0 x "java/lang/String" "value" "[B" .null) (G2 : Fld Z h0 x "java/lang/String" "coder" "B" (.int (0 : Int32))) (gx : Z.heap.size ≤ x) :
    MetN l Z (⟨"java/lang/String", "<init>", "([CIILjava/lang/Void;)V"⟩ : MethodName) jdk_42_method_149_code 6 none [] ({ frames := 4, cells := 2, slots := 12, locals := 57 } : Room) #[(.ref x), (.ref b), (.int (0 : Int32)), (.int (Int32.ofNat cs.length)), .null] h0 [x] (fun v h => v = none ∧ ∃ t, Str Z h x t cs ∧ h.size > t) := by
  obtain ⟨hw, SC0, hz0, SF1, rf1, SU2, SU3, SU4⟩ := B
  refine MetN.mk (plainFor_of_name pn_java_lang_String) (fun m => ef_c_nwu4 m x b (0 : Int32) (Int32.ofNat cs.length)) O ?_
  intro p e s m below meth c T0 hx hby hml hret hlk hnm hsh H0
  have zs : s.heap.size = h0.size := by rw [hsh]
  have lx := natlt (E).lt
  have lb := natlt (AB).lt
  have H0 := H0.weak (ws' := [x]) (fun _ q => nomatch q) (allS gx all0)
  refine Rn.pu (T' := T0) (g' := (mkF m 1 #[.val (.ref x), .val (.ref b), .val (.int (0 : Int32)), .val (.int (Int32.ofNat cs.length)), .val .null, .unset] [(.ref x)])) ?_ fun _ zk => XS.aloadN H0.here hx rfl (hb hby d_jdk_42_m149_0) rfl rfl zk
  obtain ⟨T1, H1, st1⟩ := H0.initO (hw _ (List.mem_of_getElem? (i := 12) rfl)) (hw _ (List.mem_of_getElem? (i := 13) rfl)) (hw _ (List.mem_of_getElem? (i := 14) rfl)) (g := (mkF m 1 #[.val (.ref x), .val (.ref b), .val (.int (0 : Int32)), .val (.int (Int32.ofNat cs.length)), .val .null, .unset] [(.ref x)])) rfl (by rw [hml]; rfl) rfl (hb hby d_jdk_42_m149_1) (by decide) (W := 0) (Nat.le_of_eq rfl) (by decide)
  refine Rn.pu (g' := (mkF m 4 #[.val (.ref x), .val (.ref b), .val (.int (0 : Int32)), .val (.int (Int32.ofNat cs.length)), .val .null, .unset] [])) ?_ st1
  refine Rn.pu (T' := T1) (g' := (mkF m 5 #[.val (.ref x), .val (.ref b), .val (.int (0 : Int32)), .val (.int (Int32.ofNat cs.length)), .val .null, .unset] [(.int (Int32.ofNat cs.length))])) ?_ fun _ zk => XS.iloadN H1.here hx rfl (hb hby d_jdk_42_m149_4) rfl zk
  refine Rn.pu (T' := T1) (g' := (mkF m 27 #[.val (.ref x), .val (.ref b), .val (.int (0 : Int32)), .val (.int (Int32.ofNat cs.length)), .val .null, .unset] [])) ?_ fun _ zk => XS.ifYes H1.here hx rfl (pc0 := 5) (pc' := 27) rfl (hb hby d_jdk_42_m149_5) rfl (z_ne_t (u_ne0 h1 (by omega))) (by decide) (by decide) zk
  obtain ⟨T2, H2, st2⟩ := H1.getS (host := "") (Or.inl (hw _ (List.mem_of_getElem? (i := 15) rfl))) Via.refl (SC0.ext H1.old) (g := (mkF m 27 #[.val (.ref x), .val (.ref b), .val (.int (0 : Int32)), .val (.int (Int32.ofNat cs.length)), .val .null, .unset] [])) rfl (hb hby d_jdk_42_m149_27)
  refine Rn.pu (g' := (mkF m 30 #[.val (.ref x), .val (.ref b), .val (.int (0 : Int32)), .val (.int (Int32.ofNat cs.length)), .val .null, .unset] [(.int zc)])) ?_ st2
  refine Rn.pu (T' := T2) (g' := (mkF m 33 #[.val (.ref x), .val (.ref b), .val (.int (0 : Int32)), .val (.int (Int32.ofNat cs.length)), .val .null, .unset] [])) ?_ fun _ zk => XS.ifNo H2.here hx rfl (hb hby d_jdk_42_m149_30) rfl (z_eq_f hz0) zk
  refine Rn.pu (T' := T2) (g' := (mkF m 34 #[.val (.ref x), .val (.ref b), .val (.int (0 : Int32)), .val (.int (Int32.ofNat cs.length)), .val .null, .unset] [(.ref b)])) ?_ fun _ zk => XS.aloadN H2.here hx rfl (hb hby d_jdk_42_m149_33) rfl rfl zk
  refine Rn.pu (T' := T2) (g' := (mkF m 35 #[.val (.ref x), .val (.ref b), .val (.int (0 : Int32)), .val (.int (Int32.ofNat cs.length)), .val .null, .unset] [(.int (0 : Int32)), (.ref b)])) ?_ fun _ zk => XS.iloadN H2.here hx rfl (hb hby d_jdk_42_m149_34) rfl zk
  refine Rn.pu (T' := T2) (g' := (mkF m 36 #[.val (.ref x), .val (.ref b), .val (.int (0 : Int32)), .val (.int (Int32.ofNat cs.length)), .val .null, .unset] [(.int (Int32.ofNat cs.length)), (.int (0 : Int32)), (.ref b)])) ?_ fun _ zk => XS.iloadN H2.here hx rfl (hb hby d_jdk_42_m149_35) rfl zk
  obtain ⟨_, T3, h3, H3, ⟨d3, kd3, rfl, A3, gd3, ld3⟩, K3, st3⟩ := H2.callS (hw _ (List.mem_of_getElem? (i := 16) rfl)) (hw _ (List.mem_of_getElem? (i := 17) rfl)) (hw _ (List.mem_of_getElem? (i := 18) rfl)) (hw _ (List.mem_of_getElem? (i := 19) rfl)) (by decide) (MetN.pay (W := 0) (c_cmp3 l ⟨hw, SC0, hz0, SF1, rf1, SU2, SU3, SU4⟩ b kC dv cs h0 H2.old hn hc hbig AB) (hw _ (List.mem_of_getElem? (i := 19) rfl)) (hw _ (List.mem_of_getElem? (i := 18) rfl)) (by decide) (by decide)) (g := (mkF m 36 #[.val (.ref x), .val (.ref b), .val (.int (0 : Int32)), .val (.int (Int32.ofNat cs.length)), .val .null, .unset] [(.int (Int32.ofNat cs.length)), (.int (0 : Int32)), (.ref b)])) rfl (by rw [hml]; rfl) (argsL := [(.ref b), (.int (0 : Int32)), (.int (Int32.ofNat cs.length))]) (rest := []) (lenOf pd__ACII_AB rfl) rfl rfl (Nat.le_of_eq rfl) (hb hby d_jdk_42_m149_36) (by decide) (by decide) all0
  have zh3 := K3.1
  refine Rn.pu (g' := (mkF m 39 #[.val (.ref x), .val (.ref b), .val (.int (0 : Int32)), .val (.int (Int32.ofNat cs.length)), .val .null, .unset] [(.ref d3)])) ?_ st3
  refine Rn.pu (T' := T3) (g' := (mkF m 41 #[.val (.ref x), .val (.ref b), .val (.int (0 : Int32)), .val (.int (Int32.ofNat cs.length)), .val .null, .val (.ref d3)] [])) ?_ fun _ zk => XS.astore H3.here hx rfl (hb hby d_jdk_42_m149_39) rfl rfl (l' := #[.val (.ref x), .val (.ref b), .val (.int (0 : Int32)), .val (.int (Int32.ofNat cs.length)), .val .null, .val (.ref d3)]) rfl zk
  refine Rn.pu (T' := T3) (g' := (mkF m 42 #[.val (.ref x), .val (.ref b), .val (.int (0 : Int32)), .val (.int (Int32.ofNat cs.length)), .val .null, .val (.ref d3)] [(.ref x)])) ?_ fun _ zk => XS.aloadN H3.here hx rfl (hb hby d_jdk_42_m149_41) rfl rfl zk
  refine Rn.pu (T' := T3) (g' := (mkF m 44 #[.val (.ref x), .val (.ref b), .val (.int (0 : Int32)), .val (.int (Int32.ofNat cs.length)), .val .null, .val (.ref d3)] [(.ref d3), (.ref x)])) ?_ fun _ zk => XS.aload H3.here hx rfl (hb hby d_jdk_42_m149_42) rfl rfl zk
  refine Rn.pu (T' := T3) (g' := (mkF m 45 #[.val (.ref x), .val (.ref b), .val (.int (0 : Int32)), .val (.int (Int32.ofNat cs.length)), .val .null, .val (.ref d3)] [(.int (Int32.ofNat cs.length)), (.ref d3), (.ref x)])) ?_ fun _ zk => XS.iloadN H3.here hx rfl (hb hby d_jdk_42_m149_44) rfl zk
  obtain ⟨_, T4, h4, H4, ⟨rfl, rfl⟩, -, st4⟩ := H3.callS (hw _ (List.mem_of_getElem? (i := 24) rfl)) (hw _ (List.mem_of_getElem? (i := 25) rfl)) (hw _ (List.mem_of_getElem? (i := 18) rfl)) (hw _ (List.mem_of_getElem? (i := 26) rfl)) (by decide) (MetN.pay (W := 1) (c_codl l ⟨hw, SC0, hz0, SF1, rf1, SU2, SU3, SU4⟩ d3 kd3 _ cs h3 H3.old hn h1 A3) (hw _ (List.mem_of_getElem? (i := 26) rfl)) (hw _ (List.mem_of_getElem? (i := 18) rfl)) (by decide) (by decide)) (g := (mkF m 45 #[.val (.ref x), .val (.ref b), .val (.int (0 : Int32)), .val (.int (Int32.ofNat cs.length)), .val .null, .val (.ref d3)] [(.int (Int32.ofNat cs.length)), (.ref d3), (.ref x)])) rfl (by rw [hml]; rfl) (argsL := [(.ref d3), (.int (Int32.ofNat cs.length))]) (rest := [(.ref x)]) (lenOf pd__ABI_B rfl) rfl rfl (Nat.le_of_eq rfl) (hb hby d_jdk_42_m149_45) (by decide) (by decide) all0
  refine Rn.pu (g' := (mkF m 48 #[.val (.ref x), .val (.ref b), .val (.int (0 : Int32)), .val (.int (Int32.ofNat cs.length)), .val .null, .val (.ref d3)] [(.int (1 : Int32)), (.ref x)])) ?_ st4
  obtain ⟨T5, h5, H5, K5, W5, st5⟩ := H4.putF (host := "") (Or.inl (hw _ (List.mem_of_getElem? (i := 27) rfl))) Via.refl (G2.keep K3 nin0) (E.keep K3) (Or.inr ⟨(hw _ (List.mem_of_getElem? (i := 28) rfl)), rfl, hnm⟩) (hw _ (List.mem_of_getElem? (i := 3) rfl)) (ty := .byte) (by decide) rfl rfl (Or.inl (List.mem_singleton.mpr rfl)) (g := (mkF m 48 #[.val (.ref x), .val (.ref b), .val (.int (0 : Int32)), .val (.int (Int32.ofNat cs.length)), .val .null, .val (.ref d3)] [(.int (1 : Int32)), (.ref x)])) rfl rfl (hb hby d_jdk_42_m149_48)
  have zh5 := K5.1
  have F5_coder : Fld Z h5 x "java/lang/String" "coder" "B" (.int (1 : Int32)) := (G2.keep K3 nin0).same W5
  have E5 := (E.keep K3).keep K5
  have F5_value : Fld Z h5 x "java/lang/String" "value" "[B" .null := (G1.keep K3 nin0).other W5 (Or.inr (slot_ne (Or.inr (hw _ (List.mem_of_getElem? (i := 30) rfl))) (Or.inr (hw _ (List.mem_of_getElem? (i := 28) rfl))) (by decide) (t := (.array .byte)) (t' := .byte) (by decide) (by decide)))
  refine Rn.pu (g' := (mkF m 51 #[.val (.ref x), .val (.ref b), .val (.int (0 : Int32)), .val (.int (Int32.ofNat cs.length)), .val .null, .val (.ref d3)] [])) ?_ st5
  refine Rn.pu (T' := T5) (g' := (mkF m 52 #[.val (.ref x), .val (.ref b), .val (.int (0 : Int32)), .val (.int (Int32.ofNat cs.length)), .val .null, .val (.ref d3)] [(.ref x)])) ?_ fun _ zk => XS.aloadN H5.here hx rfl (hb hby d_jdk_42_m149_51) rfl rfl zk
  refine Rn.pu (T' := T5) (g' := (mkF m 54 #[.val (.ref x), .val (.ref b), .val (.int (0 : Int32)), .val (.int (Int32.ofNat cs.length)), .val .null, .val (.ref d3)] [(.ref d3), (.ref x)])) ?_ fun _ zk => XS.aload H5.here hx rfl (hb hby d_jdk_42_m149_52) rfl rfl zk
  obtain ⟨T6, h6, H6, K6, W6, st6⟩ := H5.putF (host := "") (Or.inl (hw _ (List.mem_of_getElem? (i := 29) rfl))) Via.refl F5_value E5 (Or.inr ⟨(hw _ (List.mem_of_getElem? (i := 30) rfl)), rfl, hnm⟩) (hw _ (List.mem_of_getElem? (i := 3) rfl)) (ty := (.array .byte)) (by decide) rfl rfl (Or.inl (List.mem_singleton.mpr rfl)) (g := (mkF m 54 #[.val (.ref x), .val (.ref b), .val (.int (0 : Int32)), .val (.int (Int32.ofNat cs.length)), .val .null, .val (.ref d3)] [(.ref d3), (.ref x)])) rfl rfl (hb hby d_jdk_42_m149_54)
  have zh6 := K6.1
  have F6_value : Fld Z h6 x "java/lang/String" "value" "[B" (.ref d3) := F5_value.same W6
  have E6 := E5.keep K6
  have F6_coder : Fld Z h6 x "java/lang/String" "coder" "B" (.int (1 : Int32)) := F5_coder.other W6 (Or.inr (slot_ne (Or.inr (hw _ (List.mem_of_getElem? (i := 28) rfl))) (Or.inr (hw _ (List.mem_of_getElem? (i := 30) rfl))) (by decide) (t := .byte) (t' := (.array .byte)) (by decide) (by decide)))
  refine Rn.pu (g' := (mkF m 57 #[.val (.ref x), .val (.ref b), .val (.int (0 : Int32)), .val (.int (Int32.ofNat cs.length)), .val .null, .val (.ref d3)] [])) ?_ st6
  exact H6.retV ends_N hlk hret (hb hby d_jdk_42_m149_57) (by decide) (by decide) (fun _ q => q) ⟨rfl, d3, ⟨hc, by omega, E6, F6_value, 1, _, _, _, F6_coder, ((A3.keep K5 (ninS (adne (by omega)) nin0)).keep K6 (ninS (adne (by omega)) nin0)), Or.inr ⟨rfl, rfl, rfl, hbig⟩⟩, by omega⟩
set_option maxRecDepth 65536 in
set_option maxHeartbeats 40000000 in
theorem c_nwu1 (l : Launch) {Z : State} {a0 : Array Value} {zc : Int32} {fm : Value} (B : Base Z a0 zc fm) (x b : Addr) (kC : ClassId) (dv : Value) (cs : List Int32) (h0 : Heap) (O : Ext Z.heap h0) (hn : cs.length ≤ 4) (h1 : 0 < cs.length) (hc : ∀ c ∈ cs, ¬ c < 0 ∧ ¬ (65535 : Int32) < c) (hbig : ∃ c ∈ cs, (255 : Int32) < c) (AB : Arv Z h0 b kC .char (Int32.ofNat cs.length) (cs.map Value.int) dv) (E : Exa Z h0 x "java/lang/String") (G1 : Fld Z h0 x "java/lang/String" "value" "[B" .null) (G2 : Fld Z h0 x "java/lang/String" "coder" "B" (.int (0 : Int32))) (gx : Z.heap.size ≤ x) :
    MetN l Z (⟨"java/lang/String", "<init>", "([C)V"⟩ : MethodName) jdk_42_method_3_code 2 none [] ({ frames := 5, cells := 2, slots := 12, locals := 74 } : Room) #[(.ref x), (.ref b)] h0 [x] (fun v h => v = none ∧ ∃ t, Str Z h x t cs ∧ h.size > t) := by
  obtain ⟨hw, SC0, hz0, SF1, rf1, SU2, SU3, SU4⟩ := B
  refine MetN.mk (plainFor_of_name pn_java_lang_String) (fun m => ef_c_nwu1 m x b) O ?_
  intro p e s m below meth c T0 hx hby hml hret hlk hnm hsh H0
  have zs : s.heap.size = h0.size := by rw [hsh]
  have lx := natlt (E).lt
  have lb := natlt (AB).lt
  have H0 := H0.weak (ws' := [x]) (fun _ q => nomatch q) (allS gx all0)
  refine Rn.pu (T' := T0) (g' := (mkF m 1 #[.val (.ref x), .val (.ref b)] [(.ref x)])) ?_ fun _ zk => XS.aloadN H0.here hx rfl (hb hby d_jdk_42_m3_0) rfl rfl zk
  refine Rn.pu (T' := T0) (g' := (mkF m 2 #[.val (.ref x), .val (.ref b)] [(.ref b), (.ref x)])) ?_ fun _ zk => XS.aloadN H0.here hx rfl (hb hby d_jdk_42_m3_1) rfl rfl zk
  refine Rn.pu (T' := T0) (g' := (mkF m 3 #[.val (.ref x), .val (.ref b)] [(.int (0 : Int32)), (.ref b), (.ref x)])) ?_ fun _ zk => XS.iconst H0.here hx rfl (hb hby d_jdk_42_m3_2) zk
  refine Rn.pu (T' := T0) (g' := (mkF m 4 #[.val (.ref x), .val (.ref b)] [(.ref b), (.int (0 : Int32)), (.ref b), (.ref x)])) ?_ fun _ zk => XS.aloadN H0.here hx rfl (hb hby d_jdk_42_m3_3) rfl rfl zk
  refine Rn.pu (g' := (mkF m 5 #[.val (.ref x), .val (.ref b)] [(.int (Int32.ofNat cs.length)), (.int (0 : Int32)), (.ref b), (.ref x)])) ?_ (H0.alen AB (g := (mkF m 4 #[.val (.ref x), .val (.ref b)] [(.ref b), (.int (0 : Int32)), (.ref b), (.ref x)])) rfl rfl (hb hby d_jdk_42_m3_4))
  refine Rn.pu (T' := T0) (g' := (mkF m 6 #[.val (.ref x), .val (.ref b)] [.null, (.int (Int32.ofNat cs.length)), (.int (0 : Int32)), (.ref b), (.ref x)])) ?_ fun _ zk => XS.aconstNull H0.here hx rfl (hb hby d_jdk_42_m3_5) zk
  obtain ⟨_, T1, h1, H1, ⟨rfl, t1, S1, lt1⟩, K1, st1⟩ := H0.callI rfl (hw _ (List.mem_of_getElem? (i := 8) rfl)) (hw _ (List.mem_of_getElem? (i := 9) rfl)) (hw _ (List.mem_of_getElem? (i := 11) rfl)) (by decide) (MetN.pay (W := 0) (c_nwu4 l ⟨hw, SC0, hz0, SF1, rf1, SU2, SU3, SU4⟩ x b kC dv cs h0 H0.old hn h1 hc hbig AB E G1 G2 gx) (hw _ (List.mem_of_getElem? (i := 11) rfl)) (hw _ (List.mem_of_getElem? (i := 4) rfl)) (by decide) (by decide)) (g := (mkF m 6 #[.val (.ref x), .val (.ref b)] [.null, (.int (Int32.ofNat cs.length)), (.int (0 : Int32)), (.ref b), (.ref x)])) rfl (by rw [hml]; rfl) (argsL := [(.ref b), (.int (0 : Int32)), (.int (Int32.ofNat cs.length)), .null]) (rest := []) (lenOf pd__ACIILjava_lang_Void__V rfl) rfl rfl (Nat.le_of_eq rfl) (hb hby d_jdk_42_m3_6) (by decide) (by decide) (allS (Or.inl (List.mem_singleton.mpr rfl)) all0)
  have zh1 := K1.1
  refine Rn.pu (g' := (mkF m 9 #[.val (.ref x), .val (.ref b)] [])) ?_ st1
  exact H1.retV ends_N hlk hret (hb hby d_jdk_42_m3_9) (by decide) (by decide) (fun _ q => q) ⟨rfl, t1, S1, by omega⟩
theorem payNewU {R : Room} {p : Program} {e : Env} {args : Array Value} {below : List Frame} (l : Launch) {Z : State} {a0 : Array Value} {zc : Int32} {fm : Value} (B : Base Z a0 zc fm) {W : Nat} {x b : Addr} {kC : ClassId} {dv : Value} {cs : List Int32} {n : Nat} {N : Int32} {h : Heap} (O : Ext Z.heap h) (hl : cs.length = n) (hN : N = Int32.ofNat n) (hn : n ≤ 4) (h1 : 0 < n) (hc : ∀ c ∈ cs, ¬ c < 0 ∧ ¬ (65535 : Int32) < c) (AB : Arv Z h b kC .char N (cs.map Value.int) dv) (E : Exa Z h x "java/lang/String") (G1 : Fld Z h x "java/lang/String" "value" "[B" .null) (G2 : Fld Z h x "java/lang/String" "coder" "B" (.int (0 : Int32))) (gx : Z.heap.size ≤ x) (hfr : 6 ≤ R.frames) (hlo : W + 87 ≤ R.locals) :
    PayM l R p e below args Z (⟨"java/lang/String", "<init>", "([C)V"⟩ : MethodName) W #[.ref x, .ref b] h 2 12 [x] (fun v h' => v = none ∧ ∃ t, Str Z h' x t cs ∧ h'.size > t) := by
  subst hl hN
  have B' := B
  obtain ⟨hw, SC0, hz0, SF1, rf1, SU2, SU3, SU4⟩ := B
  by_cases hbig : ∃ c ∈ cs, (255 : Int32) < c
  · exact ⟨2, 12, Nat.le_refl _, Nat.le_refl _, MetN.pay (W := W) (c_nwu1 l B' x b kC dv cs h O hn h1 hc hbig AB E G1 G2 gx) (hw _ (List.mem_of_getElem? (i := 7) rfl)) (hw _ (List.mem_of_getElem? (i := 4) rfl)) hfr (by show W + (2 + 11) + 74 ≤ R.locals; omega)⟩
  · refine ⟨1, cs.length, by omega, by omega, fun s hZ => Back.mono (payNew (cs := cs) (n := cs.length) (W := W) (hws_new hw) (hw _ (List.mem_of_getElem? (i := 3) rfl)) E G1 G2 AB (SC0.ext O) hz0 rfl rfl h1 (by omega) (fun c q => ⟨(hc c q).1, fun r => hbig ⟨c, q, r⟩⟩) (by omega) (by omega) s hZ) (fun P a hp => hp) (fun P a v B hp' hq => ?_)⟩
    obtain ⟨L, ⟨⟨q1, t, -, q2, q3⟩, q4, q5⟩, hr⟩ := hq
    exact ⟨L, ⟨⟨q1, t, q3, q2⟩, q4, q5⟩, hr⟩
set_option maxRecDepth 65536 in
set_option maxHeartbeats 40000000 in
theorem c_isl1 (l : Launch) {Z : State} {a0 : Array Value} {zc : Int32} {fm : Value} (B : Base Z a0 zc fm) (x : Addr) (h0 : Heap) (O : Ext Z.heap h0) (G2 : Fld Z h0 x "java/lang/String" "coder" "B" (.int (1 : Int32))) :
    MetN l Z (⟨"java/lang/String", "isLatin1", "()Z"⟩ : MethodName) jdk_42_method_154_code 1 (some .boolean) [] ({ frames := 0, cells := 0, slots := 0, locals := 0 } : Room) #[(.ref x)] h0 [] (fun v h => v = some (.int 0) ∧ h0 = h) := by
  obtain ⟨hw, SC0, hz0, SF1, rf1, SU2, SU3, SU4⟩ := B
  refine MetN.mk (plainFor_of_name pn_java_lang_String) (fun m => ef_c_isl1 m x) O ?_
  intro p e s m below meth c T0 hx hby hml hret hlk hnm hsh H0
  have zs : s.heap.size = h0.size := by rw [hsh]
  obtain ⟨T1, H1, st1⟩ := H0.getS (host := "") (Or.inl (hw _ (List.mem_of_getElem? (i := 15) rfl))) Via.refl (SC0.ext H0.old) (g := (mkF m 0 #[.val (.ref x)] [])) rfl (hb hby d_jdk_42_m154_0)
  refine Rn.pu (g' := (mkF m 3 #[.val (.ref x)] [(.int zc)])) ?_ st1
  refine Rn.pu (T' := T1) (g' := (mkF m 6 #[.val (.ref x)] [])) ?_ fun _ zk => XS.ifNo H1.here hx rfl (hb hby d_jdk_42_m154_3) rfl (z_eq_f hz0) zk
  refine Rn.pu (T' := T1) (g' := (mkF m 7 #[.val (.ref x)] [(.ref x)])) ?_ fun _ zk => XS.aloadN H1.here hx rfl (hb hby d_jdk_42_m154_6) rfl rfl zk
  obtain ⟨T2, H2, st2⟩ := H1.getF (host := "") (Or.inl (hw _ (List.mem_of_getElem? (i := 27) rfl))) Via.refl G2 (g := (mkF m 7 #[.val (.ref x)] [(.ref x)])) rfl rfl (hb hby d_jdk_42_m154_7)
  refine Rn.pu (g' := (mkF m 10 #[.val (.ref x)] [(.int (1 : Int32))])) ?_ st2
  refine Rn.pu (T' := T2) (g' := (mkF m 17 #[.val (.ref x)] [])) ?_ fun _ zk => XS.ifYes H2.here hx rfl (pc0 := 10) (pc' := 17) rfl (hb hby d_jdk_42_m154_10) rfl (z_ne_t (by decide)) (by decide) (by decide) zk
  refine Rn.pu (T' := T2) (g' := (mkF m 18 #[.val (.ref x)] [(.int (0 : Int32))])) ?_ fun _ zk => XS.iconst H2.here hx rfl (hb hby d_jdk_42_m154_17) zk
  exact H2.retS ends_N hlk (t := .boolean) hret (by simp) (hb hby d_jdk_42_m154_18) (by decide) (by decide) (fun _ q => nomatch q) ⟨rfl, rfl⟩
set_option maxRecDepth 65536 in
set_option maxHeartbeats 40000000 in
theorem c_ulen (l : Launch) {Z : State} {a0 : Array Value} {zc : Int32} {fm : Value} (B : Base Z a0 zc fm) (d : Addr) (kB : ClassId) (vs : List Value) (cs : List Int32) (h0 : Heap) (O : Ext Z.heap h0) (hn : cs.length ≤ 4) (AD : Arv Z h0 d kB .byte (Int32.ofNat (2 * cs.length)) vs (.int 0)) :
    MetN l Z (⟨"java/lang/StringUTF16", "length", "([B)I"⟩ : MethodName) jdk_52_method_6_code 1 (some .int) [] ({ frames := 0, cells := 0, slots := 0, locals := 0 } : Room) #[(.ref d)] h0 [] (fun v h => v = some (.int (Int32.ofNat cs.length)) ∧ h0 = h) := by
  obtain ⟨hw, SC0, hz0, SF1, rf1, SU2, SU3, SU4⟩ := B
  refine MetN.mk (plainFor_of_name pn_java_lang_StringUTF16) (fun m => ef_c_ulen m d) O ?_
  intro p e s m below meth c T0 hx hby hml hret hlk hnm hsh H0
  have zs : s.heap.size = h0.size := by rw [hsh]
  refine Rn.pu (T' := T0) (g' := (mkF m 1 #[.val (.ref d)] [(.ref d)])) ?_ fun _ zk => XS.aloadN H0.here hx rfl (hb hby d_jdk_52_m6_0) rfl rfl zk
  refine Rn.pu (g' := (mkF m 2 #[.val (.ref d)] [(.int (Int32.ofNat (2 * cs.length)))])) ?_ (H0.alen AD (g := (mkF m 1 #[.val (.ref d)] [(.ref d)])) rfl rfl (hb hby d_jdk_52_m6_1))
  refine Rn.pu (T' := T0) (g' := (mkF m 3 #[.val (.ref d)] [(.int (1 : Int32)), (.int (Int32.ofNat (2 * cs.length)))])) ?_ fun _ zk => XS.iconst H0.here hx rfl (hb hby d_jdk_52_m6_2) zk
  refine Rn.pu (T' := T0) (g' := (mkF m 4 #[.val (.ref d)] [(.int ((Int32.ofNat (2 * cs.length)) >>> ((1 : Int32) &&& 31)))])) ?_ fun _ zk => XT.ishr H0.here hx rfl (hb hby d_jdk_52_m6_3) rfl zk
  exact H0.retI ends_N hlk hret (hb hby d_jdk_52_m6_4) (by decide) (by decide) (fun _ q => nomatch q) ⟨by rw [StrChars.shr1 (by omega)], rfl⟩
set_option maxRecDepth 65536 in
set_option maxHeartbeats 40000000 in
theorem c_pciN (l : Launch) {Z : State} {a0 : Array Value} {zc : Int32} {fm : Value} (B : Base Z a0 zc fm) (i n : Int32) (h0 : Heap) (O : Ext Z.heap h0) (h1 : ¬ i < 0) (h2 : i < n) :
    MetN l Z (⟨"jdk/internal/util/Preconditions", "checkIndex", "(IILjava/util/function/BiFunction;)I"⟩ : MethodName) jdk_41_method_11_code 3 (some .int) [] ({ frames := 0, cells := 0, slots := 0, locals := 0 } : Room) #[(.int i), (.int n), .null] h0 [] (fun v h => v = some (.int i) ∧ h0 = h) := by
  obtain ⟨hw, SC0, hz0, SF1, rf1, SU2, SU3, SU4⟩ := B
  refine MetN.mk (plainFor_of_name pn_jdk_internal_util_Preconditions) (fun m => ef_c_pciN m i n) O ?_
  intro p e s m below meth c T0 hx hby hml hret hlk hnm hsh H0
  have zs : s.heap.size = h0.size := by rw [hsh]
  refine Rn.pu (T' := T0) (g' := (mkF m 1 #[.val (.int i), .val (.int n), .val .null] [(.int i)])) ?_ fun _ zk => XS.iloadN H0.here hx rfl (hb hby d_jdk_41_m11_0) rfl zk
  refine Rn.pu (T' := T0) (g' := (mkF m 4 #[.val (.int i), .val (.int n), .val .null] [])) ?_ fun _ zk => XS.ifNo H0.here hx rfl (hb hby d_jdk_41_m11_1) rfl (z_lt_f h1) zk
  refine Rn.pu (T' := T0) (g' := (mkF m 5 #[.val (.int i), .val (.int n), .val .null] [(.int i)])) ?_ fun _ zk => XS.iloadN H0.here hx rfl (hb hby d_jdk_41_m11_4) rfl zk
  refine Rn.pu (T' := T0) (g' := (mkF m 6 #[.val (.int i), .val (.int n), .val .null] [(.int n), (.int i)])) ?_ fun _ zk => XS.iloadN H0.here hx rfl (hb hby d_jdk_41_m11_5) rfl zk
  refine Rn.pu (T' := T0) (g' := (mkF m 16 #[.val (.int i), .val (.int n), .val .null] [])) ?_ fun _ zk => XS.icmpYes H0.here hx rfl (pc0 := 6) (pc' := 16) rfl (hb hby d_jdk_41_m11_6) rfl (c_lt_t h2) (by decide) (by decide) zk
  refine Rn.pu (T' := T0) (g' := (mkF m 17 #[.val (.int i), .val (.int n), .val .null] [(.int i)])) ?_ fun _ zk => XS.iloadN H0.here hx rfl (hb hby d_jdk_41_m11_16) rfl zk
  exact H0.retI ends_N hlk hret (hb hby d_jdk_41_m11_17) (by decide) (by decide) (fun _ q => nomatch q) ⟨rfl, rfl⟩
set_option maxRecDepth 65536 in
set_option maxHeartbeats 40000000 in
theorem c_pciR (l : Launch) {Z : State} {a0 : Array Value} {zc : Int32} {fm : Value} (B : Base Z a0 zc fm) (i n : Int32) (fr : Addr) (h0 : Heap) (O : Ext Z.heap h0) (h1 : ¬ i < 0) (h2 : i < n) :
    MetN l Z (⟨"jdk/internal/util/Preconditions", "checkIndex", "(IILjava/util/function/BiFunction;)I"⟩ : MethodName) jdk_41_method_11_code 3 (some .int) [] ({ frames := 0, cells := 0, slots := 0, locals := 0 } : Room) #[(.int i), (.int n), (.ref fr)] h0 [] (fun v h => v = some (.int i) ∧ h0 = h) := by
  obtain ⟨hw, SC0, hz0, SF1, rf1, SU2, SU3, SU4⟩ := B
  refine MetN.mk (plainFor_of_name pn_jdk_internal_util_Preconditions) (fun m => ef_c_pciR m i n fr) O ?_
  intro p e s m below meth c T0 hx hby hml hret hlk hnm hsh H0
  have zs : s.heap.size = h0.size := by rw [hsh]
  refine Rn.pu (T' := T0) (g' := (mkF m 1 #[.val (.int i), .val (.int n), .val (.ref fr)] [(.int i)])) ?_ fun _ zk => XS.iloadN H0.here hx rfl (hb hby d_jdk_41_m11_0) rfl zk
  refine Rn.pu (T' := T0) (g' := (mkF m 4 #[.val (.int i), .val (.int n), .val (.ref fr)] [])) ?_ fun _ zk => XS.ifNo H0.here hx rfl (hb hby d_jdk_41_m11_1) rfl (z_lt_f h1) zk
  refine Rn.pu (T' := T0) (g' := (mkF m 5 #[.val (.int i), .val (.int n), .val (.ref fr)] [(.int i)])) ?_ fun _ zk => XS.iloadN H0.here hx rfl (hb hby d_jdk_41_m11_4) rfl zk
  refine Rn.pu (T' := T0) (g' := (mkF m 6 #[.val (.int i), .val (.int n), .val (.ref fr)] [(.int n), (.int i)])) ?_ fun _ zk => XS.iloadN H0.here hx rfl (hb hby d_jdk_41_m11_5) rfl zk
  refine Rn.pu (T' := T0) (g' := (mkF m 16 #[.val (.int i), .val (.int n), .val (.ref fr)] [])) ?_ fun _ zk => XS.icmpYes H0.here hx rfl (pc0 := 6) (pc' := 16) rfl (hb hby d_jdk_41_m11_6) rfl (c_lt_t h2) (by decide) (by decide) zk
  refine Rn.pu (T' := T0) (g' := (mkF m 17 #[.val (.int i), .val (.int n), .val (.ref fr)] [(.int i)])) ?_ fun _ zk => XS.iloadN H0.here hx rfl (hb hby d_jdk_41_m11_16) rfl zk
  exact H0.retI ends_N hlk hret (hb hby d_jdk_41_m11_17) (by decide) (by decide) (fun _ q => nomatch q) ⟨rfl, rfl⟩
set_option maxRecDepth 65536 in
set_option maxHeartbeats 40000000 in
theorem c_sci (l : Launch) {Z : State} {a0 : Array Value} {zc : Int32} {fm : Value} (B : Base Z a0 zc fm) (i n : Int32) (h0 : Heap) (O : Ext Z.heap h0) (h1 : ¬ i < 0) (h2 : i < n) :
    MetN l Z (⟨"java/lang/String", "checkIndex", "(II)V"⟩ : MethodName) jdk_42_method_155_code 2 none [] ({ frames := 1, cells := 0, slots := 0, locals := 14 } : Room) #[(.int i), (.int n)] h0 [] (fun v h => v = none ∧ h0 = h) := by
  obtain ⟨hw, SC0, hz0, SF1, rf1, SU2, SU3, SU4⟩ := B
  refine MetN.mk (plainFor_of_name pn_java_lang_String) (fun m => ef_c_sci m i n) O ?_
  intro p e s m below meth c T0 hx hby hml hret hlk hnm hsh H0
  have zs : s.heap.size = h0.size := by rw [hsh]
  rcases u_ref rf1 with rfl | ⟨fr, rfl⟩
  ·
    refine Rn.pu (T' := T0) (g' := (mkF m 1 #[.val (.int i), .val (.int n)] [(.int i)])) ?_ fun _ zk => XS.iloadN H0.here hx rfl (hb hby d_jdk_42_m155_0) rfl zk
    refine Rn.pu (T' := T0) (g' := (mkF m 2 #[.val (.int i), .val (.int n)] [(.int n), (.int i)])) ?_ fun _ zk => XS.iloadN H0.here hx rfl (hb hby d_jdk_42_m155_1) rfl zk
    obtain ⟨T1, H1, st1⟩ := H0.getS (host := "") (Or.inl (hw _ (List.mem_of_getElem? (i := 87) rfl))) Via.refl (SF1.ext H0.old) (g := (mkF m 2 #[.val (.int i), .val (.int n)] [(.int n), (.int i)])) rfl (hb hby d_jdk_42_m155_2)
    refine Rn.pu (g' := (mkF m 5 #[.val (.int i), .val (.int n)] [.null, (.int n), (.int i)])) ?_ st1
    obtain ⟨_, T2, h2, H2, ⟨rfl, rfl⟩, -, st2⟩ := H1.callS (hw _ (List.mem_of_getElem? (i := 89) rfl)) (hw _ (List.mem_of_getElem? (i := 90) rfl)) (hw _ (List.mem_of_getElem? (i := 88) rfl)) (hw _ (List.mem_of_getElem? (i := 91) rfl)) (by decide) (MetN.pay (W := 0) (c_pciN l ⟨hw, SC0, hz0, SF1, rf1, SU2, SU3, SU4⟩ i n h0 H1.old h1 h2) (hw _ (List.mem_of_getElem? (i := 91) rfl)) (hw _ (List.mem_of_getElem? (i := 88) rfl)) (by decide) (by decide)) (g := (mkF m 5 #[.val (.int i), .val (.int n)] [.null, (.int n), (.int i)])) rfl (by rw [hml]; rfl) (argsL := [(.int i), (.int n), .null]) (rest := []) (lenOf pd__IILjava_util_function_BiFunction__I rfl) rfl rfl (Nat.le_of_eq rfl) (hb hby d_jdk_42_m155_5) (by decide) (by decide) all0
    refine Rn.pu (g' := (mkF m 8 #[.val (.int i), .val (.int n)] [(.int i)])) ?_ st2
    refine Rn.pu (T' := T2) (g' := (mkF m 9 #[.val (.int i), .val (.int n)] [])) ?_ fun _ zk => XT.pop H2.here hx rfl (hb hby d_jdk_42_m155_8) rfl rfl zk
    exact H2.retV ends_N hlk hret (hb hby d_jdk_42_m155_9) (by decide) (by decide) (fun _ q => nomatch q) ⟨rfl, rfl⟩
  ·
    refine Rn.pu (T' := T0) (g' := (mkF m 1 #[.val (.int i), .val (.int n)] [(.int i)])) ?_ fun _ zk => XS.iloadN H0.here hx rfl (hb hby d_jdk_42_m155_0) rfl zk
    refine Rn.pu (T' := T0) (g' := (mkF m 2 #[.val (.int i), .val (.int n)] [(.int n), (.int i)])) ?_ fun _ zk => XS.iloadN H0.here hx rfl (hb hby d_jdk_42_m155_1) rfl zk
    obtain ⟨T3, H3, st3⟩ := H0.getS (host := "") (Or.inl (hw _ (List.mem_of_getElem? (i := 87) rfl))) Via.refl (SF1.ext H0.old) (g := (mkF m 2 #[.val (.int i), .val (.int n)] [(.int n), (.int i)])) rfl (hb hby d_jdk_42_m155_2)
    refine Rn.pu (g' := (mkF m 5 #[.val (.int i), .val (.int n)] [(.ref fr), (.int n), (.int i)])) ?_ st3
    obtain ⟨_, T4, h4, H4, ⟨rfl, rfl⟩, -, st4⟩ := H3.callS (hw _ (List.mem_of_getElem? (i := 89) rfl)) (hw _ (List.mem_of_getElem? (i := 90) rfl)) (hw _ (List.mem_of_getElem? (i := 88) rfl)) (hw _ (List.mem_of_getElem? (i := 91) rfl)) (by decide) (MetN.pay (W := 0) (c_pciR l ⟨hw, SC0, hz0, SF1, rf1, SU2, SU3, SU4⟩ i n fr h0 H3.old h1 h2) (hw _ (List.mem_of_getElem? (i := 91) rfl)) (hw _ (List.mem_of_getElem? (i := 88) rfl)) (by decide) (by decide)) (g := (mkF m 5 #[.val (.int i), .val (.int n)] [(.ref fr), (.int n), (.int i)])) rfl (by rw [hml]; rfl) (argsL := [(.int i), (.int n), (.ref fr)]) (rest := []) (lenOf pd__IILjava_util_function_BiFunction__I rfl) rfl rfl (Nat.le_of_eq rfl) (hb hby d_jdk_42_m155_5) (by decide) (by decide) all0
    refine Rn.pu (g' := (mkF m 8 #[.val (.int i), .val (.int n)] [(.int i)])) ?_ st4
    refine Rn.pu (T' := T4) (g' := (mkF m 9 #[.val (.int i), .val (.int n)] [])) ?_ fun _ zk => XT.pop H4.here hx rfl (hb hby d_jdk_42_m155_8) rfl rfl zk
    exact H4.retV ends_N hlk hret (hb hby d_jdk_42_m155_9) (by decide) (by decide) (fun _ q => nomatch q) ⟨rfl, rfl⟩
set_option maxRecDepth 65536 in
set_option maxHeartbeats 40000000 in
theorem c_uci (l : Launch) {Z : State} {a0 : Array Value} {zc : Int32} {fm : Value} (B : Base Z a0 zc fm) (d : Addr) (kB : ClassId) (vs : List Value) (cs : List Int32) (i : Nat) (h0 : Heap) (O : Ext Z.heap h0) (hi : i < cs.length) (hn : cs.length ≤ 4) (AD : Arv Z h0 d kB .byte (Int32.ofNat (2 * cs.length)) vs (.int 0)) :
    MetN l Z (⟨"java/lang/StringUTF16", "checkIndex", "(I[B)V"⟩ : MethodName) jdk_52_method_91_code 2 none [] ({ frames := 2, cells := 0, slots := 0, locals := 27 } : Room) #[(.int (Int32.ofNat i)), (.ref d)] h0 [] (fun v h => v = none ∧ h0 = h) := by
  obtain ⟨hw, SC0, hz0, SF1, rf1, SU2, SU3, SU4⟩ := B
  refine MetN.mk (plainFor_of_name pn_java_lang_StringUTF16) (fun m => ef_c_uci m (Int32.ofNat i) d) O ?_
  intro p e s m below meth c T0 hx hby hml hret hlk hnm hsh H0
  have zs : s.heap.size = h0.size := by rw [hsh]
  refine Rn.pu (T' := T0) (g' := (mkF m 1 #[.val (.int (Int32.ofNat i)), .val (.ref d)] [(.int (Int32.ofNat i))])) ?_ fun _ zk => XS.iloadN H0.here hx rfl (hb hby d_jdk_52_m91_0) rfl zk
  refine Rn.pu (T' := T0) (g' := (mkF m 2 #[.val (.int (Int32.ofNat i)), .val (.ref d)] [(.ref d), (.int (Int32.ofNat i))])) ?_ fun _ zk => XS.aloadN H0.here hx rfl (hb hby d_jdk_52_m91_1) rfl rfl zk
  obtain ⟨_, T1, h1, H1, ⟨rfl, rfl⟩, -, st1⟩ := H0.callS (hw _ (List.mem_of_getElem? (i := 132) rfl)) (hw _ (List.mem_of_getElem? (i := 133) rfl)) (hw _ (List.mem_of_getElem? (i := 18) rfl)) (hw _ (List.mem_of_getElem? (i := 134) rfl)) (by decide) (MetN.pay (W := 1) (c_ulen l ⟨hw, SC0, hz0, SF1, rf1, SU2, SU3, SU4⟩ d kB _ cs h0 H0.old hn AD) (hw _ (List.mem_of_getElem? (i := 134) rfl)) (hw _ (List.mem_of_getElem? (i := 18) rfl)) (by decide) (by decide)) (g := (mkF m 2 #[.val (.int (Int32.ofNat i)), .val (.ref d)] [(.ref d), (.int (Int32.ofNat i))])) rfl (by rw [hml]; rfl) (argsL := [(.ref d)]) (rest := [(.int (Int32.ofNat i))]) (lenOf pd__AB_I rfl) rfl rfl (Nat.le_of_eq rfl) (hb hby d_jdk_52_m91_2) (by decide) (by decide) all0
  refine Rn.pu (g' := (mkF m 5 #[.val (.int (Int32.ofNat i)), .val (.ref d)] [(.int (Int32.ofNat cs.length)), (.int (Int32.ofNat i))])) ?_ st1
  obtain ⟨_, T2, h2, H2, ⟨rfl, rfl⟩, -, st2⟩ := H1.callS (hw _ (List.mem_of_getElem? (i := 135) rfl)) (hw _ (List.mem_of_getElem? (i := 85) rfl)) (hw _ (List.mem_of_getElem? (i := 4) rfl)) (hw _ (List.mem_of_getElem? (i := 86) rfl)) (by decide) (MetN.pay (W := 0) (c_sci l ⟨hw, SC0, hz0, SF1, rf1, SU2, SU3, SU4⟩ (Int32.ofNat i) (Int32.ofNat cs.length) h0 H1.old (u_nn (by omega)) (u_lt hi (by omega))) (hw _ (List.mem_of_getElem? (i := 86) rfl)) (hw _ (List.mem_of_getElem? (i := 4) rfl)) (by decide) (by decide)) (g := (mkF m 5 #[.val (.int (Int32.ofNat i)), .val (.ref d)] [(.int (Int32.ofNat cs.length)), (.int (Int32.ofNat i))])) rfl (by rw [hml]; rfl) (argsL := [(.int (Int32.ofNat i)), (.int (Int32.ofNat cs.length))]) (rest := []) (lenOf pd__II_V rfl) rfl rfl (Nat.le_of_eq rfl) (hb hby d_jdk_52_m91_5) (by decide) (by decide) all0
  refine Rn.pu (g' := (mkF m 8 #[.val (.int (Int32.ofNat i)), .val (.ref d)] [])) ?_ st2
  exact H2.retV ends_N hlk hret (hb hby d_jdk_52_m91_8) (by decide) (by decide) (fun _ q => nomatch q) ⟨rfl, rfl⟩
set_option maxRecDepth 65536 in
set_option maxHeartbeats 40000000 in
theorem c_uch (l : Launch) {Z : State} {a0 : Array Value} {zc : Int32} {fm : Value} (B : Base Z a0 zc fm) (d : Addr) (kB : ClassId) (cs : List Int32) (i : Nat) (h0 : Heap) (O : Ext Z.heap h0) (hi : i < cs.length) (hn : cs.length ≤ 4) (hc : ∀ c ∈ cs, ¬ c < 0 ∧ ¬ (65535 : Int32) < c) (AD : Arv Z h0 d kB .byte (Int32.ofNat (2 * cs.length)) (StrChars.Road.wideBytes cs) (.int 0)) :
    MetN l Z (⟨"java/lang/StringUTF16", "charAt", "([BI)C"⟩ : MethodName) jdk_52_method_83_code 2 (some .char) [] ({ frames := 3, cells := 0, slots := 0, locals := 40 } : Room) #[(.ref d), (.int (Int32.ofNat i))] h0 [] (fun v h => v = some (.int (cs.getD i 0)) ∧ h0 = h) := by
  obtain ⟨hw, SC0, hz0, SF1, rf1, SU2, SU3, SU4⟩ := B
  refine MetN.mk (plainFor_of_name pn_java_lang_StringUTF16) (fun m => ef_c_uch m d (Int32.ofNat i)) O ?_
  intro p e s m below meth c T0 hx hby hml hret hlk hnm hsh H0
  have zs : s.heap.size = h0.size := by rw [hsh]
  refine Rn.pu (T' := T0) (g' := (mkF m 1 #[.val (.ref d), .val (.int (Int32.ofNat i))] [(.int (Int32.ofNat i))])) ?_ fun _ zk => XS.iloadN H0.here hx rfl (hb hby d_jdk_52_m83_0) rfl zk
  refine Rn.pu (T' := T0) (g' := (mkF m 2 #[.val (.ref d), .val (.int (Int32.ofNat i))] [(.ref d), (.int (Int32.ofNat i))])) ?_ fun _ zk => XS.aloadN H0.here hx rfl (hb hby d_jdk_52_m83_1) rfl rfl zk
  obtain ⟨_, T1, h1, H1, ⟨rfl, rfl⟩, -, st1⟩ := H0.callS (hw _ (List.mem_of_getElem? (i := 129) rfl)) (hw _ (List.mem_of_getElem? (i := 130) rfl)) (hw _ (List.mem_of_getElem? (i := 18) rfl)) (hw _ (List.mem_of_getElem? (i := 131) rfl)) (by decide) (MetN.pay (W := 0) (c_uci l ⟨hw, SC0, hz0, SF1, rf1, SU2, SU3, SU4⟩ d kB _ cs i h0 H0.old hi hn AD) (hw _ (List.mem_of_getElem? (i := 131) rfl)) (hw _ (List.mem_of_getElem? (i := 18) rfl)) (by decide) (by decide)) (g := (mkF m 2 #[.val (.ref d), .val (.int (Int32.ofNat i))] [(.ref d), (.int (Int32.ofNat i))])) rfl (by rw [hml]; rfl) (argsL := [(.int (Int32.ofNat i)), (.ref d)]) (rest := []) (lenOf pd__IAB_V rfl) rfl rfl (Nat.le_of_eq rfl) (hb hby d_jdk_52_m83_2) (by decide) (by decide) all0
  refine Rn.pu (g' := (mkF m 5 #[.val (.ref d), .val (.int (Int32.ofNat i))] [])) ?_ st1
  refine Rn.pu (T' := T1) (g' := (mkF m 6 #[.val (.ref d), .val (.int (Int32.ofNat i))] [(.ref d)])) ?_ fun _ zk => XS.aloadN H1.here hx rfl (hb hby d_jdk_52_m83_5) rfl rfl zk
  refine Rn.pu (T' := T1) (g' := (mkF m 7 #[.val (.ref d), .val (.int (Int32.ofNat i))] [(.int (Int32.ofNat i)), (.ref d)])) ?_ fun _ zk => XS.iloadN H1.here hx rfl (hb hby d_jdk_52_m83_6) rfl zk
  obtain ⟨_, T2, h2, H2, ⟨rfl, rfl⟩, -, st2⟩ := H1.callS (hw _ (List.mem_of_getElem? (i := 123) rfl)) (hw _ (List.mem_of_getElem? (i := 124) rfl)) (hw _ (List.mem_of_getElem? (i := 18) rfl)) (hw _ (List.mem_of_getElem? (i := 125) rfl)) (by decide) (MetN.pay (W := 0) (c_getc l ⟨hw, SC0, hz0, SF1, rf1, SU2, SU3, SU4⟩ d kB cs i h0 H1.old hi hn hc AD) (hw _ (List.mem_of_getElem? (i := 125) rfl)) (hw _ (List.mem_of_getElem? (i := 18) rfl)) (by decide) (by decide)) (g := (mkF m 7 #[.val (.ref d), .val (.int (Int32.ofNat i))] [(.int (Int32.ofNat i)), (.ref d)])) rfl (by rw [hml]; rfl) (argsL := [(.ref d), (.int (Int32.ofNat i))]) (rest := []) (lenOf pd__ABI_C rfl) rfl rfl (Nat.le_of_eq rfl) (hb hby d_jdk_52_m83_7) (by decide) (by decide) all0
  refine Rn.pu (g' := (mkF m 10 #[.val (.ref d), .val (.int (Int32.ofNat i))] [(.int (cs.getD i 0))])) ?_ st2
  exact H2.retS ends_N hlk (t := .char) hret (by simp) (hb hby d_jdk_52_m83_10) (by decide) (by decide) (fun _ q => nomatch q) ⟨by rw [nar_id (u_mem hi hc).1 (u_mem hi hc).2], rfl⟩
set_option maxRecDepth 65536 in
set_option maxHeartbeats 40000000 in
theorem c_chu (l : Launch) {Z : State} {a0 : Array Value} {zc : Int32} {fm : Value} (B : Base Z a0 zc fm) (x d : Addr) (kB : ClassId) (cs : List Int32) (i : Nat) (h0 : Heap) (O : Ext Z.heap h0) (hi : i < cs.length) (hn : cs.length ≤ 4) (hc : ∀ c ∈ cs, ¬ c < 0 ∧ ¬ (65535 : Int32) < c) (E : Exa Z h0 x "java/lang/String") (G1 : Fld Z h0 x "java/lang/String" "value" "[B" (.ref d)) (G2 : Fld Z h0 x "java/lang/String" "coder" "B" (.int (1 : Int32))) (AD : Arv Z h0 d kB .byte (Int32.ofNat (2 * cs.length)) (StrChars.Road.wideBytes cs) (.int 0)) :
    MetN l Z (⟨"java/lang/String", "charAt", "(I)C"⟩ : MethodName) jdk_42_method_56_code 2 (some .char) [] ({ frames := 4, cells := 0, slots := 0, locals := 53 } : Room) #[(.ref x), (.int (Int32.ofNat i))] h0 [] (fun v h => v = some (.int (cs.getD i 0)) ∧ h0 = h) := by
  obtain ⟨hw, SC0, hz0, SF1, rf1, SU2, SU3, SU4⟩ := B
  refine MetN.mk (plainFor_of_name pn_java_lang_String) (fun m => ef_c_chu m x (Int32.ofNat i)) O ?_
  intro p e s m below meth c T0 hx hby hml hret hlk hnm hsh H0
  have zs : s.heap.size = h0.size := by rw [hsh]
  refine Rn.pu (T' := T0) (g' := (mkF m 1 #[.val (.ref x), .val (.int (Int32.ofNat i))] [(.ref x)])) ?_ fun _ zk => XS.aloadN H0.here hx rfl (hb hby d_jdk_42_m56_0) rfl rfl zk
  obtain ⟨_, T1, h1, H1, ⟨rfl, rfl⟩, -, st1⟩ := H0.callV (C := "java/lang/String") (hw _ (List.mem_of_getElem? (i := 75) rfl)) (hw _ (List.mem_of_getElem? (i := 76) rfl)) (hw _ (List.mem_of_getElem? (i := 78) rfl)) (hw _ (List.mem_of_getElem? (i := 77) rfl)) (by decide) (MetN.pay (W := 0) (c_isl1 l ⟨hw, SC0, hz0, SF1, rf1, SU2, SU3, SU4⟩ x h0 H0.old G2) (hw _ (List.mem_of_getElem? (i := 79) rfl)) (hw _ (List.mem_of_getElem? (i := 4) rfl)) (by decide) (by decide)) E (g := (mkF m 1 #[.val (.ref x), .val (.int (Int32.ofNat i))] [(.ref x)])) rfl (by rw [hml]; rfl) (argsL := []) (rest := []) (lenOf pd___Z rfl) rfl rfl (Nat.le_of_eq rfl) (hb hby d_jdk_42_m56_1) (by decide) (by decide) all0
  refine Rn.pu (g' := (mkF m 4 #[.val (.ref x), .val (.int (Int32.ofNat i))] [(.int (0 : Int32))])) ?_ st1
  refine Rn.pu (T' := T1) (g' := (mkF m 16 #[.val (.ref x), .val (.int (Int32.ofNat i))] [])) ?_ fun _ zk => XS.ifYes H1.here hx rfl (pc0 := 4) (pc' := 16) rfl (hb hby d_jdk_42_m56_4) rfl (z_eq_t rfl) (by decide) (by decide) zk
  refine Rn.pu (T' := T1) (g' := (mkF m 17 #[.val (.ref x), .val (.int (Int32.ofNat i))] [(.ref x)])) ?_ fun _ zk => XS.aloadN H1.here hx rfl (hb hby d_jdk_42_m56_16) rfl rfl zk
  obtain ⟨T2, H2, st2⟩ := H1.getF (host := "") (Or.inl (hw _ (List.mem_of_getElem? (i := 29) rfl))) Via.refl G1 (g := (mkF m 17 #[.val (.ref x), .val (.int (Int32.ofNat i))] [(.ref x)])) rfl rfl (hb hby d_jdk_42_m56_17)
  refine Rn.pu (g' := (mkF m 20 #[.val (.ref x), .val (.int (Int32.ofNat i))] [(.ref d)])) ?_ st2
  refine Rn.pu (T' := T2) (g' := (mkF m 21 #[.val (.ref x), .val (.int (Int32.ofNat i))] [(.int (Int32.ofNat i)), (.ref d)])) ?_ fun _ zk => XS.iloadN H2.here hx rfl (hb hby d_jdk_42_m56_20) rfl zk
  obtain ⟨_, T3, h3, H3, ⟨rfl, rfl⟩, -, st3⟩ := H2.callS (hw _ (List.mem_of_getElem? (i := 126) rfl)) (hw _ (List.mem_of_getElem? (i := 127) rfl)) (hw _ (List.mem_of_getElem? (i := 18) rfl)) (hw _ (List.mem_of_getElem? (i := 128) rfl)) (by decide) (MetN.pay (W := 0) (c_uch l ⟨hw, SC0, hz0, SF1, rf1, SU2, SU3, SU4⟩ d kB cs i h0 H2.old hi hn hc AD) (hw _ (List.mem_of_getElem? (i := 128) rfl)) (hw _ (List.mem_of_getElem? (i := 18) rfl)) (by decide) (by decide)) (g := (mkF m 21 #[.val (.ref x), .val (.int (Int32.ofNat i))] [(.int (Int32.ofNat i)), (.ref d)])) rfl (by rw [hml]; rfl) (argsL := [(.ref d), (.int (Int32.ofNat i))]) (rest := []) (lenOf pd__ABI_C rfl) rfl rfl (Nat.le_of_eq rfl) (hb hby d_jdk_42_m56_21) (by decide) (by decide) all0
  refine Rn.pu (g' := (mkF m 24 #[.val (.ref x), .val (.int (Int32.ofNat i))] [(.int (cs.getD i 0))])) ?_ st3
  exact H3.retS ends_N hlk (t := .char) hret (by simp) (hb hby d_jdk_42_m56_24) (by decide) (by decide) (fun _ q => nomatch q) ⟨by rw [nar_id (u_mem hi hc).1 (u_mem hi hc).2], rfl⟩
theorem payChU {R : Room} {p : Program} {e : Env} {args : Array Value} {below : List Frame} (l : Launch) {Z : State} {a0 : Array Value} {zc : Int32} {fm : Value} (B : Base Z a0 zc fm) {W : Nat} {x t : Addr} {cs : List Int32} {i : Nat} {j : Int32} {h : Heap} (O : Ext Z.heap h) (F : Str Z h x t cs) (hn : cs.length ≤ 4) (hi : i < cs.length) (hj : j = Int32.ofNat i) (hfr : 5 ≤ R.frames) (hlo : W + 66 ≤ R.locals) :
    PayN l R p e below args Z (⟨"java/lang/String", "charAt", "(I)C"⟩ : MethodName) W #[.ref x, .int j] h 0 0 [] (fun v h' => v = some (.int (cs.getD i 0)) ∧ h = h') := by
  subst hj
  have B' := B
  have F' := F
  obtain ⟨hw, SC0, hz0, SF1, rf1, SU2, SU3, SU4⟩ := B
  obtain ⟨h1, h2, h3, h4, cd, N2, vs, kb, h5, h6, h7⟩ := F
  rcases h7 with ⟨rfl, -, -, hl⟩ | ⟨rfl, rfl, rfl, -⟩
  · exact payCh (W := W) (hws_ch hw) (hw _ (List.mem_of_getElem? (i := 3) rfl)) F' hl (SC0.ext O) hz0 (SF1.ext O) rf1 hi rfl (by omega) (by omega)
  · exact MetN.pay (W := W) (c_chu l B' x t kb cs i h O hi hn h1 h3 h4 h5 h6) (hw _ (List.mem_of_getElem? (i := 74) rfl)) (hw _ (List.mem_of_getElem? (i := 4) rfl)) hfr (by show W + (2 + 11) + 53 ≤ R.locals; omega)
set_option maxRecDepth 65536 in
set_option maxHeartbeats 40000000 in
theorem c_init (l : Launch) {Z : State} {a0 : Array Value} {zc : Int32} {fm : Value} (B : Base Z a0 zc fm) (x s0 s1 s2 : Addr) (p2 : Int32) (h0 : Heap) (O : Ext Z.heap h0) (E : Exa Z h0 x "com/example/vestline/vestline/Field") (G0 : Fld Z h0 x "com/example/vestline/vestline/Field" "m_source" "Ljava/lang/String;" .null) (G1 : Fld Z h0 x "com/example/vestline/vestline/Field" "m_line" "I" (.int (0 : Int32))) (G2 : Fld Z h0 x "com/example/vestline/vestline/Field" "m_name" "Ljava/lang/String;" .null) (G3 : Fld Z h0 x "com/example/vestline/vestline/Field" "m_text" "Ljava/lang/String;" .null) (gx : Z.heap.size ≤ x) :
    MetN l Z (⟨"com/example/vestline/vestline/Field", "<init>", "(Ljava/lang/String;ILjava/lang/String;Ljava/lang/String;)V"⟩ : MethodName) prog_17_method_1_code 5 none [] ({ frames := 1, cells := 0, slots := 0, locals := 12 } : Room) #[(.ref x), (.ref s0), (.int p2), (.ref s1), (.ref s2)] h0 [x] (fun v h => v = none ∧ Exa Z h x "com/example/vestline/vestline/Field" ∧ Fld Z h x "com/example/vestline/vestline/Field" "m_source" "Ljava/lang/String;" (.ref s0) ∧ Fld Z h x "com/example/vestline/vestline/Field" "m_line" "I" (.int p2) ∧ Fld Z h x "com/example/vestline/vestline/Field" "m_name" "Ljava/lang/String;" (.ref s1) ∧ Fld Z h x "com/example/vestline/vestline/Field" "m_text" "Ljava/lang/String;" (.ref s2)) := by
  obtain ⟨hw, SC0, hz0, SF1, rf1, SU2, SU3, SU4⟩ := B
  refine MetN.mk (plainFor_of_name pn_com_example_vestline_vestline_Field) (fun m => ef_c_init m x s0 p2 s1 s2) O ?_
  intro p e s m below meth c T0 hx hby hml hret hlk hnm hsh H0
  have zs : s.heap.size = h0.size := by rw [hsh]
  have lx := natlt (E).lt
  have H0 := H0.weak (ws' := [x]) (fun _ q => nomatch q) (allS gx all0)
  refine Rn.pu (T' := T0) (g' := (mkF m 1 #[.val (.ref x), .val (.ref s0), .val (.int p2), .val (.ref s1), .val (.ref s2)] [(.ref x)])) ?_ fun _ zk => XS.aloadN H0.here hx rfl (hb hby d_prog_17_m1_0) rfl rfl zk
  obtain ⟨T1, H1, st1⟩ := H0.initO (hw _ (List.mem_of_getElem? (i := 41) rfl)) (hw _ (List.mem_of_getElem? (i := 13) rfl)) (hw _ (List.mem_of_getElem? (i := 14) rfl)) (g := (mkF m 1 #[.val (.ref x), .val (.ref s0), .val (.int p2), .val (.ref s1), .val (.ref s2)] [(.ref x)])) rfl (by rw [hml]; rfl) rfl (hb hby d_prog_17_m1_1) (by decide) (W := 0) (Nat.le_of_eq rfl) (by decide)
  refine Rn.pu (g' := (mkF m 4 #[.val (.ref x), .val (.ref s0), .val (.int p2), .val (.ref s1), .val (.ref s2)] [])) ?_ st1
  refine Rn.pu (T' := T1) (g' := (mkF m 5 #[.val (.ref x), .val (.ref s0), .val (.int p2), .val (.ref s1), .val (.ref s2)] [(.ref x)])) ?_ fun _ zk => XS.aloadN H1.here hx rfl (hb hby d_prog_17_m1_4) rfl rfl zk
  refine Rn.pu (T' := T1) (g' := (mkF m 6 #[.val (.ref x), .val (.ref s0), .val (.int p2), .val (.ref s1), .val (.ref s2)] [(.ref s0), (.ref x)])) ?_ fun _ zk => XS.aloadN H1.here hx rfl (hb hby d_prog_17_m1_5) rfl rfl zk
  obtain ⟨T2, h2, H2, K2, W2, st2⟩ := H1.putF (host := "") (Or.inl (hw _ (List.mem_of_getElem? (i := 42) rfl))) Via.refl G0 E (Or.inr ⟨(hw _ (List.mem_of_getElem? (i := 43) rfl)), rfl, hnm⟩) (hw _ (List.mem_of_getElem? (i := 32) rfl)) (ty := (.object "java/lang/String")) (by decide) rfl rfl (Or.inl (List.mem_singleton.mpr rfl)) (g := (mkF m 6 #[.val (.ref x), .val (.ref s0), .val (.int p2), .val (.ref s1), .val (.ref s2)] [(.ref s0), (.ref x)])) rfl rfl (hb hby d_prog_17_m1_6)
  have zh2 := K2.1
  have F2_m_source : Fld Z h2 x "com/example/vestline/vestline/Field" "m_source" "Ljava/lang/String;" (.ref s0) := G0.same W2
  have E2 := E.keep K2
  have F2_m_line : Fld Z h2 x "com/example/vestline/vestline/Field" "m_line" "I" (.int (0 : Int32)) := G1.other W2 (Or.inr (slot_ne (Or.inr (hw _ (List.mem_of_getElem? (i := 45) rfl))) (Or.inr (hw _ (List.mem_of_getElem? (i := 43) rfl))) (by decide) (t := .int) (t' := (.object "java/lang/String")) (by decide) (by decide)))
  have F2_m_name : Fld Z h2 x "com/example/vestline/vestline/Field" "m_name" "Ljava/lang/String;" .null := G2.other W2 (Or.inr (slot_ne (Or.inr (hw _ (List.mem_of_getElem? (i := 47) rfl))) (Or.inr (hw _ (List.mem_of_getElem? (i := 43) rfl))) (by decide) (t := (.object "java/lang/String")) (t' := (.object "java/lang/String")) (by decide) (by decide)))
  have F2_m_text : Fld Z h2 x "com/example/vestline/vestline/Field" "m_text" "Ljava/lang/String;" .null := G3.other W2 (Or.inr (slot_ne (Or.inr (hw _ (List.mem_of_getElem? (i := 49) rfl))) (Or.inr (hw _ (List.mem_of_getElem? (i := 43) rfl))) (by decide) (t := (.object "java/lang/String")) (t' := (.object "java/lang/String")) (by decide) (by decide)))
  refine Rn.pu (g' := (mkF m 9 #[.val (.ref x), .val (.ref s0), .val (.int p2), .val (.ref s1), .val (.ref s2)] [])) ?_ st2
  refine Rn.pu (T' := T2) (g' := (mkF m 10 #[.val (.ref x), .val (.ref s0), .val (.int p2), .val (.ref s1), .val (.ref s2)] [(.ref x)])) ?_ fun _ zk => XS.aloadN H2.here hx rfl (hb hby d_prog_17_m1_9) rfl rfl zk
  refine Rn.pu (T' := T2) (g' := (mkF m 11 #[.val (.ref x), .val (.ref s0), .val (.int p2), .val (.ref s1), .val (.ref s2)] [(.int p2), (.ref x)])) ?_ fun _ zk => XS.iloadN H2.here hx rfl (hb hby d_prog_17_m1_10) rfl zk
  obtain ⟨T3, h3, H3, K3, W3, st3⟩ := H2.putF (host := "") (Or.inl (hw _ (List.mem_of_getElem? (i := 44) rfl))) Via.refl F2_m_line E2 (Or.inr ⟨(hw _ (List.mem_of_getElem? (i := 45) rfl)), rfl, hnm⟩) (hw _ (List.mem_of_getElem? (i := 32) rfl)) (ty := .int) (by decide) rfl rfl (Or.inl (List.mem_singleton.mpr rfl)) (g := (mkF m 11 #[.val (.ref x), .val (.ref s0), .val (.int p2), .val (.ref s1), .val (.ref s2)] [(.int p2), (.ref x)])) rfl rfl (hb hby d_prog_17_m1_11)
  have zh3 := K3.1
  have F3_m_line : Fld Z h3 x "com/example/vestline/vestline/Field" "m_line" "I" (.int p2) := F2_m_line.same W3
  have E3 := E2.keep K3
  have F3_m_source : Fld Z h3 x "com/example/vestline/vestline/Field" "m_source" "Ljava/lang/String;" (.ref s0) := F2_m_source.other W3 (Or.inr (slot_ne (Or.inr (hw _ (List.mem_of_getElem? (i := 43) rfl))) (Or.inr (hw _ (List.mem_of_getElem? (i := 45) rfl))) (by decide) (t := (.object "java/lang/String")) (t' := .int) (by decide) (by decide)))
  have F3_m_name : Fld Z h3 x "com/example/vestline/vestline/Field" "m_name" "Ljava/lang/String;" .null := F2_m_name.other W3 (Or.inr (slot_ne (Or.inr (hw _ (List.mem_of_getElem? (i := 47) rfl))) (Or.inr (hw _ (List.mem_of_getElem? (i := 45) rfl))) (by decide) (t := (.object "java/lang/String")) (t' := .int) (by decide) (by decide)))
  have F3_m_text : Fld Z h3 x "com/example/vestline/vestline/Field" "m_text" "Ljava/lang/String;" .null := F2_m_text.other W3 (Or.inr (slot_ne (Or.inr (hw _ (List.mem_of_getElem? (i := 49) rfl))) (Or.inr (hw _ (List.mem_of_getElem? (i := 45) rfl))) (by decide) (t := (.object "java/lang/String")) (t' := .int) (by decide) (by decide)))
  refine Rn.pu (g' := (mkF m 14 #[.val (.ref x), .val (.ref s0), .val (.int p2), .val (.ref s1), .val (.ref s2)] [])) ?_ st3
  refine Rn.pu (T' := T3) (g' := (mkF m 15 #[.val (.ref x), .val (.ref s0), .val (.int p2), .val (.ref s1), .val (.ref s2)] [(.ref x)])) ?_ fun _ zk => XS.aloadN H3.here hx rfl (hb hby d_prog_17_m1_14) rfl rfl zk
  refine Rn.pu (T' := T3) (g' := (mkF m 16 #[.val (.ref x), .val (.ref s0), .val (.int p2), .val (.ref s1), .val (.ref s2)] [(.ref s1), (.ref x)])) ?_ fun _ zk => XS.aloadN H3.here hx rfl (hb hby d_prog_17_m1_15) rfl rfl zk
  obtain ⟨T4, h4, H4, K4, W4, st4⟩ := H3.putF (host := "") (Or.inl (hw _ (List.mem_of_getElem? (i := 46) rfl))) Via.refl F3_m_name E3 (Or.inr ⟨(hw _ (List.mem_of_getElem? (i := 47) rfl)), rfl, hnm⟩) (hw _ (List.mem_of_getElem? (i := 32) rfl)) (ty := (.object "java/lang/String")) (by decide) rfl rfl (Or.inl (List.mem_singleton.mpr rfl)) (g := (mkF m 16 #[.val (.ref x), .val (.ref s0), .val (.int p2), .val (.ref s1), .val (.ref s2)] [(.ref s1), (.ref x)])) rfl rfl (hb hby d_prog_17_m1_16)
  have zh4 := K4.1
  have F4_m_name : Fld Z h4 x "com/example/vestline/vestline/Field" "m_name" "Ljava/lang/String;" (.ref s1) := F3_m_name.same W4
  have E4 := E3.keep K4
  have F4_m_source : Fld Z h4 x "com/example/vestline/vestline/Field" "m_source" "Ljava/lang/String;" (.ref s0) := F3_m_source.other W4 (Or.inr (slot_ne (Or.inr (hw _ (List.mem_of_getElem? (i := 43) rfl))) (Or.inr (hw _ (List.mem_of_getElem? (i := 47) rfl))) (by decide) (t := (.object "java/lang/String")) (t' := (.object "java/lang/String")) (by decide) (by decide)))
  have F4_m_line : Fld Z h4 x "com/example/vestline/vestline/Field" "m_line" "I" (.int p2) := F3_m_line.other W4 (Or.inr (slot_ne (Or.inr (hw _ (List.mem_of_getElem? (i := 45) rfl))) (Or.inr (hw _ (List.mem_of_getElem? (i := 47) rfl))) (by decide) (t := .int) (t' := (.object "java/lang/String")) (by decide) (by decide)))
  have F4_m_text : Fld Z h4 x "com/example/vestline/vestline/Field" "m_text" "Ljava/lang/String;" .null := F3_m_text.other W4 (Or.inr (slot_ne (Or.inr (hw _ (List.mem_of_getElem? (i := 49) rfl))) (Or.inr (hw _ (List.mem_of_getElem? (i := 47) rfl))) (by decide) (t := (.object "java/lang/String")) (t' := (.object "java/lang/String")) (by decide) (by decide)))
  refine Rn.pu (g' := (mkF m 19 #[.val (.ref x), .val (.ref s0), .val (.int p2), .val (.ref s1), .val (.ref s2)] [])) ?_ st4
  refine Rn.pu (T' := T4) (g' := (mkF m 20 #[.val (.ref x), .val (.ref s0), .val (.int p2), .val (.ref s1), .val (.ref s2)] [(.ref x)])) ?_ fun _ zk => XS.aloadN H4.here hx rfl (hb hby d_prog_17_m1_19) rfl rfl zk
  refine Rn.pu (T' := T4) (g' := (mkF m 22 #[.val (.ref x), .val (.ref s0), .val (.int p2), .val (.ref s1), .val (.ref s2)] [(.ref s2), (.ref x)])) ?_ fun _ zk => XS.aload H4.here hx rfl (hb hby d_prog_17_m1_20) rfl rfl zk
  obtain ⟨T5, h5, H5, K5, W5, st5⟩ := H4.putF (host := "") (Or.inl (hw _ (List.mem_of_getElem? (i := 48) rfl))) Via.refl F4_m_text E4 (Or.inr ⟨(hw _ (List.mem_of_getElem? (i := 49) rfl)), rfl, hnm⟩) (hw _ (List.mem_of_getElem? (i := 32) rfl)) (ty := (.object "java/lang/String")) (by decide) rfl rfl (Or.inl (List.mem_singleton.mpr rfl)) (g := (mkF m 22 #[.val (.ref x), .val (.ref s0), .val (.int p2), .val (.ref s1), .val (.ref s2)] [(.ref s2), (.ref x)])) rfl rfl (hb hby d_prog_17_m1_22)
  have zh5 := K5.1
  have F5_m_text : Fld Z h5 x "com/example/vestline/vestline/Field" "m_text" "Ljava/lang/String;" (.ref s2) := F4_m_text.same W5
  have E5 := E4.keep K5
  have F5_m_source : Fld Z h5 x "com/example/vestline/vestline/Field" "m_source" "Ljava/lang/String;" (.ref s0) := F4_m_source.other W5 (Or.inr (slot_ne (Or.inr (hw _ (List.mem_of_getElem? (i := 43) rfl))) (Or.inr (hw _ (List.mem_of_getElem? (i := 49) rfl))) (by decide) (t := (.object "java/lang/String")) (t' := (.object "java/lang/String")) (by decide) (by decide)))
  have F5_m_line : Fld Z h5 x "com/example/vestline/vestline/Field" "m_line" "I" (.int p2) := F4_m_line.other W5 (Or.inr (slot_ne (Or.inr (hw _ (List.mem_of_getElem? (i := 45) rfl))) (Or.inr (hw _ (List.mem_of_getElem? (i := 49) rfl))) (by decide) (t := .int) (t' := (.object "java/lang/String")) (by decide) (by decide)))
  have F5_m_name : Fld Z h5 x "com/example/vestline/vestline/Field" "m_name" "Ljava/lang/String;" (.ref s1) := F4_m_name.other W5 (Or.inr (slot_ne (Or.inr (hw _ (List.mem_of_getElem? (i := 47) rfl))) (Or.inr (hw _ (List.mem_of_getElem? (i := 49) rfl))) (by decide) (t := (.object "java/lang/String")) (t' := (.object "java/lang/String")) (by decide) (by decide)))
  refine Rn.pu (g' := (mkF m 25 #[.val (.ref x), .val (.ref s0), .val (.int p2), .val (.ref s1), .val (.ref s2)] [])) ?_ st5
  exact H5.retV ends_N hlk hret (hb hby d_prog_17_m1_25) (by decide) (by decide) (fun _ q => q) ⟨rfl, E5, F5_m_source, F5_m_line, F5_m_name, F5_m_text⟩
set_option maxRecDepth 65536 in
set_option maxHeartbeats 40000000 in
theorem c_text (l : Launch) {Z : State} {a0 : Array Value} {zc : Int32} {fm : Value} (B : Base Z a0 zc fm) (x s2 t2 : Addr) (cs : List Int32) (h0 : Heap) (O : Ext Z.heap h0) (G : Fld Z h0 x "com/example/vestline/vestline/Field" "m_text" "Ljava/lang/String;" (.ref s2)) (F : Str Z h0 s2 t2 cs) (hne : ¬ cs.length = 0) :
    MetN l Z (⟨"com/example/vestline/vestline/Field", "text", "()Ljava/lang/String;"⟩ : MethodName) prog_17_method_2_code 1 (some (.object "java/lang/String")) [] ({ frames := 1, cells := 0, slots := 0, locals := 12 } : Room) #[(.ref x)] h0 [] (fun v h => v = some (.ref s2) ∧ h0 = h) := by
  obtain ⟨hw, SC0, hz0, SF1, rf1, SU2, SU3, SU4⟩ := B
  refine MetN.mk (plainFor_of_name pn_com_example_vestline_vestline_Field) (fun m => ef_c_text m x) O ?_
  intro p e s m below meth c T0 hx hby hml hret hlk hnm hsh H0
  have zs : s.heap.size = h0.size := by rw [hsh]
  refine Rn.pu (T' := T0) (g' := (mkF m 1 #[.val (.ref x)] [(.ref x)])) ?_ fun _ zk => XS.aloadN H0.here hx rfl (hb hby d_prog_17_m2_0) rfl rfl zk
  obtain ⟨T1, H1, st1⟩ := H0.getF (host := "") (Or.inl (hw _ (List.mem_of_getElem? (i := 48) rfl))) Via.refl G (g := (mkF m 1 #[.val (.ref x)] [(.ref x)])) rfl rfl (hb hby d_prog_17_m2_1)
  refine Rn.pu (g' := (mkF m 4 #[.val (.ref x)] [(.ref s2)])) ?_ st1
  obtain ⟨_, T2, h2, H2, ⟨rfl, rfl⟩, -, st2⟩ := H1.callV (C := "java/lang/String") (hw _ (List.mem_of_getElem? (i := 55) rfl)) (hw _ (List.mem_of_getElem? (i := 56) rfl)) (hw _ (List.mem_of_getElem? (i := 58) rfl)) (hw _ (List.mem_of_getElem? (i := 57) rfl)) (by decide) (payEmp (W := 0) (hws_emp hw) (hw _ (List.mem_of_getElem? (i := 3) rfl)) F (by decide) (by decide)) F.exa (g := (mkF m 4 #[.val (.ref x)] [(.ref s2)])) rfl (by rw [hml]; rfl) (argsL := []) (rest := []) (lenOf pd___Z rfl) rfl rfl (Nat.le_of_eq rfl) (hb hby d_prog_17_m2_4) (by decide) (by decide) all0
  refine Rn.pu (g' := (mkF m 7 #[.val (.ref x)] [(.int (if (cs).length = 0 then 1 else 0))])) ?_ st2
  refine Rn.pu (T' := T2) (g' := (mkF m 17 #[.val (.ref x)] [])) ?_ fun _ zk => XS.ifYes H2.here hx rfl (pc0 := 7) (pc' := 17) rfl (hb hby d_prog_17_m2_7) rfl (z_eq_t (if_neg hne)) (by decide) (by decide) zk
  refine Rn.pu (T' := T2) (g' := (mkF m 18 #[.val (.ref x)] [(.ref x)])) ?_ fun _ zk => XS.aloadN H2.here hx rfl (hb hby d_prog_17_m2_17) rfl rfl zk
  obtain ⟨T3, H3, st3⟩ := H2.getF (host := "") (Or.inl (hw _ (List.mem_of_getElem? (i := 48) rfl))) Via.refl G (g := (mkF m 18 #[.val (.ref x)] [(.ref x)])) rfl rfl (hb hby d_prog_17_m2_18)
  refine Rn.pu (g' := (mkF m 21 #[.val (.ref x)] [(.ref s2)])) ?_ st3
  exact H3.retA ends_N hlk hret rfl rfl rfl (hb hby d_prog_17_m2_21) (by decide) (by decide) (fun _ q => nomatch q) ⟨rfl, rfl⟩
set_option maxRecDepth 65536 in
set_option maxHeartbeats 40000000 in
theorem c_emp (l : Launch) {Z : State} {a0 : Array Value} {zc : Int32} {fm : Value} (B : Base Z a0 zc fm) (x s2 t2 : Addr) (cs : List Int32) (h0 : Heap) (O : Ext Z.heap h0) (G : Fld Z h0 x "com/example/vestline/vestline/Field" "m_text" "Ljava/lang/String;" (.ref s2)) (F : Str Z h0 s2 t2 cs) (hne : ¬ cs.length = 0) :
    MetN l Z (⟨"com/example/vestline/vestline/Field", "isEmpty", "()Z"⟩ : MethodName) prog_17_method_4_code 1 (some .boolean) [] ({ frames := 1, cells := 0, slots := 0, locals := 12 } : Room) #[(.ref x)] h0 [] (fun v h => v = some (.int 0) ∧ h0 = h) := by
  obtain ⟨hw, SC0, hz0, SF1, rf1, SU2, SU3, SU4⟩ := B
  refine MetN.mk (plainFor_of_name pn_com_example_vestline_vestline_Field) (fun m => ef_c_emp m x) O ?_
  intro p e s m below meth c T0 hx hby hml hret hlk hnm hsh H0
  have zs : s.heap.size = h0.size := by rw [hsh]
  refine Rn.pu (T' := T0) (g' := (mkF m 1 #[.val (.ref x)] [(.ref x)])) ?_ fun _ zk => XS.aloadN H0.here hx rfl (hb hby d_prog_17_m4_0) rfl rfl zk
  obtain ⟨T1, H1, st1⟩ := H0.getF (host := "") (Or.inl (hw _ (List.mem_of_getElem? (i := 48) rfl))) Via.refl G (g := (mkF m 1 #[.val (.ref x)] [(.ref x)])) rfl rfl (hb hby d_prog_17_m4_1)
  refine Rn.pu (g' := (mkF m 4 #[.val (.ref x)] [(.ref s2)])) ?_ st1
  obtain ⟨_, T2, h2, H2, ⟨rfl, rfl⟩, -, st2⟩ := H1.callV (C := "java/lang/String") (hw _ (List.mem_of_getElem? (i := 55) rfl)) (hw _ (List.mem_of_getElem? (i := 56) rfl)) (hw _ (List.mem_of_getElem? (i := 58) rfl)) (hw _ (List.mem_of_getElem? (i := 57) rfl)) (by decide) (payEmp (W := 0) (hws_emp hw) (hw _ (List.mem_of_getElem? (i := 3) rfl)) F (by decide) (by decide)) F.exa (g := (mkF m 4 #[.val (.ref x)] [(.ref s2)])) rfl (by rw [hml]; rfl) (argsL := []) (rest := []) (lenOf pd___Z rfl) rfl rfl (Nat.le_of_eq rfl) (hb hby d_prog_17_m4_4) (by decide) (by decide) all0
  refine Rn.pu (g' := (mkF m 7 #[.val (.ref x)] [(.int (if (cs).length = 0 then 1 else 0))])) ?_ st2
  exact H2.retS ends_N hlk (t := .boolean) hret (by simp) (hb hby d_prog_17_m4_7) (by decide) (by decide) (fun _ q => nomatch q) ⟨by rw [if_neg hne]; rfl, rfl⟩
set_option maxRecDepth 65536 in
set_option maxHeartbeats 40000000 in
theorem c_prn (l : Launch) {Z : State} {a0 : Array Value} {zc : Int32} {fm : Value} (B : Base Z a0 zc fm) (x s2 : Addr) (h0 : Heap) (O : Ext Z.heap h0) (G : Fld Z h0 x "com/example/vestline/vestline/Field" "m_text" "Ljava/lang/String;" (.ref s2)) :
    MetN l Z (⟨"com/example/vestline/vestline/Field", "printed", "()Ljava/lang/String;"⟩ : MethodName) prog_17_method_3_code 1 (some (.object "java/lang/String")) [] ({ frames := 0, cells := 0, slots := 0, locals := 0 } : Room) #[(.ref x)] h0 [] (fun v h => v = some (.ref s2) ∧ h0 = h) := by
  obtain ⟨hw, SC0, hz0, SF1, rf1, SU2, SU3, SU4⟩ := B
  refine MetN.mk (plainFor_of_name pn_com_example_vestline_vestline_Field) (fun m => ef_c_prn m x) O ?_
  intro p e s m below meth c T0 hx hby hml hret hlk hnm hsh H0
  have zs : s.heap.size = h0.size := by rw [hsh]
  refine Rn.pu (T' := T0) (g' := (mkF m 1 #[.val (.ref x)] [(.ref x)])) ?_ fun _ zk => XS.aloadN H0.here hx rfl (hb hby d_prog_17_m3_0) rfl rfl zk
  obtain ⟨T1, H1, st1⟩ := H0.getF (host := "") (Or.inl (hw _ (List.mem_of_getElem? (i := 48) rfl))) Via.refl G (g := (mkF m 1 #[.val (.ref x)] [(.ref x)])) rfl rfl (hb hby d_prog_17_m3_1)
  refine Rn.pu (g' := (mkF m 4 #[.val (.ref x)] [(.ref s2)])) ?_ st1
  exact H1.retA ends_N hlk hret rfl rfl rfl (hb hby d_prog_17_m3_4) (by decide) (by decide) (fun _ q => nomatch q) ⟨rfl, rfl⟩
set_option maxRecDepth 65536 in
set_option maxHeartbeats 40000000 in
theorem c_same (l : Launch) {Z : State} {a0 : Array Value} {zc : Int32} {fm : Value} (B : Base Z a0 zc fm) (x : Addr) (h0 : Heap) (O : Ext Z.heap h0) :
    MetN l Z (⟨"java/lang/String", "equals", "(Ljava/lang/Object;)Z"⟩ : MethodName) jdk_42_method_66_code 3 (some .boolean) [] ({ frames := 0, cells := 0, slots := 0, locals := 0 } : Room) #[(.ref x), (.ref x)] h0 [] (fun v h => v = some (.int 1) ∧ h0 = h) := by
  obtain ⟨hw, SC0, hz0, SF1, rf1, SU2, SU3, SU4⟩ := B
  refine MetN.mk (plainFor_of_name pn_java_lang_String) (fun m => ef_c_same m x x) O ?_
  intro p e s m below meth c T0 hx hby hml hret hlk hnm hsh H0
  have zs : s.heap.size = h0.size := by rw [hsh]
  refine Rn.pu (T' := T0) (g' := (mkF m 1 #[.val (.ref x), .val (.ref x), .unset] [(.ref x)])) ?_ fun _ zk => XS.aloadN H0.here hx rfl (hb hby d_jdk_42_m66_0) rfl rfl zk
  refine Rn.pu (T' := T0) (g' := (mkF m 2 #[.val (.ref x), .val (.ref x), .unset] [(.ref x), (.ref x)])) ?_ fun _ zk => XS.aloadN H0.here hx rfl (hb hby d_jdk_42_m66_1) rfl rfl zk
  refine Rn.pu (T' := T0) (g' := (mkF m 5 #[.val (.ref x), .val (.ref x), .unset] [])) ?_ fun _ zk => XT.acmpNo H0.here hx rfl (hb hby d_jdk_42_m66_2) rfl rfl rfl (ac_ne_f rfl) zk
  refine Rn.pu (T' := T0) (g' := (mkF m 6 #[.val (.ref x), .val (.ref x), .unset] [(.int (1 : Int32))])) ?_ fun _ zk => XS.iconst H0.here hx rfl (hb hby d_jdk_42_m66_5) zk
  exact H0.retS ends_N hlk (t := .boolean) hret (by simp) (hb hby d_jdk_42_m66_6) (by decide) (by decide) (fun _ q => nomatch q) ⟨rfl, rfl⟩
set_option maxRecDepth 65536 in
set_option maxHeartbeats 40000000 in
theorem c_law (l : Launch) {Z : State} {a0 : Array Value} {zc : Int32} {fm : Value} (B : Base Z a0 zc fm) (p0 : Int32) (p1 : Int32) (p2 : Int32) (p3 : Int32) (p4 : Int32) (p5 : Int32) :
    MetW l Z x code maxLocals ret tables_1 room_1 #[(.int p0), (.int p1), (.int p2), (.int p3), (.int p4), (.int p5)] Z.heap [] ((fun _ => True)) (fun v vm h => v = some (.int 1)) := by
  obtain ⟨hw, SC0, hz0, SF1, rf1, SU2, SU3, SU4⟩ := B
  refine MetW.mk (plainFor_of_name pn_com_example_vestline_vestline_FieldTextPinLaw) (fun m => ef_c_law m p0 p1 p2 p3 p4 p5) ⟨Nat.le_refl _, fun _ _ q => q⟩ ?_
  intro p e s m below meth c T0 hx hby hml hret hlk hnm hsh H0
  obtain ⟨h0, eh0⟩ : ∃ z, z = Z.heap := ⟨_, rfl⟩
  rw [← eh0] at H0 hsh
  have H0 : Hs p l e room_1 s m #[(.int p0), (.int p1), (.int p2), (.int p3), (.int p4), (.int p5)] below meth c Z "com/example/vestline/vestline/FieldTextPinLaw" [] ((fun _ => True)) T0 h0 0 0 := H0
  have zs : s.heap.size = h0.size := by rw [hsh]
  have zZ := H0.old.1
  refine Rn.pu (T' := T0) (g' := (mkF m 1 #[.val (.int p0), .val (.int p1), .val (.int p2), .val (.int p3), .val (.int p4), .val (.int p5), .unset, .unset, .unset, .unset, .unset, .unset, .unset, .unset, .unset, .unset] [(.int (1 : Int32))])) ?_ fun _ zk => XS.iconst H0.here hx rfl (hb hby at_0) zk
  refine Rn.pu (T' := T0) (g' := (mkF m 2 #[.val (.int p0), .val (.int p1), .val (.int p2), .val (.int p3), .val (.int p4), .val (.int p5), .unset, .unset, .unset, .unset, .unset, .unset, .unset, .unset, .unset, .unset] [(.int p0), (.int (1 : Int32))])) ?_ fun _ zk => XS.iloadN H0.here hx rfl (hb hby at_1) rfl zk
  refine Rn.pu (T' := T0) (g' := (mkF m 3 #[.val (.int p0), .val (.int p1), .val (.int p2), .val (.int p3), .val (.int p4), .val (.int p5), .unset, .unset, .unset, .unset, .unset, .unset, .unset, .unset, .unset, .unset] [(.int (3 : Int32)), (.int p0), (.int (1 : Int32))])) ?_ fun _ zk => XS.iconst H0.here hx rfl (hb hby at_2) zk
  refine Rn.pu (T' := T0) (g' := (mkF m 4 #[.val (.int p0), .val (.int p1), .val (.int p2), .val (.int p3), .val (.int p4), .val (.int p5), .unset, .unset, .unset, .unset, .unset, .unset, .unset, .unset, .unset, .unset] [(.int (p0 &&& (3 : Int32))), (.int (1 : Int32))])) ?_ fun _ zk => XS.iand H0.here hx rfl (hb hby at_3) rfl zk
  refine Rn.pu (T' := T0) (g' := (mkF m 5 #[.val (.int p0), .val (.int p1), .val (.int p2), .val (.int p3), .val (.int p4), .val (.int p5), .unset, .unset, .unset, .unset, .unset, .unset, .unset, .unset, .unset, .unset] [(.int ((1 : Int32) + (p0 &&& (3 : Int32))))])) ?_ fun _ zk => XS.iadd H0.here hx rfl (hb hby at_4) rfl zk
  refine Rn.pu (T' := T0) (g' := (mkF m 7 #[.val (.int p0), .val (.int p1), .val (.int p2), .val (.int p3), .val (.int p4), .val (.int p5), .val (.int ((1 : Int32) + (p0 &&& (3 : Int32)))), .unset, .unset, .unset, .unset, .unset, .unset, .unset, .unset, .unset] [])) ?_ fun _ zk => XS.istore H0.here hx rfl (hb hby at_5) rfl (l' := #[.val (.int p0), .val (.int p1), .val (.int p2), .val (.int p3), .val (.int p4), .val (.int p5), .val (.int ((1 : Int32) + (p0 &&& (3 : Int32)))), .unset, .unset, .unset, .unset, .unset, .unset, .unset, .unset, .unset]) rfl zk
  obtain ⟨n, en⟩ : ∃ z : Int32, z = ((1 : Int32) + (p0 &&& (3 : Int32))) := ⟨_, rfl⟩
  rw [← en]
  have rn : n = 1 ∨ n = 2 ∨ n = 3 ∨ n = 4 := by rw [en]; exact own_n _
  refine Rn.pu (T' := T0) (g' := (mkF m 8 #[.val (.int p0), .val (.int p1), .val (.int p2), .val (.int p3), .val (.int p4), .val (.int p5), .val (.int n), .unset, .unset, .unset, .unset, .unset, .unset, .unset, .unset, .unset] [(.int p1)])) ?_ fun _ zk => XS.iloadN H0.here hx rfl (hb hby at_7) rfl zk
  refine Rn.pu (g' := (mkF m 10 #[.val (.int p0), .val (.int p1), .val (.int p2), .val (.int p3), .val (.int p4), .val (.int p5), .val (.int n), .unset, .unset, .unset, .unset, .unset, .unset, .unset, .unset, .unset] [(.int (65535 : Int32)), (.int p1)])) ?_ (H0.ldcI (hw _ (List.mem_of_getElem? (i := 0) rfl)) (g := (mkF m 8 #[.val (.int p0), .val (.int p1), .val (.int p2), .val (.int p3), .val (.int p4), .val (.int p5), .val (.int n), .unset, .unset, .unset, .unset, .unset, .unset, .unset, .unset, .unset] [(.int p1)])) rfl (hb hby at_8))
  refine Rn.pu (T' := T0) (g' := (mkF m 11 #[.val (.int p0), .val (.int p1), .val (.int p2), .val (.int p3), .val (.int p4), .val (.int p5), .val (.int n), .unset, .unset, .unset, .unset, .unset, .unset, .unset, .unset, .unset] [(.int (p1 &&& (65535 : Int32)))])) ?_ fun _ zk => XS.iand H0.here hx rfl (hb hby at_10) rfl zk
  refine Rn.pu (T' := T0) (g' := (mkF m 12 #[.val (.int p0), .val (.int p1), .val (.int p2), .val (.int p3), .val (.int p4), .val (.int p5), .val (.int n), .unset, .unset, .unset, .unset, .unset, .unset, .unset, .unset, .unset] [(.int (nar .char (p1 &&& (65535 : Int32))))])) ?_ fun _ zk => XT.i2c H0.here hx rfl (hb hby at_11) rfl zk
  refine Rn.pu (T' := T0) (g' := (mkF m 14 #[.val (.int p0), .val (.int p1), .val (.int p2), .val (.int p3), .val (.int p4), .val (.int p5), .val (.int n), .val (.int (nar .char (p1 &&& (65535 : Int32)))), .unset, .unset, .unset, .unset, .unset, .unset, .unset, .unset] [])) ?_ fun _ zk => XS.istore H0.here hx rfl (hb hby at_12) rfl (l' := #[.val (.int p0), .val (.int p1), .val (.int p2), .val (.int p3), .val (.int p4), .val (.int p5), .val (.int n), .val (.int (nar .char (p1 &&& (65535 : Int32)))), .unset, .unset, .unset, .unset, .unset, .unset, .unset, .unset]) rfl zk
  obtain ⟨t0, et0⟩ : ∃ z : Int32, z = (nar .char (p1 &&& (65535 : Int32))) := ⟨_, rfl⟩
  rw [← et0]
  have rt0 : ¬ t0 < 0 ∧ ¬ (65535 : Int32) < t0 := by rw [et0]; exact u_char _
  refine Rn.pu (T' := T0) (g' := (mkF m 15 #[.val (.int p0), .val (.int p1), .val (.int p2), .val (.int p3), .val (.int p4), .val (.int p5), .val (.int n), .val (.int t0), .unset, .unset, .unset, .unset, .unset, .unset, .unset, .unset] [(.int p2)])) ?_ fun _ zk => XS.iloadN H0.here hx rfl (hb hby at_14) rfl zk
  refine Rn.pu (g' := (mkF m 17 #[.val (.int p0), .val (.int p1), .val (.int p2), .val (.int p3), .val (.int p4), .val (.int p5), .val (.int n), .val (.int t0), .unset, .unset, .unset, .unset, .unset, .unset, .unset, .unset] [(.int (65535 : Int32)), (.int p2)])) ?_ (H0.ldcI (hw _ (List.mem_of_getElem? (i := 0) rfl)) (g := (mkF m 15 #[.val (.int p0), .val (.int p1), .val (.int p2), .val (.int p3), .val (.int p4), .val (.int p5), .val (.int n), .val (.int t0), .unset, .unset, .unset, .unset, .unset, .unset, .unset, .unset] [(.int p2)])) rfl (hb hby at_15))
  refine Rn.pu (T' := T0) (g' := (mkF m 18 #[.val (.int p0), .val (.int p1), .val (.int p2), .val (.int p3), .val (.int p4), .val (.int p5), .val (.int n), .val (.int t0), .unset, .unset, .unset, .unset, .unset, .unset, .unset, .unset] [(.int (p2 &&& (65535 : Int32)))])) ?_ fun _ zk => XS.iand H0.here hx rfl (hb hby at_17) rfl zk
  refine Rn.pu (T' := T0) (g' := (mkF m 19 #[.val (.int p0), .val (.int p1), .val (.int p2), .val (.int p3), .val (.int p4), .val (.int p5), .val (.int n), .val (.int t0), .unset, .unset, .unset, .unset, .unset, .unset, .unset, .unset] [(.int (nar .char (p2 &&& (65535 : Int32))))])) ?_ fun _ zk => XT.i2c H0.here hx rfl (hb hby at_18) rfl zk
  refine Rn.pu (T' := T0) (g' := (mkF m 21 #[.val (.int p0), .val (.int p1), .val (.int p2), .val (.int p3), .val (.int p4), .val (.int p5), .val (.int n), .val (.int t0), .val (.int (nar .char (p2 &&& (65535 : Int32)))), .unset, .unset, .unset, .unset, .unset, .unset, .unset] [])) ?_ fun _ zk => XS.istore H0.here hx rfl (hb hby at_19) rfl (l' := #[.val (.int p0), .val (.int p1), .val (.int p2), .val (.int p3), .val (.int p4), .val (.int p5), .val (.int n), .val (.int t0), .val (.int (nar .char (p2 &&& (65535 : Int32)))), .unset, .unset, .unset, .unset, .unset, .unset, .unset]) rfl zk
  obtain ⟨t1, et1⟩ : ∃ z : Int32, z = (nar .char (p2 &&& (65535 : Int32))) := ⟨_, rfl⟩
  rw [← et1]
  have rt1 : ¬ t1 < 0 ∧ ¬ (65535 : Int32) < t1 := by rw [et1]; exact u_char _
  refine Rn.pu (T' := T0) (g' := (mkF m 22 #[.val (.int p0), .val (.int p1), .val (.int p2), .val (.int p3), .val (.int p4), .val (.int p5), .val (.int n), .val (.int t0), .val (.int t1), .unset, .unset, .unset, .unset, .unset, .unset, .unset] [(.int p3)])) ?_ fun _ zk => XS.iloadN H0.here hx rfl (hb hby at_21) rfl zk
  refine Rn.pu (g' := (mkF m 24 #[.val (.int p0), .val (.int p1), .val (.int p2), .val (.int p3), .val (.int p4), .val (.int p5), .val (.int n), .val (.int t0), .val (.int t1), .unset, .unset, .unset, .unset, .unset, .unset, .unset] [(.int (65535 : Int32)), (.int p3)])) ?_ (H0.ldcI (hw _ (List.mem_of_getElem? (i := 0) rfl)) (g := (mkF m 22 #[.val (.int p0), .val (.int p1), .val (.int p2), .val (.int p3), .val (.int p4), .val (.int p5), .val (.int n), .val (.int t0), .val (.int t1), .unset, .unset, .unset, .unset, .unset, .unset, .unset] [(.int p3)])) rfl (hb hby at_22))
  refine Rn.pu (T' := T0) (g' := (mkF m 25 #[.val (.int p0), .val (.int p1), .val (.int p2), .val (.int p3), .val (.int p4), .val (.int p5), .val (.int n), .val (.int t0), .val (.int t1), .unset, .unset, .unset, .unset, .unset, .unset, .unset] [(.int (p3 &&& (65535 : Int32)))])) ?_ fun _ zk => XS.iand H0.here hx rfl (hb hby at_24) rfl zk
  refine Rn.pu (T' := T0) (g' := (mkF m 26 #[.val (.int p0), .val (.int p1), .val (.int p2), .val (.int p3), .val (.int p4), .val (.int p5), .val (.int n), .val (.int t0), .val (.int t1), .unset, .unset, .unset, .unset, .unset, .unset, .unset] [(.int (nar .char (p3 &&& (65535 : Int32))))])) ?_ fun _ zk => XT.i2c H0.here hx rfl (hb hby at_25) rfl zk
  refine Rn.pu (T' := T0) (g' := (mkF m 28 #[.val (.int p0), .val (.int p1), .val (.int p2), .val (.int p3), .val (.int p4), .val (.int p5), .val (.int n), .val (.int t0), .val (.int t1), .val (.int (nar .char (p3 &&& (65535 : Int32)))), .unset, .unset, .unset, .unset, .unset, .unset] [])) ?_ fun _ zk => XS.istore H0.here hx rfl (hb hby at_26) rfl (l' := #[.val (.int p0), .val (.int p1), .val (.int p2), .val (.int p3), .val (.int p4), .val (.int p5), .val (.int n), .val (.int t0), .val (.int t1), .val (.int (nar .char (p3 &&& (65535 : Int32)))), .unset, .unset, .unset, .unset, .unset, .unset]) rfl zk
  obtain ⟨t2, et2⟩ : ∃ z : Int32, z = (nar .char (p3 &&& (65535 : Int32))) := ⟨_, rfl⟩
  rw [← et2]
  have rt2 : ¬ t2 < 0 ∧ ¬ (65535 : Int32) < t2 := by rw [et2]; exact u_char _
  refine Rn.pu (T' := T0) (g' := (mkF m 30 #[.val (.int p0), .val (.int p1), .val (.int p2), .val (.int p3), .val (.int p4), .val (.int p5), .val (.int n), .val (.int t0), .val (.int t1), .val (.int t2), .unset, .unset, .unset, .unset, .unset, .unset] [(.int p4)])) ?_ fun _ zk => XS.iload H0.here hx rfl (hb hby at_28) rfl zk
  refine Rn.pu (g' := (mkF m 32 #[.val (.int p0), .val (.int p1), .val (.int p2), .val (.int p3), .val (.int p4), .val (.int p5), .val (.int n), .val (.int t0), .val (.int t1), .val (.int t2), .unset, .unset, .unset, .unset, .unset, .unset] [(.int (65535 : Int32)), (.int p4)])) ?_ (H0.ldcI (hw _ (List.mem_of_getElem? (i := 0) rfl)) (g := (mkF m 30 #[.val (.int p0), .val (.int p1), .val (.int p2), .val (.int p3), .val (.int p4), .val (.int p5), .val (.int n), .val (.int t0), .val (.int t1), .val (.int t2), .unset, .unset, .unset, .unset, .unset, .unset] [(.int p4)])) rfl (hb hby at_30))
  refine Rn.pu (T' := T0) (g' := (mkF m 33 #[.val (.int p0), .val (.int p1), .val (.int p2), .val (.int p3), .val (.int p4), .val (.int p5), .val (.int n), .val (.int t0), .val (.int t1), .val (.int t2), .unset, .unset, .unset, .unset, .unset, .unset] [(.int (p4 &&& (65535 : Int32)))])) ?_ fun _ zk => XS.iand H0.here hx rfl (hb hby at_32) rfl zk
  refine Rn.pu (T' := T0) (g' := (mkF m 34 #[.val (.int p0), .val (.int p1), .val (.int p2), .val (.int p3), .val (.int p4), .val (.int p5), .val (.int n), .val (.int t0), .val (.int t1), .val (.int t2), .unset, .unset, .unset, .unset, .unset, .unset] [(.int (nar .char (p4 &&& (65535 : Int32))))])) ?_ fun _ zk => XT.i2c H0.here hx rfl (hb hby at_33) rfl zk
  refine Rn.pu (T' := T0) (g' := (mkF m 36 #[.val (.int p0), .val (.int p1), .val (.int p2), .val (.int p3), .val (.int p4), .val (.int p5), .val (.int n), .val (.int t0), .val (.int t1), .val (.int t2), .val (.int (nar .char (p4 &&& (65535 : Int32)))), .unset, .unset, .unset, .unset, .unset] [])) ?_ fun _ zk => XS.istore H0.here hx rfl (hb hby at_34) rfl (l' := #[.val (.int p0), .val (.int p1), .val (.int p2), .val (.int p3), .val (.int p4), .val (.int p5), .val (.int n), .val (.int t0), .val (.int t1), .val (.int t2), .val (.int (nar .char (p4 &&& (65535 : Int32)))), .unset, .unset, .unset, .unset, .unset]) rfl zk
  obtain ⟨t3, et3⟩ : ∃ z : Int32, z = (nar .char (p4 &&& (65535 : Int32))) := ⟨_, rfl⟩
  rw [← et3]
  have rt3 : ¬ t3 < 0 ∧ ¬ (65535 : Int32) < t3 := by rw [et3]; exact u_char _
  refine Rn.pu (T' := T0) (g' := (mkF m 38 #[.val (.int p0), .val (.int p1), .val (.int p2), .val (.int p3), .val (.int p4), .val (.int p5), .val (.int n), .val (.int t0), .val (.int t1), .val (.int t2), .val (.int t3), .unset, .unset, .unset, .unset, .unset] [(.int n)])) ?_ fun _ zk => XS.iload H0.here hx rfl (hb hby at_36) rfl zk
  clear en
  rcases rn with rfl | rfl | rfl | rfl
  ·
    refine Rn.pu (T' := T0) (g' := (mkF m 39 #[.val (.int p0), .val (.int p1), .val (.int p2), .val (.int p3), .val (.int p4), .val (.int p5), .val (.int (1 : Int32)), .val (.int t0), .val (.int t1), .val (.int t2), .val (.int t3), .unset, .unset, .unset, .unset, .unset] [(.int (1 : Int32)), (.int (1 : Int32))])) ?_ fun _ zk => XS.iconst H0.here hx rfl (hb hby at_38) zk
    refine Rn.pu (T' := T0) (g' := (mkF m 42 #[.val (.int p0), .val (.int p1), .val (.int p2), .val (.int p3), .val (.int p4), .val (.int p5), .val (.int (1 : Int32)), .val (.int t0), .val (.int t1), .val (.int t2), .val (.int t3), .unset, .unset, .unset, .unset, .unset] [])) ?_ fun _ zk => XS.icmpNo H0.here hx rfl (hb hby at_39) rfl (c_ne_f rfl) zk
    refine Rn.pu (T' := T0) (g' := (mkF m 43 #[.val (.int p0), .val (.int p1), .val (.int p2), .val (.int p3), .val (.int p4), .val (.int p5), .val (.int (1 : Int32)), .val (.int t0), .val (.int t1), .val (.int t2), .val (.int t3), .unset, .unset, .unset, .unset, .unset] [(.int (1 : Int32))])) ?_ fun _ zk => XS.iconst H0.here hx rfl (hb hby at_42) zk
    obtain ⟨a1, k1, T1, h1, e1, H1, K1, A1, st1⟩ := H0.newP (aty := .char) (hw _ (List.mem_of_getElem? (i := 1) rfl)) (g := (mkF m 43 #[.val (.int p0), .val (.int p1), .val (.int p2), .val (.int p3), .val (.int p4), .val (.int p5), .val (.int (1 : Int32)), .val (.int t0), .val (.int t1), .val (.int t2), .val (.int t3), .unset, .unset, .unset, .unset, .unset] [(.int (1 : Int32))])) rfl (hb hby at_43) rfl (by decide) (cap := 1) (by decide) (by decide) (by decide) (by decide)
    have zh1 := K1.1
    have l1 := natlt (A1).lt
    have g1 : s.heap.size ≤ a1 := by omega
    refine Rn.pu (g' := (mkF m 45 #[.val (.int p0), .val (.int p1), .val (.int p2), .val (.int p3), .val (.int p4), .val (.int p5), .val (.int (1 : Int32)), .val (.int t0), .val (.int t1), .val (.int t2), .val (.int t3), .unset, .unset, .unset, .unset, .unset] [(.ref a1)])) ?_ st1
    refine Rn.pu (T' := T1) (g' := (mkF m 46 #[.val (.int p0), .val (.int p1), .val (.int p2), .val (.int p3), .val (.int p4), .val (.int p5), .val (.int (1 : Int32)), .val (.int t0), .val (.int t1), .val (.int t2), .val (.int t3), .unset, .unset, .unset, .unset, .unset] [(.ref a1), (.ref a1)])) ?_ fun _ zk => XS.dup H1.here hx rfl (hb hby at_45) rfl rfl zk
    refine Rn.pu (T' := T1) (g' := (mkF m 47 #[.val (.int p0), .val (.int p1), .val (.int p2), .val (.int p3), .val (.int p4), .val (.int p5), .val (.int (1 : Int32)), .val (.int t0), .val (.int t1), .val (.int t2), .val (.int t3), .unset, .unset, .unset, .unset, .unset] [(.int (0 : Int32)), (.ref a1), (.ref a1)])) ?_ fun _ zk => XS.iconst H1.here hx rfl (hb hby at_46) zk
    refine Rn.pu (T' := T1) (g' := (mkF m 49 #[.val (.int p0), .val (.int p1), .val (.int p2), .val (.int p3), .val (.int p4), .val (.int p5), .val (.int (1 : Int32)), .val (.int t0), .val (.int t1), .val (.int t2), .val (.int t3), .unset, .unset, .unset, .unset, .unset] [(.int t0), (.int (0 : Int32)), (.ref a1), (.ref a1)])) ?_ fun _ zk => XS.iload H1.here hx rfl (hb hby at_47) rfl zk
    obtain ⟨T2, h2, H2, K2, A2, st2⟩ := H1.stC A1 (by decide) rfl (Or.inr (by omega)) (g := (mkF m 49 #[.val (.int p0), .val (.int p1), .val (.int p2), .val (.int p3), .val (.int p4), .val (.int p5), .val (.int (1 : Int32)), .val (.int t0), .val (.int t1), .val (.int t2), .val (.int t3), .unset, .unset, .unset, .unset, .unset] [(.int t0), (.int (0 : Int32)), (.ref a1), (.ref a1)])) rfl rfl (hb hby at_49)
    have zh2 := K2.1
    refine Rn.pu (g' := (mkF m 50 #[.val (.int p0), .val (.int p1), .val (.int p2), .val (.int p3), .val (.int p4), .val (.int p5), .val (.int (1 : Int32)), .val (.int t0), .val (.int t1), .val (.int t2), .val (.int t3), .unset, .unset, .unset, .unset, .unset] [(.ref a1)])) ?_ st2
    refine Rn.pu (T' := T2) (g' := (mkF m 52 #[.val (.int p0), .val (.int p1), .val (.int p2), .val (.int p3), .val (.int p4), .val (.int p5), .val (.int (1 : Int32)), .val (.int t0), .val (.int t1), .val (.int t2), .val (.int t3), .val (.ref a1), .unset, .unset, .unset, .unset] [])) ?_ fun _ zk => XS.astore H2.here hx rfl (hb hby at_50) rfl rfl (l' := #[.val (.int p0), .val (.int p1), .val (.int p2), .val (.int p3), .val (.int p4), .val (.int p5), .val (.int (1 : Int32)), .val (.int t0), .val (.int t1), .val (.int t2), .val (.int t3), .val (.ref a1), .unset, .unset, .unset, .unset]) rfl zk
    refine Rn.pu (T' := T2) (g' := (mkF m 133 #[.val (.int p0), .val (.int p1), .val (.int p2), .val (.int p3), .val (.int p4), .val (.int p5), .val (.int (1 : Int32)), .val (.int t0), .val (.int t1), .val (.int t2), .val (.int t3), .val (.ref a1), .unset, .unset, .unset, .unset] [])) ?_ fun _ zk => XS.goto H2.here hx rfl (pc0 := 52) (pc' := 133) rfl (hb hby at_52) (by decide) (by decide) zk
    have AC : Arv Z h2 a1 k1 .char (1 : Int32) [.int t0] (.int 0) := by have q := A2; simp only [List.nil_append, List.cons_append, List.map, nar_id rt0.1 rt0.2] at q; exact q
    obtain ⟨a3, T3, h3, e3, H3, K3, E3, D3, st3⟩ := H2.newO (hw _ (List.mem_of_getElem? (i := 2) rfl)) (hw _ (List.mem_of_getElem? (i := 3) rfl)) (hw _ (List.mem_of_getElem? (i := 4) rfl)) (g := (mkF m 133 #[.val (.int p0), .val (.int p1), .val (.int p2), .val (.int p3), .val (.int p4), .val (.int p5), .val (.int (1 : Int32)), .val (.int t0), .val (.int t1), .val (.int t2), .val (.int t3), .val (.ref a1), .unset, .unset, .unset, .unset] [])) rfl (hb hby at_133) (by decide) (by decide)
    have zh3 := K3.1
    have l3 := natlt (E3).lt
    have g3 : s.heap.size ≤ a3 := by omega
    have F3_coder : Fld Z h3 a3 "java/lang/String" "coder" "B" (.int (0 : Int32)) := D3 (Or.inr (hw _ (List.mem_of_getElem? (i := 28) rfl))) (ty := .byte) (by decide)
    have F3_value : Fld Z h3 a3 "java/lang/String" "value" "[B" .null := D3 (Or.inr (hw _ (List.mem_of_getElem? (i := 30) rfl))) (ty := (.array .byte)) (by decide)
    refine Rn.pu (g' := (mkF m 136 #[.val (.int p0), .val (.int p1), .val (.int p2), .val (.int p3), .val (.int p4), .val (.int p5), .val (.int (1 : Int32)), .val (.int t0), .val (.int t1), .val (.int t2), .val (.int t3), .val (.ref a1), .unset, .unset, .unset, .unset] [(.ref a3)])) ?_ st3
    refine Rn.pu (T' := T3) (g' := (mkF m 137 #[.val (.int p0), .val (.int p1), .val (.int p2), .val (.int p3), .val (.int p4), .val (.int p5), .val (.int (1 : Int32)), .val (.int t0), .val (.int t1), .val (.int t2), .val (.int t3), .val (.ref a1), .unset, .unset, .unset, .unset] [(.ref a3), (.ref a3)])) ?_ fun _ zk => XS.dup H3.here hx rfl (hb hby at_136) rfl rfl zk
    refine Rn.pu (T' := T3) (g' := (mkF m 139 #[.val (.int p0), .val (.int p1), .val (.int p2), .val (.int p3), .val (.int p4), .val (.int p5), .val (.int (1 : Int32)), .val (.int t0), .val (.int t1), .val (.int t2), .val (.int t3), .val (.ref a1), .unset, .unset, .unset, .unset] [(.ref a1), (.ref a3), (.ref a3)])) ?_ fun _ zk => XS.aload H3.here hx rfl (hb hby at_137) rfl rfl zk
    obtain ⟨_, T4, h4, H4, ⟨rfl, t4, S4, lt4⟩, K4, st4⟩ := H3.callIm rfl (hw _ (List.mem_of_getElem? (i := 5) rfl)) (hw _ (List.mem_of_getElem? (i := 6) rfl)) (hw _ (List.mem_of_getElem? (i := 7) rfl)) (by decide) (payNewU (cs := [t0]) (n := 1) (W := 1) l ⟨hw, SC0, hz0, SF1, rf1, SU2, SU3, SU4⟩ H3.old rfl rfl (by decide) (by decide) (mem2 rt0 mem0) (AC.keep K3 nin0) E3 F3_value F3_coder (by have := H0.old.1; omega) (by decide) (by decide)) (g := (mkF m 139 #[.val (.int p0), .val (.int p1), .val (.int p2), .val (.int p3), .val (.int p4), .val (.int p5), .val (.int (1 : Int32)), .val (.int t0), .val (.int t1), .val (.int t2), .val (.int t3), .val (.ref a1), .unset, .unset, .unset, .unset] [(.ref a1), (.ref a3), (.ref a3)])) rfl (by rw [hml]; rfl) (argsL := [(.ref a1)]) (rest := [(.ref a3)]) (lenOf pd__AC_V rfl) rfl rfl (Nat.le_of_eq rfl) (hb hby at_139) (by decide) (by decide) (allS (Or.inr (by omega)) all0)
    have zh4 := K4.1
    have l4 := natlt (S4).lt
    refine Rn.pu (g' := (mkF m 142 #[.val (.int p0), .val (.int p1), .val (.int p2), .val (.int p3), .val (.int p4), .val (.int p5), .val (.int (1 : Int32)), .val (.int t0), .val (.int t1), .val (.int t2), .val (.int t3), .val (.ref a1), .unset, .unset, .unset, .unset] [(.ref a3)])) ?_ st4
    refine Rn.pu (T' := T4) (g' := (mkF m 144 #[.val (.int p0), .val (.int p1), .val (.int p2), .val (.int p3), .val (.int p4), .val (.int p5), .val (.int (1 : Int32)), .val (.int t0), .val (.int t1), .val (.int t2), .val (.int t3), .val (.ref a1), .val (.ref a3), .unset, .unset, .unset] [])) ?_ fun _ zk => XS.astore H4.here hx rfl (hb hby at_142) rfl rfl (l' := #[.val (.int p0), .val (.int p1), .val (.int p2), .val (.int p3), .val (.int p4), .val (.int p5), .val (.int (1 : Int32)), .val (.int t0), .val (.int t1), .val (.int t2), .val (.int t3), .val (.ref a1), .val (.ref a3), .unset, .unset, .unset]) rfl zk
    obtain ⟨a5, T5, h5, e5, H5, K5, E5, D5, st5⟩ := H4.newO (hw _ (List.mem_of_getElem? (i := 31) rfl)) (hw _ (List.mem_of_getElem? (i := 32) rfl)) (hw _ (List.mem_of_getElem? (i := 33) rfl)) (g := (mkF m 144 #[.val (.int p0), .val (.int p1), .val (.int p2), .val (.int p3), .val (.int p4), .val (.int p5), .val (.int (1 : Int32)), .val (.int t0), .val (.int t1), .val (.int t2), .val (.int t3), .val (.ref a1), .val (.ref a3), .unset, .unset, .unset] [])) rfl (hb hby at_144) (by decide) (by decide)
    have zh5 := K5.1
    have l5 := natlt (E5).lt
    have g5 : s.heap.size ≤ a5 := by omega
    have F5_m_source : Fld Z h5 a5 "com/example/vestline/vestline/Field" "m_source" "Ljava/lang/String;" .null := D5 (Or.inr (hw _ (List.mem_of_getElem? (i := 43) rfl))) (ty := (.object "java/lang/String")) (by decide)
    have F5_m_line : Fld Z h5 a5 "com/example/vestline/vestline/Field" "m_line" "I" (.int (0 : Int32)) := D5 (Or.inr (hw _ (List.mem_of_getElem? (i := 45) rfl))) (ty := .int) (by decide)
    have F5_m_name : Fld Z h5 a5 "com/example/vestline/vestline/Field" "m_name" "Ljava/lang/String;" .null := D5 (Or.inr (hw _ (List.mem_of_getElem? (i := 47) rfl))) (ty := (.object "java/lang/String")) (by decide)
    have F5_m_text : Fld Z h5 a5 "com/example/vestline/vestline/Field" "m_text" "Ljava/lang/String;" .null := D5 (Or.inr (hw _ (List.mem_of_getElem? (i := 49) rfl))) (ty := (.object "java/lang/String")) (by decide)
    refine Rn.pu (g' := (mkF m 147 #[.val (.int p0), .val (.int p1), .val (.int p2), .val (.int p3), .val (.int p4), .val (.int p5), .val (.int (1 : Int32)), .val (.int t0), .val (.int t1), .val (.int t2), .val (.int t3), .val (.ref a1), .val (.ref a3), .unset, .unset, .unset] [(.ref a5)])) ?_ st5
    refine Rn.pu (T' := T5) (g' := (mkF m 148 #[.val (.int p0), .val (.int p1), .val (.int p2), .val (.int p3), .val (.int p4), .val (.int p5), .val (.int (1 : Int32)), .val (.int t0), .val (.int t1), .val (.int t2), .val (.int t3), .val (.ref a1), .val (.ref a3), .unset, .unset, .unset] [(.ref a5), (.ref a5)])) ?_ fun _ zk => XS.dup H5.here hx rfl (hb hby at_147) rfl rfl zk
    obtain ⟨a6, T6, h6, H6, K6, st6⟩ := H5.ldcS (hw _ (List.mem_of_getElem? (i := 34) rfl)) (hws_sa hw) (g := (mkF m 148 #[.val (.int p0), .val (.int p1), .val (.int p2), .val (.int p3), .val (.int p4), .val (.int p5), .val (.int (1 : Int32)), .val (.int t0), .val (.int t1), .val (.int t2), .val (.int t3), .val (.ref a1), .val (.ref a3), .unset, .unset, .unset] [(.ref a5), (.ref a5)])) rfl (hb hby at_148) (n := 4) (by decide) (by decide) (by decide) (by decide)
    have zh6 := K6.1
    refine Rn.pu (g' := (mkF m 150 #[.val (.int p0), .val (.int p1), .val (.int p2), .val (.int p3), .val (.int p4), .val (.int p5), .val (.int (1 : Int32)), .val (.int t0), .val (.int t1), .val (.int t2), .val (.int t3), .val (.ref a1), .val (.ref a3), .unset, .unset, .unset] [(.ref a6), (.ref a5), (.ref a5)])) ?_ st6
    refine Rn.pu (T' := T6) (g' := (mkF m 152 #[.val (.int p0), .val (.int p1), .val (.int p2), .val (.int p3), .val (.int p4), .val (.int p5), .val (.int (1 : Int32)), .val (.int t0), .val (.int t1), .val (.int t2), .val (.int t3), .val (.ref a1), .val (.ref a3), .unset, .unset, .unset] [(.int p5), (.ref a6), (.ref a5), (.ref a5)])) ?_ fun _ zk => XS.iload H6.here hx rfl (hb hby at_150) rfl zk
    obtain ⟨a7, T7, h7, H7, K7, st7⟩ := H6.ldcS (hw _ (List.mem_of_getElem? (i := 37) rfl)) (hws_sa hw) (g := (mkF m 152 #[.val (.int p0), .val (.int p1), .val (.int p2), .val (.int p3), .val (.int p4), .val (.int p5), .val (.int (1 : Int32)), .val (.int t0), .val (.int t1), .val (.int t2), .val (.int t3), .val (.ref a1), .val (.ref a3), .unset, .unset, .unset] [(.int p5), (.ref a6), (.ref a5), (.ref a5)])) rfl (hb hby at_152) (n := 32) (by decide) (by decide) (by decide) (by decide)
    have zh7 := K7.1
    refine Rn.pu (g' := (mkF m 154 #[.val (.int p0), .val (.int p1), .val (.int p2), .val (.int p3), .val (.int p4), .val (.int p5), .val (.int (1 : Int32)), .val (.int t0), .val (.int t1), .val (.int t2), .val (.int t3), .val (.ref a1), .val (.ref a3), .unset, .unset, .unset] [(.ref a7), (.int p5), (.ref a6), (.ref a5), (.ref a5)])) ?_ st7
    refine Rn.pu (T' := T7) (g' := (mkF m 156 #[.val (.int p0), .val (.int p1), .val (.int p2), .val (.int p3), .val (.int p4), .val (.int p5), .val (.int (1 : Int32)), .val (.int t0), .val (.int t1), .val (.int t2), .val (.int t3), .val (.ref a1), .val (.ref a3), .unset, .unset, .unset] [(.ref a3), (.ref a7), (.int p5), (.ref a6), (.ref a5), (.ref a5)])) ?_ fun _ zk => XS.aload H7.here hx rfl (hb hby at_154) rfl rfl zk
    obtain ⟨_, T8, h8, H8, ⟨rfl, E8, G8_0, G8_1, G8_2, G8_3⟩, K8, st8⟩ := H7.callI rfl (hw _ (List.mem_of_getElem? (i := 38) rfl)) (hw _ (List.mem_of_getElem? (i := 39) rfl)) (hw _ (List.mem_of_getElem? (i := 40) rfl)) (by decide) (MetN.pay (W := 1) (c_init l ⟨hw, SC0, hz0, SF1, rf1, SU2, SU3, SU4⟩ a5 a6 a7 a3 p5 h7 H7.old ((E5.keep K6).keep K7) ((F5_m_source.keep K6 nin0).keep K7 nin0) ((F5_m_line.keep K6 nin0).keep K7 nin0) ((F5_m_name.keep K6 nin0).keep K7 nin0) ((F5_m_text.keep K6 nin0).keep K7 nin0) (by omega)) (hw _ (List.mem_of_getElem? (i := 40) rfl)) (hw _ (List.mem_of_getElem? (i := 33) rfl)) (by decide) (by decide)) (g := (mkF m 156 #[.val (.int p0), .val (.int p1), .val (.int p2), .val (.int p3), .val (.int p4), .val (.int p5), .val (.int (1 : Int32)), .val (.int t0), .val (.int t1), .val (.int t2), .val (.int t3), .val (.ref a1), .val (.ref a3), .unset, .unset, .unset] [(.ref a3), (.ref a7), (.int p5), (.ref a6), (.ref a5), (.ref a5)])) rfl (by rw [hml]; rfl) (argsL := [(.ref a6), (.int p5), (.ref a7), (.ref a3)]) (rest := [(.ref a5)]) (lenOf pd__Ljava_lang_String_ILjava_lang_String_Ljava_lang_String__V rfl) rfl rfl (Nat.le_of_eq rfl) (hb hby at_156) (by decide) (by decide) (allS (Or.inr (by omega)) all0)
    have zh8 := K8.1
    refine Rn.pu (g' := (mkF m 159 #[.val (.int p0), .val (.int p1), .val (.int p2), .val (.int p3), .val (.int p4), .val (.int p5), .val (.int (1 : Int32)), .val (.int t0), .val (.int t1), .val (.int t2), .val (.int t3), .val (.ref a1), .val (.ref a3), .unset, .unset, .unset] [(.ref a5)])) ?_ st8
    refine Rn.pu (T' := T8) (g' := (mkF m 161 #[.val (.int p0), .val (.int p1), .val (.int p2), .val (.int p3), .val (.int p4), .val (.int p5), .val (.int (1 : Int32)), .val (.int t0), .val (.int t1), .val (.int t2), .val (.int t3), .val (.ref a1), .val (.ref a3), .val (.ref a5), .unset, .unset] [])) ?_ fun _ zk => XS.astore H8.here hx rfl (hb hby at_159) rfl rfl (l' := #[.val (.int p0), .val (.int p1), .val (.int p2), .val (.int p3), .val (.int p4), .val (.int p5), .val (.int (1 : Int32)), .val (.int t0), .val (.int t1), .val (.int t2), .val (.int t3), .val (.ref a1), .val (.ref a3), .val (.ref a5), .unset, .unset]) rfl zk
    refine Rn.pu (T' := T8) (g' := (mkF m 163 #[.val (.int p0), .val (.int p1), .val (.int p2), .val (.int p3), .val (.int p4), .val (.int p5), .val (.int (1 : Int32)), .val (.int t0), .val (.int t1), .val (.int t2), .val (.int t3), .val (.ref a1), .val (.ref a3), .val (.ref a5), .unset, .unset] [(.ref a5)])) ?_ fun _ zk => XS.aload H8.here hx rfl (hb hby at_161) rfl rfl zk
    obtain ⟨_, T9, h9, H9, ⟨rfl, rfl⟩, -, st9⟩ := H8.callV (C := "com/example/vestline/vestline/Field") (hw _ (List.mem_of_getElem? (i := 50) rfl)) (hw _ (List.mem_of_getElem? (i := 51) rfl)) (hw _ (List.mem_of_getElem? (i := 53) rfl)) (hw _ (List.mem_of_getElem? (i := 52) rfl)) (by decide) (MetN.pay (W := 0) (c_text l ⟨hw, SC0, hz0, SF1, rf1, SU2, SU3, SU4⟩ a5 a3 t4 ([t0]) h8 H8.old G8_3 ((((S4.keep K5 nin0 nin0).keep K6 nin0 nin0).keep K7 nin0 nin0).keep K8 (ninS (adne (by omega)) nin0) (ninS (adne (by omega)) nin0)) (by simp)) (hw _ (List.mem_of_getElem? (i := 54) rfl)) (hw _ (List.mem_of_getElem? (i := 33) rfl)) (by decide) (by decide)) E8 (g := (mkF m 163 #[.val (.int p0), .val (.int p1), .val (.int p2), .val (.int p3), .val (.int p4), .val (.int p5), .val (.int (1 : Int32)), .val (.int t0), .val (.int t1), .val (.int t2), .val (.int t3), .val (.ref a1), .val (.ref a3), .val (.ref a5), .unset, .unset] [(.ref a5)])) rfl (by rw [hml]; rfl) (argsL := []) (rest := []) (lenOf pd___Ljava_lang_String_ rfl) rfl rfl (Nat.le_of_eq rfl) (hb hby at_163) (by decide) (by decide) all0
    refine Rn.pu (g' := (mkF m 166 #[.val (.int p0), .val (.int p1), .val (.int p2), .val (.int p3), .val (.int p4), .val (.int p5), .val (.int (1 : Int32)), .val (.int t0), .val (.int t1), .val (.int t2), .val (.int t3), .val (.ref a1), .val (.ref a3), .val (.ref a5), .unset, .unset] [(.ref a3)])) ?_ st9
    refine Rn.pu (T' := T9) (g' := (mkF m 168 #[.val (.int p0), .val (.int p1), .val (.int p2), .val (.int p3), .val (.int p4), .val (.int p5), .val (.int (1 : Int32)), .val (.int t0), .val (.int t1), .val (.int t2), .val (.int t3), .val (.ref a1), .val (.ref a3), .val (.ref a5), .val (.ref a3), .unset] [])) ?_ fun _ zk => XS.astore H9.here hx rfl (hb hby at_166) rfl rfl (l' := #[.val (.int p0), .val (.int p1), .val (.int p2), .val (.int p3), .val (.int p4), .val (.int p5), .val (.int (1 : Int32)), .val (.int t0), .val (.int t1), .val (.int t2), .val (.int t3), .val (.ref a1), .val (.ref a3), .val (.ref a5), .val (.ref a3), .unset]) rfl zk
    refine Rn.pu (T' := T9) (g' := (mkF m 170 #[.val (.int p0), .val (.int p1), .val (.int p2), .val (.int p3), .val (.int p4), .val (.int p5), .val (.int (1 : Int32)), .val (.int t0), .val (.int t1), .val (.int t2), .val (.int t3), .val (.ref a1), .val (.ref a3), .val (.ref a5), .val (.ref a3), .unset] [(.ref a3)])) ?_ fun _ zk => XS.aload H9.here hx rfl (hb hby at_168) rfl rfl zk
    refine Rn.pu (T' := T9) (g' := (mkF m 173 #[.val (.int p0), .val (.int p1), .val (.int p2), .val (.int p3), .val (.int p4), .val (.int p5), .val (.int (1 : Int32)), .val (.int t0), .val (.int t1), .val (.int t2), .val (.int t3), .val (.ref a1), .val (.ref a3), .val (.ref a5), .val (.ref a3), .unset] [])) ?_ fun _ zk => XS.ifnullNo H9.here hx rfl (hb hby at_170) rfl zk
    refine Rn.pu (T' := T9) (g' := (mkF m 175 #[.val (.int p0), .val (.int p1), .val (.int p2), .val (.int p3), .val (.int p4), .val (.int p5), .val (.int (1 : Int32)), .val (.int t0), .val (.int t1), .val (.int t2), .val (.int t3), .val (.ref a1), .val (.ref a3), .val (.ref a5), .val (.ref a3), .unset] [(.ref a3)])) ?_ fun _ zk => XS.aload H9.here hx rfl (hb hby at_173) rfl rfl zk
    obtain ⟨_, T10, h10, H10, ⟨rfl, rfl⟩, -, st10⟩ := H9.callV (C := "java/lang/String") (hw _ (List.mem_of_getElem? (i := 60) rfl)) (hw _ (List.mem_of_getElem? (i := 61) rfl)) (hw _ (List.mem_of_getElem? (i := 63) rfl)) (hw _ (List.mem_of_getElem? (i := 62) rfl)) (by decide) (payLen (W := 0) (hws_len hw) (hw _ (List.mem_of_getElem? (i := 3) rfl)) ((((S4.keep K5 nin0 nin0).keep K6 nin0 nin0).keep K7 nin0 nin0).keep K8 (ninS (adne (by omega)) nin0) (ninS (adne (by omega)) nin0)) (SC0.ext H9.old) hz0 (by decide) (by decide)) ((((S4.exa.keep K5).keep K6).keep K7).keep K8) (g := (mkF m 175 #[.val (.int p0), .val (.int p1), .val (.int p2), .val (.int p3), .val (.int p4), .val (.int p5), .val (.int (1 : Int32)), .val (.int t0), .val (.int t1), .val (.int t2), .val (.int t3), .val (.ref a1), .val (.ref a3), .val (.ref a5), .val (.ref a3), .unset] [(.ref a3)])) rfl (by rw [hml]; rfl) (argsL := []) (rest := []) (lenOf pd___I rfl) rfl rfl (Nat.le_of_eq rfl) (hb hby at_175) (by decide) (by decide) all0
    refine Rn.pu (g' := (mkF m 178 #[.val (.int p0), .val (.int p1), .val (.int p2), .val (.int p3), .val (.int p4), .val (.int p5), .val (.int (1 : Int32)), .val (.int t0), .val (.int t1), .val (.int t2), .val (.int t3), .val (.ref a1), .val (.ref a3), .val (.ref a5), .val (.ref a3), .unset] [(.int (Int32.ofNat ([t0]).length))])) ?_ st10
    refine Rn.pu (T' := T10) (g' := (mkF m 180 #[.val (.int p0), .val (.int p1), .val (.int p2), .val (.int p3), .val (.int p4), .val (.int p5), .val (.int (1 : Int32)), .val (.int t0), .val (.int t1), .val (.int t2), .val (.int t3), .val (.ref a1), .val (.ref a3), .val (.ref a5), .val (.ref a3), .unset] [(.int (1 : Int32)), (.int (Int32.ofNat ([t0]).length))])) ?_ fun _ zk => XS.iload H10.here hx rfl (hb hby at_178) rfl zk
    refine Rn.pu (T' := T10) (g' := (mkF m 185 #[.val (.int p0), .val (.int p1), .val (.int p2), .val (.int p3), .val (.int p4), .val (.int p5), .val (.int (1 : Int32)), .val (.int t0), .val (.int t1), .val (.int t2), .val (.int t3), .val (.ref a1), .val (.ref a3), .val (.ref a5), .val (.ref a3), .unset] [])) ?_ fun _ zk => XS.icmpYes H10.here hx rfl (pc0 := 180) (pc' := 185) rfl (hb hby at_180) rfl (c_eq_t rfl) (by decide) (by decide) zk
    refine Rn.pu (T' := T10) (g' := (mkF m 187 #[.val (.int p0), .val (.int p1), .val (.int p2), .val (.int p3), .val (.int p4), .val (.int p5), .val (.int (1 : Int32)), .val (.int t0), .val (.int t1), .val (.int t2), .val (.int t3), .val (.ref a1), .val (.ref a3), .val (.ref a5), .val (.ref a3), .unset] [(.ref a3)])) ?_ fun _ zk => XS.aload H10.here hx rfl (hb hby at_185) rfl rfl zk
    refine Rn.pu (T' := T10) (g' := (mkF m 188 #[.val (.int p0), .val (.int p1), .val (.int p2), .val (.int p3), .val (.int p4), .val (.int p5), .val (.int (1 : Int32)), .val (.int t0), .val (.int t1), .val (.int t2), .val (.int t3), .val (.ref a1), .val (.ref a3), .val (.ref a5), .val (.ref a3), .unset] [(.int (0 : Int32)), (.ref a3)])) ?_ fun _ zk => XS.iconst H10.here hx rfl (hb hby at_187) zk
    obtain ⟨_, T11, h11, H11, ⟨rfl, rfl⟩, -, st11⟩ := H10.callV (C := "java/lang/String") (hw _ (List.mem_of_getElem? (i := 70) rfl)) (hw _ (List.mem_of_getElem? (i := 71) rfl)) (hw _ (List.mem_of_getElem? (i := 73) rfl)) (hw _ (List.mem_of_getElem? (i := 72) rfl)) (by decide) (payChU (W := 0) l ⟨hw, SC0, hz0, SF1, rf1, SU2, SU3, SU4⟩ H10.old ((((S4.keep K5 nin0 nin0).keep K6 nin0 nin0).keep K7 nin0 nin0).keep K8 (ninS (adne (by omega)) nin0) (ninS (adne (by omega)) nin0)) (by simp) (i := 0) (by simp) rfl (by decide) (by decide)) ((((S4.exa.keep K5).keep K6).keep K7).keep K8) (g := (mkF m 188 #[.val (.int p0), .val (.int p1), .val (.int p2), .val (.int p3), .val (.int p4), .val (.int p5), .val (.int (1 : Int32)), .val (.int t0), .val (.int t1), .val (.int t2), .val (.int t3), .val (.ref a1), .val (.ref a3), .val (.ref a5), .val (.ref a3), .unset] [(.int (0 : Int32)), (.ref a3)])) rfl (by rw [hml]; rfl) (argsL := [(.int (0 : Int32))]) (rest := []) (lenOf pd__I_C rfl) rfl rfl (Nat.le_of_eq rfl) (hb hby at_188) (by decide) (by decide) all0
    refine Rn.pu (g' := (mkF m 191 #[.val (.int p0), .val (.int p1), .val (.int p2), .val (.int p3), .val (.int p4), .val (.int p5), .val (.int (1 : Int32)), .val (.int t0), .val (.int t1), .val (.int t2), .val (.int t3), .val (.ref a1), .val (.ref a3), .val (.ref a5), .val (.ref a3), .unset] [(.int t0)])) ?_ st11
    refine Rn.pu (T' := T11) (g' := (mkF m 193 #[.val (.int p0), .val (.int p1), .val (.int p2), .val (.int p3), .val (.int p4), .val (.int p5), .val (.int (1 : Int32)), .val (.int t0), .val (.int t1), .val (.int t2), .val (.int t3), .val (.ref a1), .val (.ref a3), .val (.ref a5), .val (.ref a3), .unset] [(.int t0), (.int t0)])) ?_ fun _ zk => XS.iload H11.here hx rfl (hb hby at_191) rfl zk
    refine Rn.pu (T' := T11) (g' := (mkF m 196 #[.val (.int p0), .val (.int p1), .val (.int p2), .val (.int p3), .val (.int p4), .val (.int p5), .val (.int (1 : Int32)), .val (.int t0), .val (.int t1), .val (.int t2), .val (.int t3), .val (.ref a1), .val (.ref a3), .val (.ref a5), .val (.ref a3), .unset] [])) ?_ fun _ zk => XS.icmpNo H11.here hx rfl (hb hby at_193) rfl (c_ne_f rfl) zk
    refine Rn.pu (T' := T11) (g' := (mkF m 197 #[.val (.int p0), .val (.int p1), .val (.int p2), .val (.int p3), .val (.int p4), .val (.int p5), .val (.int (1 : Int32)), .val (.int t0), .val (.int t1), .val (.int t2), .val (.int t3), .val (.ref a1), .val (.ref a3), .val (.ref a5), .val (.ref a3), .unset] [(.int (1 : Int32))])) ?_ fun _ zk => XS.iconst H11.here hx rfl (hb hby at_196) zk
    refine Rn.pu (T' := T11) (g' := (mkF m 201 #[.val (.int p0), .val (.int p1), .val (.int p2), .val (.int p3), .val (.int p4), .val (.int p5), .val (.int (1 : Int32)), .val (.int t0), .val (.int t1), .val (.int t2), .val (.int t3), .val (.ref a1), .val (.ref a3), .val (.ref a5), .val (.ref a3), .unset] [(.int (1 : Int32))])) ?_ fun _ zk => XS.goto H11.here hx rfl (pc0 := 197) (pc' := 201) rfl (hb hby at_197) (by decide) (by decide) zk
    refine Rn.pu (T' := T11) (g' := (mkF m 203 #[.val (.int p0), .val (.int p1), .val (.int p2), .val (.int p3), .val (.int p4), .val (.int p5), .val (.int (1 : Int32)), .val (.int t0), .val (.int t1), .val (.int t2), .val (.int t3), .val (.ref a1), .val (.ref a3), .val (.ref a5), .val (.ref a3), .val (.int (1 : Int32))] [])) ?_ fun _ zk => XS.istore H11.here hx rfl (hb hby at_201) rfl (l' := #[.val (.int p0), .val (.int p1), .val (.int p2), .val (.int p3), .val (.int p4), .val (.int p5), .val (.int (1 : Int32)), .val (.int t0), .val (.int t1), .val (.int t2), .val (.int t3), .val (.ref a1), .val (.ref a3), .val (.ref a5), .val (.ref a3), .val (.int (1 : Int32))]) rfl zk
    refine Rn.pu (T' := T11) (g' := (mkF m 205 #[.val (.int p0), .val (.int p1), .val (.int p2), .val (.int p3), .val (.int p4), .val (.int p5), .val (.int (1 : Int32)), .val (.int t0), .val (.int t1), .val (.int t2), .val (.int t3), .val (.ref a1), .val (.ref a3), .val (.ref a5), .val (.ref a3), .val (.int (1 : Int32))] [(.int (1 : Int32))])) ?_ fun _ zk => XS.iload H11.here hx rfl (hb hby at_203) rfl zk
    refine Rn.pu (T' := T11) (g' := (mkF m 206 #[.val (.int p0), .val (.int p1), .val (.int p2), .val (.int p3), .val (.int p4), .val (.int p5), .val (.int (1 : Int32)), .val (.int t0), .val (.int t1), .val (.int t2), .val (.int t3), .val (.ref a1), .val (.ref a3), .val (.ref a5), .val (.ref a3), .val (.int (1 : Int32))] [(.int (2 : Int32)), (.int (1 : Int32))])) ?_ fun _ zk => XS.iconst H11.here hx rfl (hb hby at_205) zk
    refine Rn.pu (T' := T11) (g' := (mkF m 232 #[.val (.int p0), .val (.int p1), .val (.int p2), .val (.int p3), .val (.int p4), .val (.int p5), .val (.int (1 : Int32)), .val (.int t0), .val (.int t1), .val (.int t2), .val (.int t3), .val (.ref a1), .val (.ref a3), .val (.ref a5), .val (.ref a3), .val (.int (1 : Int32))] [])) ?_ fun _ zk => XS.icmpYes H11.here hx rfl (pc0 := 206) (pc' := 232) rfl (hb hby at_206) rfl (c_lt_t (by decide)) (by decide) (by decide) zk
    refine Rn.pu (T' := T11) (g' := (mkF m 234 #[.val (.int p0), .val (.int p1), .val (.int p2), .val (.int p3), .val (.int p4), .val (.int p5), .val (.int (1 : Int32)), .val (.int t0), .val (.int t1), .val (.int t2), .val (.int t3), .val (.ref a1), .val (.ref a3), .val (.ref a5), .val (.ref a3), .val (.int (1 : Int32))] [(.int (1 : Int32))])) ?_ fun _ zk => XS.iload H11.here hx rfl (hb hby at_232) rfl zk
    refine Rn.pu (T' := T11) (g' := (mkF m 235 #[.val (.int p0), .val (.int p1), .val (.int p2), .val (.int p3), .val (.int p4), .val (.int p5), .val (.int (1 : Int32)), .val (.int t0), .val (.int t1), .val (.int t2), .val (.int t3), .val (.ref a1), .val (.ref a3), .val (.ref a5), .val (.ref a3), .val (.int (1 : Int32))] [(.int (3 : Int32)), (.int (1 : Int32))])) ?_ fun _ zk => XS.iconst H11.here hx rfl (hb hby at_234) zk
    refine Rn.pu (T' := T11) (g' := (mkF m 261 #[.val (.int p0), .val (.int p1), .val (.int p2), .val (.int p3), .val (.int p4), .val (.int p5), .val (.int (1 : Int32)), .val (.int t0), .val (.int t1), .val (.int t2), .val (.int t3), .val (.ref a1), .val (.ref a3), .val (.ref a5), .val (.ref a3), .val (.int (1 : Int32))] [])) ?_ fun _ zk => XS.icmpYes H11.here hx rfl (pc0 := 235) (pc' := 261) rfl (hb hby at_235) rfl (c_lt_t (by decide)) (by decide) (by decide) zk
    refine Rn.pu (T' := T11) (g' := (mkF m 263 #[.val (.int p0), .val (.int p1), .val (.int p2), .val (.int p3), .val (.int p4), .val (.int p5), .val (.int (1 : Int32)), .val (.int t0), .val (.int t1), .val (.int t2), .val (.int t3), .val (.ref a1), .val (.ref a3), .val (.ref a5), .val (.ref a3), .val (.int (1 : Int32))] [(.int (1 : Int32))])) ?_ fun _ zk => XS.iload H11.here hx rfl (hb hby at_261) rfl zk
    refine Rn.pu (T' := T11) (g' := (mkF m 264 #[.val (.int p0), .val (.int p1), .val (.int p2), .val (.int p3), .val (.int p4), .val (.int p5), .val (.int (1 : Int32)), .val (.int t0), .val (.int t1), .val (.int t2), .val (.int t3), .val (.ref a1), .val (.ref a3), .val (.ref a5), .val (.ref a3), .val (.int (1 : Int32))] [(.int (4 : Int32)), (.int (1 : Int32))])) ?_ fun _ zk => XS.iconst H11.here hx rfl (hb hby at_263) zk
    refine Rn.pu (T' := T11) (g' := (mkF m 290 #[.val (.int p0), .val (.int p1), .val (.int p2), .val (.int p3), .val (.int p4), .val (.int p5), .val (.int (1 : Int32)), .val (.int t0), .val (.int t1), .val (.int t2), .val (.int t3), .val (.ref a1), .val (.ref a3), .val (.ref a5), .val (.ref a3), .val (.int (1 : Int32))] [])) ?_ fun _ zk => XS.icmpYes H11.here hx rfl (pc0 := 264) (pc' := 290) rfl (hb hby at_264) rfl (c_lt_t (by decide)) (by decide) (by decide) zk
    refine Rn.pu (T' := T11) (g' := (mkF m 292 #[.val (.int p0), .val (.int p1), .val (.int p2), .val (.int p3), .val (.int p4), .val (.int p5), .val (.int (1 : Int32)), .val (.int t0), .val (.int t1), .val (.int t2), .val (.int t3), .val (.ref a1), .val (.ref a3), .val (.ref a5), .val (.ref a3), .val (.int (1 : Int32))] [(.int (1 : Int32))])) ?_ fun _ zk => XS.iload H11.here hx rfl (hb hby at_290) rfl zk
    refine Rn.pu (T' := T11) (g' := (mkF m 295 #[.val (.int p0), .val (.int p1), .val (.int p2), .val (.int p3), .val (.int p4), .val (.int p5), .val (.int (1 : Int32)), .val (.int t0), .val (.int t1), .val (.int t2), .val (.int t3), .val (.ref a1), .val (.ref a3), .val (.ref a5), .val (.ref a3), .val (.int (1 : Int32))] [])) ?_ fun _ zk => XS.ifNo H11.here hx rfl (hb hby at_292) rfl (z_eq_f (by decide)) zk
    refine Rn.pu (T' := T11) (g' := (mkF m 297 #[.val (.int p0), .val (.int p1), .val (.int p2), .val (.int p3), .val (.int p4), .val (.int p5), .val (.int (1 : Int32)), .val (.int t0), .val (.int t1), .val (.int t2), .val (.int t3), .val (.ref a1), .val (.ref a3), .val (.ref a5), .val (.ref a3), .val (.int (1 : Int32))] [(.ref a3)])) ?_ fun _ zk => XS.aload H11.here hx rfl (hb hby at_295) rfl rfl zk
    refine Rn.pu (T' := T11) (g' := (mkF m 299 #[.val (.int p0), .val (.int p1), .val (.int p2), .val (.int p3), .val (.int p4), .val (.int p5), .val (.int (1 : Int32)), .val (.int t0), .val (.int t1), .val (.int t2), .val (.int t3), .val (.ref a1), .val (.ref a3), .val (.ref a5), .val (.ref a3), .val (.int (1 : Int32))] [(.ref a5), (.ref a3)])) ?_ fun _ zk => XS.aload H11.here hx rfl (hb hby at_297) rfl rfl zk
    obtain ⟨_, T12, h12, H12, ⟨rfl, rfl⟩, -, st12⟩ := H11.callV (C := "com/example/vestline/vestline/Field") (hw _ (List.mem_of_getElem? (i := 92) rfl)) (hw _ (List.mem_of_getElem? (i := 93) rfl)) (hw _ (List.mem_of_getElem? (i := 95) rfl)) (hw _ (List.mem_of_getElem? (i := 94) rfl)) (by decide) (MetN.pay (W := 1) (c_prn l ⟨hw, SC0, hz0, SF1, rf1, SU2, SU3, SU4⟩ a5 a3 h8 H11.old G8_3) (hw _ (List.mem_of_getElem? (i := 96) rfl)) (hw _ (List.mem_of_getElem? (i := 33) rfl)) (by decide) (by decide)) E8 (g := (mkF m 299 #[.val (.int p0), .val (.int p1), .val (.int p2), .val (.int p3), .val (.int p4), .val (.int p5), .val (.int (1 : Int32)), .val (.int t0), .val (.int t1), .val (.int t2), .val (.int t3), .val (.ref a1), .val (.ref a3), .val (.ref a5), .val (.ref a3), .val (.int (1 : Int32))] [(.ref a5), (.ref a3)])) rfl (by rw [hml]; rfl) (argsL := []) (rest := [(.ref a3)]) (lenOf pd___Ljava_lang_String_ rfl) rfl rfl (Nat.le_of_eq rfl) (hb hby at_299) (by decide) (by decide) all0
    refine Rn.pu (g' := (mkF m 302 #[.val (.int p0), .val (.int p1), .val (.int p2), .val (.int p3), .val (.int p4), .val (.int p5), .val (.int (1 : Int32)), .val (.int t0), .val (.int t1), .val (.int t2), .val (.int t3), .val (.ref a1), .val (.ref a3), .val (.ref a5), .val (.ref a3), .val (.int (1 : Int32))] [(.ref a3), (.ref a3)])) ?_ st12
    obtain ⟨_, T13, h13, H13, ⟨rfl, rfl⟩, -, st13⟩ := H12.callV (C := "java/lang/String") (hw _ (List.mem_of_getElem? (i := 97) rfl)) (hw _ (List.mem_of_getElem? (i := 98) rfl)) (hw _ (List.mem_of_getElem? (i := 100) rfl)) (hw _ (List.mem_of_getElem? (i := 99) rfl)) (by decide) (MetN.pay (W := 0) (c_same l ⟨hw, SC0, hz0, SF1, rf1, SU2, SU3, SU4⟩ a3 h8 H12.old) (hw _ (List.mem_of_getElem? (i := 101) rfl)) (hw _ (List.mem_of_getElem? (i := 4) rfl)) (by decide) (by decide)) ((((S4.exa.keep K5).keep K6).keep K7).keep K8) (g := (mkF m 302 #[.val (.int p0), .val (.int p1), .val (.int p2), .val (.int p3), .val (.int p4), .val (.int p5), .val (.int (1 : Int32)), .val (.int t0), .val (.int t1), .val (.int t2), .val (.int t3), .val (.ref a1), .val (.ref a3), .val (.ref a5), .val (.ref a3), .val (.int (1 : Int32))] [(.ref a3), (.ref a3)])) rfl (by rw [hml]; rfl) (argsL := [(.ref a3)]) (rest := []) (lenOf pd__Ljava_lang_Object__Z rfl) rfl rfl (Nat.le_of_eq rfl) (hb hby at_302) (by decide) (by decide) all0
    refine Rn.pu (g' := (mkF m 305 #[.val (.int p0), .val (.int p1), .val (.int p2), .val (.int p3), .val (.int p4), .val (.int p5), .val (.int (1 : Int32)), .val (.int t0), .val (.int t1), .val (.int t2), .val (.int t3), .val (.ref a1), .val (.ref a3), .val (.ref a5), .val (.ref a3), .val (.int (1 : Int32))] [(.int (1 : Int32))])) ?_ st13
    refine Rn.pu (T' := T13) (g' := (mkF m 308 #[.val (.int p0), .val (.int p1), .val (.int p2), .val (.int p3), .val (.int p4), .val (.int p5), .val (.int (1 : Int32)), .val (.int t0), .val (.int t1), .val (.int t2), .val (.int t3), .val (.ref a1), .val (.ref a3), .val (.ref a5), .val (.ref a3), .val (.int (1 : Int32))] [])) ?_ fun _ zk => XS.ifNo H13.here hx rfl (hb hby at_305) rfl (z_eq_f (by decide)) zk
    refine Rn.pu (T' := T13) (g' := (mkF m 310 #[.val (.int p0), .val (.int p1), .val (.int p2), .val (.int p3), .val (.int p4), .val (.int p5), .val (.int (1 : Int32)), .val (.int t0), .val (.int t1), .val (.int t2), .val (.int t3), .val (.ref a1), .val (.ref a3), .val (.ref a5), .val (.ref a3), .val (.int (1 : Int32))] [(.ref a5)])) ?_ fun _ zk => XS.aload H13.here hx rfl (hb hby at_308) rfl rfl zk
    obtain ⟨_, T14, h14, H14, ⟨rfl, rfl⟩, -, st14⟩ := H13.callV (C := "com/example/vestline/vestline/Field") (hw _ (List.mem_of_getElem? (i := 102) rfl)) (hw _ (List.mem_of_getElem? (i := 103) rfl)) (hw _ (List.mem_of_getElem? (i := 105) rfl)) (hw _ (List.mem_of_getElem? (i := 104) rfl)) (by decide) (MetN.pay (W := 0) (c_emp l ⟨hw, SC0, hz0, SF1, rf1, SU2, SU3, SU4⟩ a5 a3 t4 ([t0]) h8 H13.old G8_3 ((((S4.keep K5 nin0 nin0).keep K6 nin0 nin0).keep K7 nin0 nin0).keep K8 (ninS (adne (by omega)) nin0) (ninS (adne (by omega)) nin0)) (by simp)) (hw _ (List.mem_of_getElem? (i := 106) rfl)) (hw _ (List.mem_of_getElem? (i := 33) rfl)) (by decide) (by decide)) E8 (g := (mkF m 310 #[.val (.int p0), .val (.int p1), .val (.int p2), .val (.int p3), .val (.int p4), .val (.int p5), .val (.int (1 : Int32)), .val (.int t0), .val (.int t1), .val (.int t2), .val (.int t3), .val (.ref a1), .val (.ref a3), .val (.ref a5), .val (.ref a3), .val (.int (1 : Int32))] [(.ref a5)])) rfl (by rw [hml]; rfl) (argsL := []) (rest := []) (lenOf pd___Z rfl) rfl rfl (Nat.le_of_eq rfl) (hb hby at_310) (by decide) (by decide) all0
    refine Rn.pu (g' := (mkF m 313 #[.val (.int p0), .val (.int p1), .val (.int p2), .val (.int p3), .val (.int p4), .val (.int p5), .val (.int (1 : Int32)), .val (.int t0), .val (.int t1), .val (.int t2), .val (.int t3), .val (.ref a1), .val (.ref a3), .val (.ref a5), .val (.ref a3), .val (.int (1 : Int32))] [(.int (0 : Int32))])) ?_ st14
    refine Rn.pu (T' := T14) (g' := (mkF m 316 #[.val (.int p0), .val (.int p1), .val (.int p2), .val (.int p3), .val (.int p4), .val (.int p5), .val (.int (1 : Int32)), .val (.int t0), .val (.int t1), .val (.int t2), .val (.int t3), .val (.ref a1), .val (.ref a3), .val (.ref a5), .val (.ref a3), .val (.int (1 : Int32))] [])) ?_ fun _ zk => XS.ifNo H14.here hx rfl (hb hby at_313) rfl (z_ne_f rfl) zk
    refine Rn.pu (T' := T14) (g' := (mkF m 317 #[.val (.int p0), .val (.int p1), .val (.int p2), .val (.int p3), .val (.int p4), .val (.int p5), .val (.int (1 : Int32)), .val (.int t0), .val (.int t1), .val (.int t2), .val (.int t3), .val (.ref a1), .val (.ref a3), .val (.ref a5), .val (.ref a3), .val (.int (1 : Int32))] [(.int (1 : Int32))])) ?_ fun _ zk => XS.iconst H14.here hx rfl (hb hby at_316) zk
    refine Rn.pu (T' := T14) (g' := (mkF m 321 #[.val (.int p0), .val (.int p1), .val (.int p2), .val (.int p3), .val (.int p4), .val (.int p5), .val (.int (1 : Int32)), .val (.int t0), .val (.int t1), .val (.int t2), .val (.int t3), .val (.ref a1), .val (.ref a3), .val (.ref a5), .val (.ref a3), .val (.int (1 : Int32))] [(.int (1 : Int32))])) ?_ fun _ zk => XS.goto H14.here hx rfl (pc0 := 317) (pc' := 321) rfl (hb hby at_317) (by decide) (by decide) zk
    exact H14.retS ends_W hlk (t := .boolean) hret (by simp) (hb hby at_321) (by decide) (by decide) (fun _ q => nomatch q) rfl
  ·
    refine Rn.pu (T' := T0) (g' := (mkF m 39 #[.val (.int p0), .val (.int p1), .val (.int p2), .val (.int p3), .val (.int p4), .val (.int p5), .val (.int (2 : Int32)), .val (.int t0), .val (.int t1), .val (.int t2), .val (.int t3), .unset, .unset, .unset, .unset, .unset] [(.int (1 : Int32)), (.int (2 : Int32))])) ?_ fun _ zk => XS.iconst H0.here hx rfl (hb hby at_38) zk
    refine Rn.pu (T' := T0) (g' := (mkF m 55 #[.val (.int p0), .val (.int p1), .val (.int p2), .val (.int p3), .val (.int p4), .val (.int p5), .val (.int (2 : Int32)), .val (.int t0), .val (.int t1), .val (.int t2), .val (.int t3), .unset, .unset, .unset, .unset, .unset] [])) ?_ fun _ zk => XS.icmpYes H0.here hx rfl (pc0 := 39) (pc' := 55) rfl (hb hby at_39) rfl (c_ne_t (by decide)) (by decide) (by decide) zk
    refine Rn.pu (T' := T0) (g' := (mkF m 57 #[.val (.int p0), .val (.int p1), .val (.int p2), .val (.int p3), .val (.int p4), .val (.int p5), .val (.int (2 : Int32)), .val (.int t0), .val (.int t1), .val (.int t2), .val (.int t3), .unset, .unset, .unset, .unset, .unset] [(.int (2 : Int32))])) ?_ fun _ zk => XS.iload H0.here hx rfl (hb hby at_55) rfl zk
    refine Rn.pu (T' := T0) (g' := (mkF m 58 #[.val (.int p0), .val (.int p1), .val (.int p2), .val (.int p3), .val (.int p4), .val (.int p5), .val (.int (2 : Int32)), .val (.int t0), .val (.int t1), .val (.int t2), .val (.int t3), .unset, .unset, .unset, .unset, .unset] [(.int (2 : Int32)), (.int (2 : Int32))])) ?_ fun _ zk => XS.iconst H0.here hx rfl (hb hby at_57) zk
    refine Rn.pu (T' := T0) (g' := (mkF m 61 #[.val (.int p0), .val (.int p1), .val (.int p2), .val (.int p3), .val (.int p4), .val (.int p5), .val (.int (2 : Int32)), .val (.int t0), .val (.int t1), .val (.int t2), .val (.int t3), .unset, .unset, .unset, .unset, .unset] [])) ?_ fun _ zk => XS.icmpNo H0.here hx rfl (hb hby at_58) rfl (c_ne_f rfl) zk
    refine Rn.pu (T' := T0) (g' := (mkF m 62 #[.val (.int p0), .val (.int p1), .val (.int p2), .val (.int p3), .val (.int p4), .val (.int p5), .val (.int (2 : Int32)), .val (.int t0), .val (.int t1), .val (.int t2), .val (.int t3), .unset, .unset, .unset, .unset, .unset] [(.int (2 : Int32))])) ?_ fun _ zk => XS.iconst H0.here hx rfl (hb hby at_61) zk
    obtain ⟨a15, k15, T15, h15, e15, H15, K15, A15, st15⟩ := H0.newP (aty := .char) (hw _ (List.mem_of_getElem? (i := 1) rfl)) (g := (mkF m 62 #[.val (.int p0), .val (.int p1), .val (.int p2), .val (.int p3), .val (.int p4), .val (.int p5), .val (.int (2 : Int32)), .val (.int t0), .val (.int t1), .val (.int t2), .val (.int t3), .unset, .unset, .unset, .unset, .unset] [(.int (2 : Int32))])) rfl (hb hby at_62) rfl (by decide) (cap := 2) (by decide) (by decide) (by decide) (by decide)
    have zh15 := K15.1
    have l15 := natlt (A15).lt
    have g15 : s.heap.size ≤ a15 := by omega
    refine Rn.pu (g' := (mkF m 64 #[.val (.int p0), .val (.int p1), .val (.int p2), .val (.int p3), .val (.int p4), .val (.int p5), .val (.int (2 : Int32)), .val (.int t0), .val (.int t1), .val (.int t2), .val (.int t3), .unset, .unset, .unset, .unset, .unset] [(.ref a15)])) ?_ st15
    refine Rn.pu (T' := T15) (g' := (mkF m 65 #[.val (.int p0), .val (.int p1), .val (.int p2), .val (.int p3), .val (.int p4), .val (.int p5), .val (.int (2 : Int32)), .val (.int t0), .val (.int t1), .val (.int t2), .val (.int t3), .unset, .unset, .unset, .unset, .unset] [(.ref a15), (.ref a15)])) ?_ fun _ zk => XS.dup H15.here hx rfl (hb hby at_64) rfl rfl zk
    refine Rn.pu (T' := T15) (g' := (mkF m 66 #[.val (.int p0), .val (.int p1), .val (.int p2), .val (.int p3), .val (.int p4), .val (.int p5), .val (.int (2 : Int32)), .val (.int t0), .val (.int t1), .val (.int t2), .val (.int t3), .unset, .unset, .unset, .unset, .unset] [(.int (0 : Int32)), (.ref a15), (.ref a15)])) ?_ fun _ zk => XS.iconst H15.here hx rfl (hb hby at_65) zk
    refine Rn.pu (T' := T15) (g' := (mkF m 68 #[.val (.int p0), .val (.int p1), .val (.int p2), .val (.int p3), .val (.int p4), .val (.int p5), .val (.int (2 : Int32)), .val (.int t0), .val (.int t1), .val (.int t2), .val (.int t3), .unset, .unset, .unset, .unset, .unset] [(.int t0), (.int (0 : Int32)), (.ref a15), (.ref a15)])) ?_ fun _ zk => XS.iload H15.here hx rfl (hb hby at_66) rfl zk
    obtain ⟨T16, h16, H16, K16, A16, st16⟩ := H15.stC A15 (by decide) rfl (Or.inr (by omega)) (g := (mkF m 68 #[.val (.int p0), .val (.int p1), .val (.int p2), .val (.int p3), .val (.int p4), .val (.int p5), .val (.int (2 : Int32)), .val (.int t0), .val (.int t1), .val (.int t2), .val (.int t3), .unset, .unset, .unset, .unset, .unset] [(.int t0), (.int (0 : Int32)), (.ref a15), (.ref a15)])) rfl rfl (hb hby at_68)
    have zh16 := K16.1
    refine Rn.pu (g' := (mkF m 69 #[.val (.int p0), .val (.int p1), .val (.int p2), .val (.int p3), .val (.int p4), .val (.int p5), .val (.int (2 : Int32)), .val (.int t0), .val (.int t1), .val (.int t2), .val (.int t3), .unset, .unset, .unset, .unset, .unset] [(.ref a15)])) ?_ st16
    refine Rn.pu (T' := T16) (g' := (mkF m 70 #[.val (.int p0), .val (.int p1), .val (.int p2), .val (.int p3), .val (.int p4), .val (.int p5), .val (.int (2 : Int32)), .val (.int t0), .val (.int t1), .val (.int t2), .val (.int t3), .unset, .unset, .unset, .unset, .unset] [(.ref a15), (.ref a15)])) ?_ fun _ zk => XS.dup H16.here hx rfl (hb hby at_69) rfl rfl zk
    refine Rn.pu (T' := T16) (g' := (mkF m 71 #[.val (.int p0), .val (.int p1), .val (.int p2), .val (.int p3), .val (.int p4), .val (.int p5), .val (.int (2 : Int32)), .val (.int t0), .val (.int t1), .val (.int t2), .val (.int t3), .unset, .unset, .unset, .unset, .unset] [(.int (1 : Int32)), (.ref a15), (.ref a15)])) ?_ fun _ zk => XS.iconst H16.here hx rfl (hb hby at_70) zk
    refine Rn.pu (T' := T16) (g' := (mkF m 73 #[.val (.int p0), .val (.int p1), .val (.int p2), .val (.int p3), .val (.int p4), .val (.int p5), .val (.int (2 : Int32)), .val (.int t0), .val (.int t1), .val (.int t2), .val (.int t3), .unset, .unset, .unset, .unset, .unset] [(.int t1), (.int (1 : Int32)), (.ref a15), (.ref a15)])) ?_ fun _ zk => XS.iload H16.here hx rfl (hb hby at_71) rfl zk
    obtain ⟨T17, h17, H17, K17, A17, st17⟩ := H16.stC A16 (by decide) rfl (Or.inr (by omega)) (g := (mkF m 73 #[.val (.int p0), .val (.int p1), .val (.int p2), .val (.int p3), .val (.int p4), .val (.int p5), .val (.int (2 : Int32)), .val (.int t0), .val (.int t1), .val (.int t2), .val (.int t3), .unset, .unset, .unset, .unset, .unset] [(.int t1), (.int (1 : Int32)), (.ref a15), (.ref a15)])) rfl rfl (hb hby at_73)
    have zh17 := K17.1
    refine Rn.pu (g' := (mkF m 74 #[.val (.int p0), .val (.int p1), .val (.int p2), .val (.int p3), .val (.int p4), .val (.int p5), .val (.int (2 : Int32)), .val (.int t0), .val (.int t1), .val (.int t2), .val (.int t3), .unset, .unset, .unset, .unset, .unset] [(.ref a15)])) ?_ st17
    refine Rn.pu (T' := T17) (g' := (mkF m 76 #[.val (.int p0), .val (.int p1), .val (.int p2), .val (.int p3), .val (.int p4), .val (.int p5), .val (.int (2 : Int32)), .val (.int t0), .val (.int t1), .val (.int t2), .val (.int t3), .val (.ref a15), .unset, .unset, .unset, .unset] [])) ?_ fun _ zk => XS.astore H17.here hx rfl (hb hby at_74) rfl rfl (l' := #[.val (.int p0), .val (.int p1), .val (.int p2), .val (.int p3), .val (.int p4), .val (.int p5), .val (.int (2 : Int32)), .val (.int t0), .val (.int t1), .val (.int t2), .val (.int t3), .val (.ref a15), .unset, .unset, .unset, .unset]) rfl zk
    refine Rn.pu (T' := T17) (g' := (mkF m 133 #[.val (.int p0), .val (.int p1), .val (.int p2), .val (.int p3), .val (.int p4), .val (.int p5), .val (.int (2 : Int32)), .val (.int t0), .val (.int t1), .val (.int t2), .val (.int t3), .val (.ref a15), .unset, .unset, .unset, .unset] [])) ?_ fun _ zk => XS.goto H17.here hx rfl (pc0 := 76) (pc' := 133) rfl (hb hby at_76) (by decide) (by decide) zk
    have AC : Arv Z h17 a15 k15 .char (2 : Int32) [.int t0, .int t1] (.int 0) := by have q := A17; simp only [List.nil_append, List.cons_append, List.map, nar_id rt0.1 rt0.2, nar_id rt1.1 rt1.2] at q; exact q
    obtain ⟨a18, T18, h18, e18, H18, K18, E18, D18, st18⟩ := H17.newO (hw _ (List.mem_of_getElem? (i := 2) rfl)) (hw _ (List.mem_of_getElem? (i := 3) rfl)) (hw _ (List.mem_of_getElem? (i := 4) rfl)) (g := (mkF m 133 #[.val (.int p0), .val (.int p1), .val (.int p2), .val (.int p3), .val (.int p4), .val (.int p5), .val (.int (2 : Int32)), .val (.int t0), .val (.int t1), .val (.int t2), .val (.int t3), .val (.ref a15), .unset, .unset, .unset, .unset] [])) rfl (hb hby at_133) (by decide) (by decide)
    have zh18 := K18.1
    have l18 := natlt (E18).lt
    have g18 : s.heap.size ≤ a18 := by omega
    have F18_coder : Fld Z h18 a18 "java/lang/String" "coder" "B" (.int (0 : Int32)) := D18 (Or.inr (hw _ (List.mem_of_getElem? (i := 28) rfl))) (ty := .byte) (by decide)
    have F18_value : Fld Z h18 a18 "java/lang/String" "value" "[B" .null := D18 (Or.inr (hw _ (List.mem_of_getElem? (i := 30) rfl))) (ty := (.array .byte)) (by decide)
    refine Rn.pu (g' := (mkF m 136 #[.val (.int p0), .val (.int p1), .val (.int p2), .val (.int p3), .val (.int p4), .val (.int p5), .val (.int (2 : Int32)), .val (.int t0), .val (.int t1), .val (.int t2), .val (.int t3), .val (.ref a15), .unset, .unset, .unset, .unset] [(.ref a18)])) ?_ st18
    refine Rn.pu (T' := T18) (g' := (mkF m 137 #[.val (.int p0), .val (.int p1), .val (.int p2), .val (.int p3), .val (.int p4), .val (.int p5), .val (.int (2 : Int32)), .val (.int t0), .val (.int t1), .val (.int t2), .val (.int t3), .val (.ref a15), .unset, .unset, .unset, .unset] [(.ref a18), (.ref a18)])) ?_ fun _ zk => XS.dup H18.here hx rfl (hb hby at_136) rfl rfl zk
    refine Rn.pu (T' := T18) (g' := (mkF m 139 #[.val (.int p0), .val (.int p1), .val (.int p2), .val (.int p3), .val (.int p4), .val (.int p5), .val (.int (2 : Int32)), .val (.int t0), .val (.int t1), .val (.int t2), .val (.int t3), .val (.ref a15), .unset, .unset, .unset, .unset] [(.ref a15), (.ref a18), (.ref a18)])) ?_ fun _ zk => XS.aload H18.here hx rfl (hb hby at_137) rfl rfl zk
    obtain ⟨_, T19, h19, H19, ⟨rfl, t19, S19, lt19⟩, K19, st19⟩ := H18.callIm rfl (hw _ (List.mem_of_getElem? (i := 5) rfl)) (hw _ (List.mem_of_getElem? (i := 6) rfl)) (hw _ (List.mem_of_getElem? (i := 7) rfl)) (by decide) (payNewU (cs := [t0, t1]) (n := 2) (W := 1) l ⟨hw, SC0, hz0, SF1, rf1, SU2, SU3, SU4⟩ H18.old rfl rfl (by decide) (by decide) (mem2 rt0 (mem2 rt1 mem0)) (AC.keep K18 nin0) E18 F18_value F18_coder (by have := H0.old.1; omega) (by decide) (by decide)) (g := (mkF m 139 #[.val (.int p0), .val (.int p1), .val (.int p2), .val (.int p3), .val (.int p4), .val (.int p5), .val (.int (2 : Int32)), .val (.int t0), .val (.int t1), .val (.int t2), .val (.int t3), .val (.ref a15), .unset, .unset, .unset, .unset] [(.ref a15), (.ref a18), (.ref a18)])) rfl (by rw [hml]; rfl) (argsL := [(.ref a15)]) (rest := [(.ref a18)]) (lenOf pd__AC_V rfl) rfl rfl (Nat.le_of_eq rfl) (hb hby at_139) (by decide) (by decide) (allS (Or.inr (by omega)) all0)
    have zh19 := K19.1
    have l19 := natlt (S19).lt
    refine Rn.pu (g' := (mkF m 142 #[.val (.int p0), .val (.int p1), .val (.int p2), .val (.int p3), .val (.int p4), .val (.int p5), .val (.int (2 : Int32)), .val (.int t0), .val (.int t1), .val (.int t2), .val (.int t3), .val (.ref a15), .unset, .unset, .unset, .unset] [(.ref a18)])) ?_ st19
    refine Rn.pu (T' := T19) (g' := (mkF m 144 #[.val (.int p0), .val (.int p1), .val (.int p2), .val (.int p3), .val (.int p4), .val (.int p5), .val (.int (2 : Int32)), .val (.int t0), .val (.int t1), .val (.int t2), .val (.int t3), .val (.ref a15), .val (.ref a18), .unset, .unset, .unset] [])) ?_ fun _ zk => XS.astore H19.here hx rfl (hb hby at_142) rfl rfl (l' := #[.val (.int p0), .val (.int p1), .val (.int p2), .val (.int p3), .val (.int p4), .val (.int p5), .val (.int (2 : Int32)), .val (.int t0), .val (.int t1), .val (.int t2), .val (.int t3), .val (.ref a15), .val (.ref a18), .unset, .unset, .unset]) rfl zk
    obtain ⟨a20, T20, h20, e20, H20, K20, E20, D20, st20⟩ := H19.newO (hw _ (List.mem_of_getElem? (i := 31) rfl)) (hw _ (List.mem_of_getElem? (i := 32) rfl)) (hw _ (List.mem_of_getElem? (i := 33) rfl)) (g := (mkF m 144 #[.val (.int p0), .val (.int p1), .val (.int p2), .val (.int p3), .val (.int p4), .val (.int p5), .val (.int (2 : Int32)), .val (.int t0), .val (.int t1), .val (.int t2), .val (.int t3), .val (.ref a15), .val (.ref a18), .unset, .unset, .unset] [])) rfl (hb hby at_144) (by decide) (by decide)
    have zh20 := K20.1
    have l20 := natlt (E20).lt
    have g20 : s.heap.size ≤ a20 := by omega
    have F20_m_source : Fld Z h20 a20 "com/example/vestline/vestline/Field" "m_source" "Ljava/lang/String;" .null := D20 (Or.inr (hw _ (List.mem_of_getElem? (i := 43) rfl))) (ty := (.object "java/lang/String")) (by decide)
    have F20_m_line : Fld Z h20 a20 "com/example/vestline/vestline/Field" "m_line" "I" (.int (0 : Int32)) := D20 (Or.inr (hw _ (List.mem_of_getElem? (i := 45) rfl))) (ty := .int) (by decide)
    have F20_m_name : Fld Z h20 a20 "com/example/vestline/vestline/Field" "m_name" "Ljava/lang/String;" .null := D20 (Or.inr (hw _ (List.mem_of_getElem? (i := 47) rfl))) (ty := (.object "java/lang/String")) (by decide)
    have F20_m_text : Fld Z h20 a20 "com/example/vestline/vestline/Field" "m_text" "Ljava/lang/String;" .null := D20 (Or.inr (hw _ (List.mem_of_getElem? (i := 49) rfl))) (ty := (.object "java/lang/String")) (by decide)
    refine Rn.pu (g' := (mkF m 147 #[.val (.int p0), .val (.int p1), .val (.int p2), .val (.int p3), .val (.int p4), .val (.int p5), .val (.int (2 : Int32)), .val (.int t0), .val (.int t1), .val (.int t2), .val (.int t3), .val (.ref a15), .val (.ref a18), .unset, .unset, .unset] [(.ref a20)])) ?_ st20
    refine Rn.pu (T' := T20) (g' := (mkF m 148 #[.val (.int p0), .val (.int p1), .val (.int p2), .val (.int p3), .val (.int p4), .val (.int p5), .val (.int (2 : Int32)), .val (.int t0), .val (.int t1), .val (.int t2), .val (.int t3), .val (.ref a15), .val (.ref a18), .unset, .unset, .unset] [(.ref a20), (.ref a20)])) ?_ fun _ zk => XS.dup H20.here hx rfl (hb hby at_147) rfl rfl zk
    obtain ⟨a21, T21, h21, H21, K21, st21⟩ := H20.ldcS (hw _ (List.mem_of_getElem? (i := 34) rfl)) (hws_sa hw) (g := (mkF m 148 #[.val (.int p0), .val (.int p1), .val (.int p2), .val (.int p3), .val (.int p4), .val (.int p5), .val (.int (2 : Int32)), .val (.int t0), .val (.int t1), .val (.int t2), .val (.int t3), .val (.ref a15), .val (.ref a18), .unset, .unset, .unset] [(.ref a20), (.ref a20)])) rfl (hb hby at_148) (n := 4) (by decide) (by decide) (by decide) (by decide)
    have zh21 := K21.1
    refine Rn.pu (g' := (mkF m 150 #[.val (.int p0), .val (.int p1), .val (.int p2), .val (.int p3), .val (.int p4), .val (.int p5), .val (.int (2 : Int32)), .val (.int t0), .val (.int t1), .val (.int t2), .val (.int t3), .val (.ref a15), .val (.ref a18), .unset, .unset, .unset] [(.ref a21), (.ref a20), (.ref a20)])) ?_ st21
    refine Rn.pu (T' := T21) (g' := (mkF m 152 #[.val (.int p0), .val (.int p1), .val (.int p2), .val (.int p3), .val (.int p4), .val (.int p5), .val (.int (2 : Int32)), .val (.int t0), .val (.int t1), .val (.int t2), .val (.int t3), .val (.ref a15), .val (.ref a18), .unset, .unset, .unset] [(.int p5), (.ref a21), (.ref a20), (.ref a20)])) ?_ fun _ zk => XS.iload H21.here hx rfl (hb hby at_150) rfl zk
    obtain ⟨a22, T22, h22, H22, K22, st22⟩ := H21.ldcS (hw _ (List.mem_of_getElem? (i := 37) rfl)) (hws_sa hw) (g := (mkF m 152 #[.val (.int p0), .val (.int p1), .val (.int p2), .val (.int p3), .val (.int p4), .val (.int p5), .val (.int (2 : Int32)), .val (.int t0), .val (.int t1), .val (.int t2), .val (.int t3), .val (.ref a15), .val (.ref a18), .unset, .unset, .unset] [(.int p5), (.ref a21), (.ref a20), (.ref a20)])) rfl (hb hby at_152) (n := 32) (by decide) (by decide) (by decide) (by decide)
    have zh22 := K22.1
    refine Rn.pu (g' := (mkF m 154 #[.val (.int p0), .val (.int p1), .val (.int p2), .val (.int p3), .val (.int p4), .val (.int p5), .val (.int (2 : Int32)), .val (.int t0), .val (.int t1), .val (.int t2), .val (.int t3), .val (.ref a15), .val (.ref a18), .unset, .unset, .unset] [(.ref a22), (.int p5), (.ref a21), (.ref a20), (.ref a20)])) ?_ st22
    refine Rn.pu (T' := T22) (g' := (mkF m 156 #[.val (.int p0), .val (.int p1), .val (.int p2), .val (.int p3), .val (.int p4), .val (.int p5), .val (.int (2 : Int32)), .val (.int t0), .val (.int t1), .val (.int t2), .val (.int t3), .val (.ref a15), .val (.ref a18), .unset, .unset, .unset] [(.ref a18), (.ref a22), (.int p5), (.ref a21), (.ref a20), (.ref a20)])) ?_ fun _ zk => XS.aload H22.here hx rfl (hb hby at_154) rfl rfl zk
    obtain ⟨_, T23, h23, H23, ⟨rfl, E23, G23_0, G23_1, G23_2, G23_3⟩, K23, st23⟩ := H22.callI rfl (hw _ (List.mem_of_getElem? (i := 38) rfl)) (hw _ (List.mem_of_getElem? (i := 39) rfl)) (hw _ (List.mem_of_getElem? (i := 40) rfl)) (by decide) (MetN.pay (W := 1) (c_init l ⟨hw, SC0, hz0, SF1, rf1, SU2, SU3, SU4⟩ a20 a21 a22 a18 p5 h22 H22.old ((E20.keep K21).keep K22) ((F20_m_source.keep K21 nin0).keep K22 nin0) ((F20_m_line.keep K21 nin0).keep K22 nin0) ((F20_m_name.keep K21 nin0).keep K22 nin0) ((F20_m_text.keep K21 nin0).keep K22 nin0) (by omega)) (hw _ (List.mem_of_getElem? (i := 40) rfl)) (hw _ (List.mem_of_getElem? (i := 33) rfl)) (by decide) (by decide)) (g := (mkF m 156 #[.val (.int p0), .val (.int p1), .val (.int p2), .val (.int p3), .val (.int p4), .val (.int p5), .val (.int (2 : Int32)), .val (.int t0), .val (.int t1), .val (.int t2), .val (.int t3), .val (.ref a15), .val (.ref a18), .unset, .unset, .unset] [(.ref a18), (.ref a22), (.int p5), (.ref a21), (.ref a20), (.ref a20)])) rfl (by rw [hml]; rfl) (argsL := [(.ref a21), (.int p5), (.ref a22), (.ref a18)]) (rest := [(.ref a20)]) (lenOf pd__Ljava_lang_String_ILjava_lang_String_Ljava_lang_String__V rfl) rfl rfl (Nat.le_of_eq rfl) (hb hby at_156) (by decide) (by decide) (allS (Or.inr (by omega)) all0)
    have zh23 := K23.1
    refine Rn.pu (g' := (mkF m 159 #[.val (.int p0), .val (.int p1), .val (.int p2), .val (.int p3), .val (.int p4), .val (.int p5), .val (.int (2 : Int32)), .val (.int t0), .val (.int t1), .val (.int t2), .val (.int t3), .val (.ref a15), .val (.ref a18), .unset, .unset, .unset] [(.ref a20)])) ?_ st23
    refine Rn.pu (T' := T23) (g' := (mkF m 161 #[.val (.int p0), .val (.int p1), .val (.int p2), .val (.int p3), .val (.int p4), .val (.int p5), .val (.int (2 : Int32)), .val (.int t0), .val (.int t1), .val (.int t2), .val (.int t3), .val (.ref a15), .val (.ref a18), .val (.ref a20), .unset, .unset] [])) ?_ fun _ zk => XS.astore H23.here hx rfl (hb hby at_159) rfl rfl (l' := #[.val (.int p0), .val (.int p1), .val (.int p2), .val (.int p3), .val (.int p4), .val (.int p5), .val (.int (2 : Int32)), .val (.int t0), .val (.int t1), .val (.int t2), .val (.int t3), .val (.ref a15), .val (.ref a18), .val (.ref a20), .unset, .unset]) rfl zk
    refine Rn.pu (T' := T23) (g' := (mkF m 163 #[.val (.int p0), .val (.int p1), .val (.int p2), .val (.int p3), .val (.int p4), .val (.int p5), .val (.int (2 : Int32)), .val (.int t0), .val (.int t1), .val (.int t2), .val (.int t3), .val (.ref a15), .val (.ref a18), .val (.ref a20), .unset, .unset] [(.ref a20)])) ?_ fun _ zk => XS.aload H23.here hx rfl (hb hby at_161) rfl rfl zk
    obtain ⟨_, T24, h24, H24, ⟨rfl, rfl⟩, -, st24⟩ := H23.callV (C := "com/example/vestline/vestline/Field") (hw _ (List.mem_of_getElem? (i := 50) rfl)) (hw _ (List.mem_of_getElem? (i := 51) rfl)) (hw _ (List.mem_of_getElem? (i := 53) rfl)) (hw _ (List.mem_of_getElem? (i := 52) rfl)) (by decide) (MetN.pay (W := 0) (c_text l ⟨hw, SC0, hz0, SF1, rf1, SU2, SU3, SU4⟩ a20 a18 t19 ([t0, t1]) h23 H23.old G23_3 ((((S19.keep K20 nin0 nin0).keep K21 nin0 nin0).keep K22 nin0 nin0).keep K23 (ninS (adne (by omega)) nin0) (ninS (adne (by omega)) nin0)) (by simp)) (hw _ (List.mem_of_getElem? (i := 54) rfl)) (hw _ (List.mem_of_getElem? (i := 33) rfl)) (by decide) (by decide)) E23 (g := (mkF m 163 #[.val (.int p0), .val (.int p1), .val (.int p2), .val (.int p3), .val (.int p4), .val (.int p5), .val (.int (2 : Int32)), .val (.int t0), .val (.int t1), .val (.int t2), .val (.int t3), .val (.ref a15), .val (.ref a18), .val (.ref a20), .unset, .unset] [(.ref a20)])) rfl (by rw [hml]; rfl) (argsL := []) (rest := []) (lenOf pd___Ljava_lang_String_ rfl) rfl rfl (Nat.le_of_eq rfl) (hb hby at_163) (by decide) (by decide) all0
    refine Rn.pu (g' := (mkF m 166 #[.val (.int p0), .val (.int p1), .val (.int p2), .val (.int p3), .val (.int p4), .val (.int p5), .val (.int (2 : Int32)), .val (.int t0), .val (.int t1), .val (.int t2), .val (.int t3), .val (.ref a15), .val (.ref a18), .val (.ref a20), .unset, .unset] [(.ref a18)])) ?_ st24
    refine Rn.pu (T' := T24) (g' := (mkF m 168 #[.val (.int p0), .val (.int p1), .val (.int p2), .val (.int p3), .val (.int p4), .val (.int p5), .val (.int (2 : Int32)), .val (.int t0), .val (.int t1), .val (.int t2), .val (.int t3), .val (.ref a15), .val (.ref a18), .val (.ref a20), .val (.ref a18), .unset] [])) ?_ fun _ zk => XS.astore H24.here hx rfl (hb hby at_166) rfl rfl (l' := #[.val (.int p0), .val (.int p1), .val (.int p2), .val (.int p3), .val (.int p4), .val (.int p5), .val (.int (2 : Int32)), .val (.int t0), .val (.int t1), .val (.int t2), .val (.int t3), .val (.ref a15), .val (.ref a18), .val (.ref a20), .val (.ref a18), .unset]) rfl zk
    refine Rn.pu (T' := T24) (g' := (mkF m 170 #[.val (.int p0), .val (.int p1), .val (.int p2), .val (.int p3), .val (.int p4), .val (.int p5), .val (.int (2 : Int32)), .val (.int t0), .val (.int t1), .val (.int t2), .val (.int t3), .val (.ref a15), .val (.ref a18), .val (.ref a20), .val (.ref a18), .unset] [(.ref a18)])) ?_ fun _ zk => XS.aload H24.here hx rfl (hb hby at_168) rfl rfl zk
    refine Rn.pu (T' := T24) (g' := (mkF m 173 #[.val (.int p0), .val (.int p1), .val (.int p2), .val (.int p3), .val (.int p4), .val (.int p5), .val (.int (2 : Int32)), .val (.int t0), .val (.int t1), .val (.int t2), .val (.int t3), .val (.ref a15), .val (.ref a18), .val (.ref a20), .val (.ref a18), .unset] [])) ?_ fun _ zk => XS.ifnullNo H24.here hx rfl (hb hby at_170) rfl zk
    refine Rn.pu (T' := T24) (g' := (mkF m 175 #[.val (.int p0), .val (.int p1), .val (.int p2), .val (.int p3), .val (.int p4), .val (.int p5), .val (.int (2 : Int32)), .val (.int t0), .val (.int t1), .val (.int t2), .val (.int t3), .val (.ref a15), .val (.ref a18), .val (.ref a20), .val (.ref a18), .unset] [(.ref a18)])) ?_ fun _ zk => XS.aload H24.here hx rfl (hb hby at_173) rfl rfl zk
    obtain ⟨_, T25, h25, H25, ⟨rfl, rfl⟩, -, st25⟩ := H24.callV (C := "java/lang/String") (hw _ (List.mem_of_getElem? (i := 60) rfl)) (hw _ (List.mem_of_getElem? (i := 61) rfl)) (hw _ (List.mem_of_getElem? (i := 63) rfl)) (hw _ (List.mem_of_getElem? (i := 62) rfl)) (by decide) (payLen (W := 0) (hws_len hw) (hw _ (List.mem_of_getElem? (i := 3) rfl)) ((((S19.keep K20 nin0 nin0).keep K21 nin0 nin0).keep K22 nin0 nin0).keep K23 (ninS (adne (by omega)) nin0) (ninS (adne (by omega)) nin0)) (SC0.ext H24.old) hz0 (by decide) (by decide)) ((((S19.exa.keep K20).keep K21).keep K22).keep K23) (g := (mkF m 175 #[.val (.int p0), .val (.int p1), .val (.int p2), .val (.int p3), .val (.int p4), .val (.int p5), .val (.int (2 : Int32)), .val (.int t0), .val (.int t1), .val (.int t2), .val (.int t3), .val (.ref a15), .val (.ref a18), .val (.ref a20), .val (.ref a18), .unset] [(.ref a18)])) rfl (by rw [hml]; rfl) (argsL := []) (rest := []) (lenOf pd___I rfl) rfl rfl (Nat.le_of_eq rfl) (hb hby at_175) (by decide) (by decide) all0
    refine Rn.pu (g' := (mkF m 178 #[.val (.int p0), .val (.int p1), .val (.int p2), .val (.int p3), .val (.int p4), .val (.int p5), .val (.int (2 : Int32)), .val (.int t0), .val (.int t1), .val (.int t2), .val (.int t3), .val (.ref a15), .val (.ref a18), .val (.ref a20), .val (.ref a18), .unset] [(.int (Int32.ofNat ([t0, t1]).length))])) ?_ st25
    refine Rn.pu (T' := T25) (g' := (mkF m 180 #[.val (.int p0), .val (.int p1), .val (.int p2), .val (.int p3), .val (.int p4), .val (.int p5), .val (.int (2 : Int32)), .val (.int t0), .val (.int t1), .val (.int t2), .val (.int t3), .val (.ref a15), .val (.ref a18), .val (.ref a20), .val (.ref a18), .unset] [(.int (2 : Int32)), (.int (Int32.ofNat ([t0, t1]).length))])) ?_ fun _ zk => XS.iload H25.here hx rfl (hb hby at_178) rfl zk
    refine Rn.pu (T' := T25) (g' := (mkF m 185 #[.val (.int p0), .val (.int p1), .val (.int p2), .val (.int p3), .val (.int p4), .val (.int p5), .val (.int (2 : Int32)), .val (.int t0), .val (.int t1), .val (.int t2), .val (.int t3), .val (.ref a15), .val (.ref a18), .val (.ref a20), .val (.ref a18), .unset] [])) ?_ fun _ zk => XS.icmpYes H25.here hx rfl (pc0 := 180) (pc' := 185) rfl (hb hby at_180) rfl (c_eq_t rfl) (by decide) (by decide) zk
    refine Rn.pu (T' := T25) (g' := (mkF m 187 #[.val (.int p0), .val (.int p1), .val (.int p2), .val (.int p3), .val (.int p4), .val (.int p5), .val (.int (2 : Int32)), .val (.int t0), .val (.int t1), .val (.int t2), .val (.int t3), .val (.ref a15), .val (.ref a18), .val (.ref a20), .val (.ref a18), .unset] [(.ref a18)])) ?_ fun _ zk => XS.aload H25.here hx rfl (hb hby at_185) rfl rfl zk
    refine Rn.pu (T' := T25) (g' := (mkF m 188 #[.val (.int p0), .val (.int p1), .val (.int p2), .val (.int p3), .val (.int p4), .val (.int p5), .val (.int (2 : Int32)), .val (.int t0), .val (.int t1), .val (.int t2), .val (.int t3), .val (.ref a15), .val (.ref a18), .val (.ref a20), .val (.ref a18), .unset] [(.int (0 : Int32)), (.ref a18)])) ?_ fun _ zk => XS.iconst H25.here hx rfl (hb hby at_187) zk
    obtain ⟨_, T26, h26, H26, ⟨rfl, rfl⟩, -, st26⟩ := H25.callV (C := "java/lang/String") (hw _ (List.mem_of_getElem? (i := 70) rfl)) (hw _ (List.mem_of_getElem? (i := 71) rfl)) (hw _ (List.mem_of_getElem? (i := 73) rfl)) (hw _ (List.mem_of_getElem? (i := 72) rfl)) (by decide) (payChU (W := 0) l ⟨hw, SC0, hz0, SF1, rf1, SU2, SU3, SU4⟩ H25.old ((((S19.keep K20 nin0 nin0).keep K21 nin0 nin0).keep K22 nin0 nin0).keep K23 (ninS (adne (by omega)) nin0) (ninS (adne (by omega)) nin0)) (by simp) (i := 0) (by simp) rfl (by decide) (by decide)) ((((S19.exa.keep K20).keep K21).keep K22).keep K23) (g := (mkF m 188 #[.val (.int p0), .val (.int p1), .val (.int p2), .val (.int p3), .val (.int p4), .val (.int p5), .val (.int (2 : Int32)), .val (.int t0), .val (.int t1), .val (.int t2), .val (.int t3), .val (.ref a15), .val (.ref a18), .val (.ref a20), .val (.ref a18), .unset] [(.int (0 : Int32)), (.ref a18)])) rfl (by rw [hml]; rfl) (argsL := [(.int (0 : Int32))]) (rest := []) (lenOf pd__I_C rfl) rfl rfl (Nat.le_of_eq rfl) (hb hby at_188) (by decide) (by decide) all0
    refine Rn.pu (g' := (mkF m 191 #[.val (.int p0), .val (.int p1), .val (.int p2), .val (.int p3), .val (.int p4), .val (.int p5), .val (.int (2 : Int32)), .val (.int t0), .val (.int t1), .val (.int t2), .val (.int t3), .val (.ref a15), .val (.ref a18), .val (.ref a20), .val (.ref a18), .unset] [(.int t0)])) ?_ st26
    refine Rn.pu (T' := T26) (g' := (mkF m 193 #[.val (.int p0), .val (.int p1), .val (.int p2), .val (.int p3), .val (.int p4), .val (.int p5), .val (.int (2 : Int32)), .val (.int t0), .val (.int t1), .val (.int t2), .val (.int t3), .val (.ref a15), .val (.ref a18), .val (.ref a20), .val (.ref a18), .unset] [(.int t0), (.int t0)])) ?_ fun _ zk => XS.iload H26.here hx rfl (hb hby at_191) rfl zk
    refine Rn.pu (T' := T26) (g' := (mkF m 196 #[.val (.int p0), .val (.int p1), .val (.int p2), .val (.int p3), .val (.int p4), .val (.int p5), .val (.int (2 : Int32)), .val (.int t0), .val (.int t1), .val (.int t2), .val (.int t3), .val (.ref a15), .val (.ref a18), .val (.ref a20), .val (.ref a18), .unset] [])) ?_ fun _ zk => XS.icmpNo H26.here hx rfl (hb hby at_193) rfl (c_ne_f rfl) zk
    refine Rn.pu (T' := T26) (g' := (mkF m 197 #[.val (.int p0), .val (.int p1), .val (.int p2), .val (.int p3), .val (.int p4), .val (.int p5), .val (.int (2 : Int32)), .val (.int t0), .val (.int t1), .val (.int t2), .val (.int t3), .val (.ref a15), .val (.ref a18), .val (.ref a20), .val (.ref a18), .unset] [(.int (1 : Int32))])) ?_ fun _ zk => XS.iconst H26.here hx rfl (hb hby at_196) zk
    refine Rn.pu (T' := T26) (g' := (mkF m 201 #[.val (.int p0), .val (.int p1), .val (.int p2), .val (.int p3), .val (.int p4), .val (.int p5), .val (.int (2 : Int32)), .val (.int t0), .val (.int t1), .val (.int t2), .val (.int t3), .val (.ref a15), .val (.ref a18), .val (.ref a20), .val (.ref a18), .unset] [(.int (1 : Int32))])) ?_ fun _ zk => XS.goto H26.here hx rfl (pc0 := 197) (pc' := 201) rfl (hb hby at_197) (by decide) (by decide) zk
    refine Rn.pu (T' := T26) (g' := (mkF m 203 #[.val (.int p0), .val (.int p1), .val (.int p2), .val (.int p3), .val (.int p4), .val (.int p5), .val (.int (2 : Int32)), .val (.int t0), .val (.int t1), .val (.int t2), .val (.int t3), .val (.ref a15), .val (.ref a18), .val (.ref a20), .val (.ref a18), .val (.int (1 : Int32))] [])) ?_ fun _ zk => XS.istore H26.here hx rfl (hb hby at_201) rfl (l' := #[.val (.int p0), .val (.int p1), .val (.int p2), .val (.int p3), .val (.int p4), .val (.int p5), .val (.int (2 : Int32)), .val (.int t0), .val (.int t1), .val (.int t2), .val (.int t3), .val (.ref a15), .val (.ref a18), .val (.ref a20), .val (.ref a18), .val (.int (1 : Int32))]) rfl zk
    refine Rn.pu (T' := T26) (g' := (mkF m 205 #[.val (.int p0), .val (.int p1), .val (.int p2), .val (.int p3), .val (.int p4), .val (.int p5), .val (.int (2 : Int32)), .val (.int t0), .val (.int t1), .val (.int t2), .val (.int t3), .val (.ref a15), .val (.ref a18), .val (.ref a20), .val (.ref a18), .val (.int (1 : Int32))] [(.int (2 : Int32))])) ?_ fun _ zk => XS.iload H26.here hx rfl (hb hby at_203) rfl zk
    refine Rn.pu (T' := T26) (g' := (mkF m 206 #[.val (.int p0), .val (.int p1), .val (.int p2), .val (.int p3), .val (.int p4), .val (.int p5), .val (.int (2 : Int32)), .val (.int t0), .val (.int t1), .val (.int t2), .val (.int t3), .val (.ref a15), .val (.ref a18), .val (.ref a20), .val (.ref a18), .val (.int (1 : Int32))] [(.int (2 : Int32)), (.int (2 : Int32))])) ?_ fun _ zk => XS.iconst H26.here hx rfl (hb hby at_205) zk
    refine Rn.pu (T' := T26) (g' := (mkF m 209 #[.val (.int p0), .val (.int p1), .val (.int p2), .val (.int p3), .val (.int p4), .val (.int p5), .val (.int (2 : Int32)), .val (.int t0), .val (.int t1), .val (.int t2), .val (.int t3), .val (.ref a15), .val (.ref a18), .val (.ref a20), .val (.ref a18), .val (.int (1 : Int32))] [])) ?_ fun _ zk => XS.icmpNo H26.here hx rfl (hb hby at_206) rfl (c_lt_f (by decide)) zk
    refine Rn.pu (T' := T26) (g' := (mkF m 211 #[.val (.int p0), .val (.int p1), .val (.int p2), .val (.int p3), .val (.int p4), .val (.int p5), .val (.int (2 : Int32)), .val (.int t0), .val (.int t1), .val (.int t2), .val (.int t3), .val (.ref a15), .val (.ref a18), .val (.ref a20), .val (.ref a18), .val (.int (1 : Int32))] [(.int (1 : Int32))])) ?_ fun _ zk => XS.iload H26.here hx rfl (hb hby at_209) rfl zk
    refine Rn.pu (T' := T26) (g' := (mkF m 214 #[.val (.int p0), .val (.int p1), .val (.int p2), .val (.int p3), .val (.int p4), .val (.int p5), .val (.int (2 : Int32)), .val (.int t0), .val (.int t1), .val (.int t2), .val (.int t3), .val (.ref a15), .val (.ref a18), .val (.ref a20), .val (.ref a18), .val (.int (1 : Int32))] [])) ?_ fun _ zk => XS.ifNo H26.here hx rfl (hb hby at_211) rfl (z_eq_f (by decide)) zk
    refine Rn.pu (T' := T26) (g' := (mkF m 216 #[.val (.int p0), .val (.int p1), .val (.int p2), .val (.int p3), .val (.int p4), .val (.int p5), .val (.int (2 : Int32)), .val (.int t0), .val (.int t1), .val (.int t2), .val (.int t3), .val (.ref a15), .val (.ref a18), .val (.ref a20), .val (.ref a18), .val (.int (1 : Int32))] [(.ref a18)])) ?_ fun _ zk => XS.aload H26.here hx rfl (hb hby at_214) rfl rfl zk
    refine Rn.pu (T' := T26) (g' := (mkF m 217 #[.val (.int p0), .val (.int p1), .val (.int p2), .val (.int p3), .val (.int p4), .val (.int p5), .val (.int (2 : Int32)), .val (.int t0), .val (.int t1), .val (.int t2), .val (.int t3), .val (.ref a15), .val (.ref a18), .val (.ref a20), .val (.ref a18), .val (.int (1 : Int32))] [(.int (1 : Int32)), (.ref a18)])) ?_ fun _ zk => XS.iconst H26.here hx rfl (hb hby at_216) zk
    obtain ⟨_, T27, h27, H27, ⟨rfl, rfl⟩, -, st27⟩ := H26.callV (C := "java/lang/String") (hw _ (List.mem_of_getElem? (i := 70) rfl)) (hw _ (List.mem_of_getElem? (i := 71) rfl)) (hw _ (List.mem_of_getElem? (i := 73) rfl)) (hw _ (List.mem_of_getElem? (i := 72) rfl)) (by decide) (payChU (W := 0) l ⟨hw, SC0, hz0, SF1, rf1, SU2, SU3, SU4⟩ H26.old ((((S19.keep K20 nin0 nin0).keep K21 nin0 nin0).keep K22 nin0 nin0).keep K23 (ninS (adne (by omega)) nin0) (ninS (adne (by omega)) nin0)) (by simp) (i := 1) (by simp) rfl (by decide) (by decide)) ((((S19.exa.keep K20).keep K21).keep K22).keep K23) (g := (mkF m 217 #[.val (.int p0), .val (.int p1), .val (.int p2), .val (.int p3), .val (.int p4), .val (.int p5), .val (.int (2 : Int32)), .val (.int t0), .val (.int t1), .val (.int t2), .val (.int t3), .val (.ref a15), .val (.ref a18), .val (.ref a20), .val (.ref a18), .val (.int (1 : Int32))] [(.int (1 : Int32)), (.ref a18)])) rfl (by rw [hml]; rfl) (argsL := [(.int (1 : Int32))]) (rest := []) (lenOf pd__I_C rfl) rfl rfl (Nat.le_of_eq rfl) (hb hby at_217) (by decide) (by decide) all0
    refine Rn.pu (g' := (mkF m 220 #[.val (.int p0), .val (.int p1), .val (.int p2), .val (.int p3), .val (.int p4), .val (.int p5), .val (.int (2 : Int32)), .val (.int t0), .val (.int t1), .val (.int t2), .val (.int t3), .val (.ref a15), .val (.ref a18), .val (.ref a20), .val (.ref a18), .val (.int (1 : Int32))] [(.int t1)])) ?_ st27
    refine Rn.pu (T' := T27) (g' := (mkF m 222 #[.val (.int p0), .val (.int p1), .val (.int p2), .val (.int p3), .val (.int p4), .val (.int p5), .val (.int (2 : Int32)), .val (.int t0), .val (.int t1), .val (.int t2), .val (.int t3), .val (.ref a15), .val (.ref a18), .val (.ref a20), .val (.ref a18), .val (.int (1 : Int32))] [(.int t1), (.int t1)])) ?_ fun _ zk => XS.iload H27.here hx rfl (hb hby at_220) rfl zk
    refine Rn.pu (T' := T27) (g' := (mkF m 225 #[.val (.int p0), .val (.int p1), .val (.int p2), .val (.int p3), .val (.int p4), .val (.int p5), .val (.int (2 : Int32)), .val (.int t0), .val (.int t1), .val (.int t2), .val (.int t3), .val (.ref a15), .val (.ref a18), .val (.ref a20), .val (.ref a18), .val (.int (1 : Int32))] [])) ?_ fun _ zk => XS.icmpNo H27.here hx rfl (hb hby at_222) rfl (c_ne_f rfl) zk
    refine Rn.pu (T' := T27) (g' := (mkF m 226 #[.val (.int p0), .val (.int p1), .val (.int p2), .val (.int p3), .val (.int p4), .val (.int p5), .val (.int (2 : Int32)), .val (.int t0), .val (.int t1), .val (.int t2), .val (.int t3), .val (.ref a15), .val (.ref a18), .val (.ref a20), .val (.ref a18), .val (.int (1 : Int32))] [(.int (1 : Int32))])) ?_ fun _ zk => XS.iconst H27.here hx rfl (hb hby at_225) zk
    refine Rn.pu (T' := T27) (g' := (mkF m 230 #[.val (.int p0), .val (.int p1), .val (.int p2), .val (.int p3), .val (.int p4), .val (.int p5), .val (.int (2 : Int32)), .val (.int t0), .val (.int t1), .val (.int t2), .val (.int t3), .val (.ref a15), .val (.ref a18), .val (.ref a20), .val (.ref a18), .val (.int (1 : Int32))] [(.int (1 : Int32))])) ?_ fun _ zk => XS.goto H27.here hx rfl (pc0 := 226) (pc' := 230) rfl (hb hby at_226) (by decide) (by decide) zk
    refine Rn.pu (T' := T27) (g' := (mkF m 232 #[.val (.int p0), .val (.int p1), .val (.int p2), .val (.int p3), .val (.int p4), .val (.int p5), .val (.int (2 : Int32)), .val (.int t0), .val (.int t1), .val (.int t2), .val (.int t3), .val (.ref a15), .val (.ref a18), .val (.ref a20), .val (.ref a18), .val (.int (1 : Int32))] [])) ?_ fun _ zk => XS.istore H27.here hx rfl (hb hby at_230) rfl (l' := #[.val (.int p0), .val (.int p1), .val (.int p2), .val (.int p3), .val (.int p4), .val (.int p5), .val (.int (2 : Int32)), .val (.int t0), .val (.int t1), .val (.int t2), .val (.int t3), .val (.ref a15), .val (.ref a18), .val (.ref a20), .val (.ref a18), .val (.int (1 : Int32))]) rfl zk
    refine Rn.pu (T' := T27) (g' := (mkF m 234 #[.val (.int p0), .val (.int p1), .val (.int p2), .val (.int p3), .val (.int p4), .val (.int p5), .val (.int (2 : Int32)), .val (.int t0), .val (.int t1), .val (.int t2), .val (.int t3), .val (.ref a15), .val (.ref a18), .val (.ref a20), .val (.ref a18), .val (.int (1 : Int32))] [(.int (2 : Int32))])) ?_ fun _ zk => XS.iload H27.here hx rfl (hb hby at_232) rfl zk
    refine Rn.pu (T' := T27) (g' := (mkF m 235 #[.val (.int p0), .val (.int p1), .val (.int p2), .val (.int p3), .val (.int p4), .val (.int p5), .val (.int (2 : Int32)), .val (.int t0), .val (.int t1), .val (.int t2), .val (.int t3), .val (.ref a15), .val (.ref a18), .val (.ref a20), .val (.ref a18), .val (.int (1 : Int32))] [(.int (3 : Int32)), (.int (2 : Int32))])) ?_ fun _ zk => XS.iconst H27.here hx rfl (hb hby at_234) zk
    refine Rn.pu (T' := T27) (g' := (mkF m 261 #[.val (.int p0), .val (.int p1), .val (.int p2), .val (.int p3), .val (.int p4), .val (.int p5), .val (.int (2 : Int32)), .val (.int t0), .val (.int t1), .val (.int t2), .val (.int t3), .val (.ref a15), .val (.ref a18), .val (.ref a20), .val (.ref a18), .val (.int (1 : Int32))] [])) ?_ fun _ zk => XS.icmpYes H27.here hx rfl (pc0 := 235) (pc' := 261) rfl (hb hby at_235) rfl (c_lt_t (by decide)) (by decide) (by decide) zk
    refine Rn.pu (T' := T27) (g' := (mkF m 263 #[.val (.int p0), .val (.int p1), .val (.int p2), .val (.int p3), .val (.int p4), .val (.int p5), .val (.int (2 : Int32)), .val (.int t0), .val (.int t1), .val (.int t2), .val (.int t3), .val (.ref a15), .val (.ref a18), .val (.ref a20), .val (.ref a18), .val (.int (1 : Int32))] [(.int (2 : Int32))])) ?_ fun _ zk => XS.iload H27.here hx rfl (hb hby at_261) rfl zk
    refine Rn.pu (T' := T27) (g' := (mkF m 264 #[.val (.int p0), .val (.int p1), .val (.int p2), .val (.int p3), .val (.int p4), .val (.int p5), .val (.int (2 : Int32)), .val (.int t0), .val (.int t1), .val (.int t2), .val (.int t3), .val (.ref a15), .val (.ref a18), .val (.ref a20), .val (.ref a18), .val (.int (1 : Int32))] [(.int (4 : Int32)), (.int (2 : Int32))])) ?_ fun _ zk => XS.iconst H27.here hx rfl (hb hby at_263) zk
    refine Rn.pu (T' := T27) (g' := (mkF m 290 #[.val (.int p0), .val (.int p1), .val (.int p2), .val (.int p3), .val (.int p4), .val (.int p5), .val (.int (2 : Int32)), .val (.int t0), .val (.int t1), .val (.int t2), .val (.int t3), .val (.ref a15), .val (.ref a18), .val (.ref a20), .val (.ref a18), .val (.int (1 : Int32))] [])) ?_ fun _ zk => XS.icmpYes H27.here hx rfl (pc0 := 264) (pc' := 290) rfl (hb hby at_264) rfl (c_lt_t (by decide)) (by decide) (by decide) zk
    refine Rn.pu (T' := T27) (g' := (mkF m 292 #[.val (.int p0), .val (.int p1), .val (.int p2), .val (.int p3), .val (.int p4), .val (.int p5), .val (.int (2 : Int32)), .val (.int t0), .val (.int t1), .val (.int t2), .val (.int t3), .val (.ref a15), .val (.ref a18), .val (.ref a20), .val (.ref a18), .val (.int (1 : Int32))] [(.int (1 : Int32))])) ?_ fun _ zk => XS.iload H27.here hx rfl (hb hby at_290) rfl zk
    refine Rn.pu (T' := T27) (g' := (mkF m 295 #[.val (.int p0), .val (.int p1), .val (.int p2), .val (.int p3), .val (.int p4), .val (.int p5), .val (.int (2 : Int32)), .val (.int t0), .val (.int t1), .val (.int t2), .val (.int t3), .val (.ref a15), .val (.ref a18), .val (.ref a20), .val (.ref a18), .val (.int (1 : Int32))] [])) ?_ fun _ zk => XS.ifNo H27.here hx rfl (hb hby at_292) rfl (z_eq_f (by decide)) zk
    refine Rn.pu (T' := T27) (g' := (mkF m 297 #[.val (.int p0), .val (.int p1), .val (.int p2), .val (.int p3), .val (.int p4), .val (.int p5), .val (.int (2 : Int32)), .val (.int t0), .val (.int t1), .val (.int t2), .val (.int t3), .val (.ref a15), .val (.ref a18), .val (.ref a20), .val (.ref a18), .val (.int (1 : Int32))] [(.ref a18)])) ?_ fun _ zk => XS.aload H27.here hx rfl (hb hby at_295) rfl rfl zk
    refine Rn.pu (T' := T27) (g' := (mkF m 299 #[.val (.int p0), .val (.int p1), .val (.int p2), .val (.int p3), .val (.int p4), .val (.int p5), .val (.int (2 : Int32)), .val (.int t0), .val (.int t1), .val (.int t2), .val (.int t3), .val (.ref a15), .val (.ref a18), .val (.ref a20), .val (.ref a18), .val (.int (1 : Int32))] [(.ref a20), (.ref a18)])) ?_ fun _ zk => XS.aload H27.here hx rfl (hb hby at_297) rfl rfl zk
    obtain ⟨_, T28, h28, H28, ⟨rfl, rfl⟩, -, st28⟩ := H27.callV (C := "com/example/vestline/vestline/Field") (hw _ (List.mem_of_getElem? (i := 92) rfl)) (hw _ (List.mem_of_getElem? (i := 93) rfl)) (hw _ (List.mem_of_getElem? (i := 95) rfl)) (hw _ (List.mem_of_getElem? (i := 94) rfl)) (by decide) (MetN.pay (W := 1) (c_prn l ⟨hw, SC0, hz0, SF1, rf1, SU2, SU3, SU4⟩ a20 a18 h23 H27.old G23_3) (hw _ (List.mem_of_getElem? (i := 96) rfl)) (hw _ (List.mem_of_getElem? (i := 33) rfl)) (by decide) (by decide)) E23 (g := (mkF m 299 #[.val (.int p0), .val (.int p1), .val (.int p2), .val (.int p3), .val (.int p4), .val (.int p5), .val (.int (2 : Int32)), .val (.int t0), .val (.int t1), .val (.int t2), .val (.int t3), .val (.ref a15), .val (.ref a18), .val (.ref a20), .val (.ref a18), .val (.int (1 : Int32))] [(.ref a20), (.ref a18)])) rfl (by rw [hml]; rfl) (argsL := []) (rest := [(.ref a18)]) (lenOf pd___Ljava_lang_String_ rfl) rfl rfl (Nat.le_of_eq rfl) (hb hby at_299) (by decide) (by decide) all0
    refine Rn.pu (g' := (mkF m 302 #[.val (.int p0), .val (.int p1), .val (.int p2), .val (.int p3), .val (.int p4), .val (.int p5), .val (.int (2 : Int32)), .val (.int t0), .val (.int t1), .val (.int t2), .val (.int t3), .val (.ref a15), .val (.ref a18), .val (.ref a20), .val (.ref a18), .val (.int (1 : Int32))] [(.ref a18), (.ref a18)])) ?_ st28
    obtain ⟨_, T29, h29, H29, ⟨rfl, rfl⟩, -, st29⟩ := H28.callV (C := "java/lang/String") (hw _ (List.mem_of_getElem? (i := 97) rfl)) (hw _ (List.mem_of_getElem? (i := 98) rfl)) (hw _ (List.mem_of_getElem? (i := 100) rfl)) (hw _ (List.mem_of_getElem? (i := 99) rfl)) (by decide) (MetN.pay (W := 0) (c_same l ⟨hw, SC0, hz0, SF1, rf1, SU2, SU3, SU4⟩ a18 h23 H28.old) (hw _ (List.mem_of_getElem? (i := 101) rfl)) (hw _ (List.mem_of_getElem? (i := 4) rfl)) (by decide) (by decide)) ((((S19.exa.keep K20).keep K21).keep K22).keep K23) (g := (mkF m 302 #[.val (.int p0), .val (.int p1), .val (.int p2), .val (.int p3), .val (.int p4), .val (.int p5), .val (.int (2 : Int32)), .val (.int t0), .val (.int t1), .val (.int t2), .val (.int t3), .val (.ref a15), .val (.ref a18), .val (.ref a20), .val (.ref a18), .val (.int (1 : Int32))] [(.ref a18), (.ref a18)])) rfl (by rw [hml]; rfl) (argsL := [(.ref a18)]) (rest := []) (lenOf pd__Ljava_lang_Object__Z rfl) rfl rfl (Nat.le_of_eq rfl) (hb hby at_302) (by decide) (by decide) all0
    refine Rn.pu (g' := (mkF m 305 #[.val (.int p0), .val (.int p1), .val (.int p2), .val (.int p3), .val (.int p4), .val (.int p5), .val (.int (2 : Int32)), .val (.int t0), .val (.int t1), .val (.int t2), .val (.int t3), .val (.ref a15), .val (.ref a18), .val (.ref a20), .val (.ref a18), .val (.int (1 : Int32))] [(.int (1 : Int32))])) ?_ st29
    refine Rn.pu (T' := T29) (g' := (mkF m 308 #[.val (.int p0), .val (.int p1), .val (.int p2), .val (.int p3), .val (.int p4), .val (.int p5), .val (.int (2 : Int32)), .val (.int t0), .val (.int t1), .val (.int t2), .val (.int t3), .val (.ref a15), .val (.ref a18), .val (.ref a20), .val (.ref a18), .val (.int (1 : Int32))] [])) ?_ fun _ zk => XS.ifNo H29.here hx rfl (hb hby at_305) rfl (z_eq_f (by decide)) zk
    refine Rn.pu (T' := T29) (g' := (mkF m 310 #[.val (.int p0), .val (.int p1), .val (.int p2), .val (.int p3), .val (.int p4), .val (.int p5), .val (.int (2 : Int32)), .val (.int t0), .val (.int t1), .val (.int t2), .val (.int t3), .val (.ref a15), .val (.ref a18), .val (.ref a20), .val (.ref a18), .val (.int (1 : Int32))] [(.ref a20)])) ?_ fun _ zk => XS.aload H29.here hx rfl (hb hby at_308) rfl rfl zk
    obtain ⟨_, T30, h30, H30, ⟨rfl, rfl⟩, -, st30⟩ := H29.callV (C := "com/example/vestline/vestline/Field") (hw _ (List.mem_of_getElem? (i := 102) rfl)) (hw _ (List.mem_of_getElem? (i := 103) rfl)) (hw _ (List.mem_of_getElem? (i := 105) rfl)) (hw _ (List.mem_of_getElem? (i := 104) rfl)) (by decide) (MetN.pay (W := 0) (c_emp l ⟨hw, SC0, hz0, SF1, rf1, SU2, SU3, SU4⟩ a20 a18 t19 ([t0, t1]) h23 H29.old G23_3 ((((S19.keep K20 nin0 nin0).keep K21 nin0 nin0).keep K22 nin0 nin0).keep K23 (ninS (adne (by omega)) nin0) (ninS (adne (by omega)) nin0)) (by simp)) (hw _ (List.mem_of_getElem? (i := 106) rfl)) (hw _ (List.mem_of_getElem? (i := 33) rfl)) (by decide) (by decide)) E23 (g := (mkF m 310 #[.val (.int p0), .val (.int p1), .val (.int p2), .val (.int p3), .val (.int p4), .val (.int p5), .val (.int (2 : Int32)), .val (.int t0), .val (.int t1), .val (.int t2), .val (.int t3), .val (.ref a15), .val (.ref a18), .val (.ref a20), .val (.ref a18), .val (.int (1 : Int32))] [(.ref a20)])) rfl (by rw [hml]; rfl) (argsL := []) (rest := []) (lenOf pd___Z rfl) rfl rfl (Nat.le_of_eq rfl) (hb hby at_310) (by decide) (by decide) all0
    refine Rn.pu (g' := (mkF m 313 #[.val (.int p0), .val (.int p1), .val (.int p2), .val (.int p3), .val (.int p4), .val (.int p5), .val (.int (2 : Int32)), .val (.int t0), .val (.int t1), .val (.int t2), .val (.int t3), .val (.ref a15), .val (.ref a18), .val (.ref a20), .val (.ref a18), .val (.int (1 : Int32))] [(.int (0 : Int32))])) ?_ st30
    refine Rn.pu (T' := T30) (g' := (mkF m 316 #[.val (.int p0), .val (.int p1), .val (.int p2), .val (.int p3), .val (.int p4), .val (.int p5), .val (.int (2 : Int32)), .val (.int t0), .val (.int t1), .val (.int t2), .val (.int t3), .val (.ref a15), .val (.ref a18), .val (.ref a20), .val (.ref a18), .val (.int (1 : Int32))] [])) ?_ fun _ zk => XS.ifNo H30.here hx rfl (hb hby at_313) rfl (z_ne_f rfl) zk
    refine Rn.pu (T' := T30) (g' := (mkF m 317 #[.val (.int p0), .val (.int p1), .val (.int p2), .val (.int p3), .val (.int p4), .val (.int p5), .val (.int (2 : Int32)), .val (.int t0), .val (.int t1), .val (.int t2), .val (.int t3), .val (.ref a15), .val (.ref a18), .val (.ref a20), .val (.ref a18), .val (.int (1 : Int32))] [(.int (1 : Int32))])) ?_ fun _ zk => XS.iconst H30.here hx rfl (hb hby at_316) zk
    refine Rn.pu (T' := T30) (g' := (mkF m 321 #[.val (.int p0), .val (.int p1), .val (.int p2), .val (.int p3), .val (.int p4), .val (.int p5), .val (.int (2 : Int32)), .val (.int t0), .val (.int t1), .val (.int t2), .val (.int t3), .val (.ref a15), .val (.ref a18), .val (.ref a20), .val (.ref a18), .val (.int (1 : Int32))] [(.int (1 : Int32))])) ?_ fun _ zk => XS.goto H30.here hx rfl (pc0 := 317) (pc' := 321) rfl (hb hby at_317) (by decide) (by decide) zk
    exact H30.retS ends_W hlk (t := .boolean) hret (by simp) (hb hby at_321) (by decide) (by decide) (fun _ q => nomatch q) rfl
  ·
    refine Rn.pu (T' := T0) (g' := (mkF m 39 #[.val (.int p0), .val (.int p1), .val (.int p2), .val (.int p3), .val (.int p4), .val (.int p5), .val (.int (3 : Int32)), .val (.int t0), .val (.int t1), .val (.int t2), .val (.int t3), .unset, .unset, .unset, .unset, .unset] [(.int (1 : Int32)), (.int (3 : Int32))])) ?_ fun _ zk => XS.iconst H0.here hx rfl (hb hby at_38) zk
    refine Rn.pu (T' := T0) (g' := (mkF m 55 #[.val (.int p0), .val (.int p1), .val (.int p2), .val (.int p3), .val (.int p4), .val (.int p5), .val (.int (3 : Int32)), .val (.int t0), .val (.int t1), .val (.int t2), .val (.int t3), .unset, .unset, .unset, .unset, .unset] [])) ?_ fun _ zk => XS.icmpYes H0.here hx rfl (pc0 := 39) (pc' := 55) rfl (hb hby at_39) rfl (c_ne_t (by decide)) (by decide) (by decide) zk
    refine Rn.pu (T' := T0) (g' := (mkF m 57 #[.val (.int p0), .val (.int p1), .val (.int p2), .val (.int p3), .val (.int p4), .val (.int p5), .val (.int (3 : Int32)), .val (.int t0), .val (.int t1), .val (.int t2), .val (.int t3), .unset, .unset, .unset, .unset, .unset] [(.int (3 : Int32))])) ?_ fun _ zk => XS.iload H0.here hx rfl (hb hby at_55) rfl zk
    refine Rn.pu (T' := T0) (g' := (mkF m 58 #[.val (.int p0), .val (.int p1), .val (.int p2), .val (.int p3), .val (.int p4), .val (.int p5), .val (.int (3 : Int32)), .val (.int t0), .val (.int t1), .val (.int t2), .val (.int t3), .unset, .unset, .unset, .unset, .unset] [(.int (2 : Int32)), (.int (3 : Int32))])) ?_ fun _ zk => XS.iconst H0.here hx rfl (hb hby at_57) zk
    refine Rn.pu (T' := T0) (g' := (mkF m 79 #[.val (.int p0), .val (.int p1), .val (.int p2), .val (.int p3), .val (.int p4), .val (.int p5), .val (.int (3 : Int32)), .val (.int t0), .val (.int t1), .val (.int t2), .val (.int t3), .unset, .unset, .unset, .unset, .unset] [])) ?_ fun _ zk => XS.icmpYes H0.here hx rfl (pc0 := 58) (pc' := 79) rfl (hb hby at_58) rfl (c_ne_t (by decide)) (by decide) (by decide) zk
    refine Rn.pu (T' := T0) (g' := (mkF m 81 #[.val (.int p0), .val (.int p1), .val (.int p2), .val (.int p3), .val (.int p4), .val (.int p5), .val (.int (3 : Int32)), .val (.int t0), .val (.int t1), .val (.int t2), .val (.int t3), .unset, .unset, .unset, .unset, .unset] [(.int (3 : Int32))])) ?_ fun _ zk => XS.iload H0.here hx rfl (hb hby at_79) rfl zk
    refine Rn.pu (T' := T0) (g' := (mkF m 82 #[.val (.int p0), .val (.int p1), .val (.int p2), .val (.int p3), .val (.int p4), .val (.int p5), .val (.int (3 : Int32)), .val (.int t0), .val (.int t1), .val (.int t2), .val (.int t3), .unset, .unset, .unset, .unset, .unset] [(.int (3 : Int32)), (.int (3 : Int32))])) ?_ fun _ zk => XS.iconst H0.here hx rfl (hb hby at_81) zk
    refine Rn.pu (T' := T0) (g' := (mkF m 85 #[.val (.int p0), .val (.int p1), .val (.int p2), .val (.int p3), .val (.int p4), .val (.int p5), .val (.int (3 : Int32)), .val (.int t0), .val (.int t1), .val (.int t2), .val (.int t3), .unset, .unset, .unset, .unset, .unset] [])) ?_ fun _ zk => XS.icmpNo H0.here hx rfl (hb hby at_82) rfl (c_ne_f rfl) zk
    refine Rn.pu (T' := T0) (g' := (mkF m 86 #[.val (.int p0), .val (.int p1), .val (.int p2), .val (.int p3), .val (.int p4), .val (.int p5), .val (.int (3 : Int32)), .val (.int t0), .val (.int t1), .val (.int t2), .val (.int t3), .unset, .unset, .unset, .unset, .unset] [(.int (3 : Int32))])) ?_ fun _ zk => XS.iconst H0.here hx rfl (hb hby at_85) zk
    obtain ⟨a31, k31, T31, h31, e31, H31, K31, A31, st31⟩ := H0.newP (aty := .char) (hw _ (List.mem_of_getElem? (i := 1) rfl)) (g := (mkF m 86 #[.val (.int p0), .val (.int p1), .val (.int p2), .val (.int p3), .val (.int p4), .val (.int p5), .val (.int (3 : Int32)), .val (.int t0), .val (.int t1), .val (.int t2), .val (.int t3), .unset, .unset, .unset, .unset, .unset] [(.int (3 : Int32))])) rfl (hb hby at_86) rfl (by decide) (cap := 3) (by decide) (by decide) (by decide) (by decide)
    have zh31 := K31.1
    have l31 := natlt (A31).lt
    have g31 : s.heap.size ≤ a31 := by omega
    refine Rn.pu (g' := (mkF m 88 #[.val (.int p0), .val (.int p1), .val (.int p2), .val (.int p3), .val (.int p4), .val (.int p5), .val (.int (3 : Int32)), .val (.int t0), .val (.int t1), .val (.int t2), .val (.int t3), .unset, .unset, .unset, .unset, .unset] [(.ref a31)])) ?_ st31
    refine Rn.pu (T' := T31) (g' := (mkF m 89 #[.val (.int p0), .val (.int p1), .val (.int p2), .val (.int p3), .val (.int p4), .val (.int p5), .val (.int (3 : Int32)), .val (.int t0), .val (.int t1), .val (.int t2), .val (.int t3), .unset, .unset, .unset, .unset, .unset] [(.ref a31), (.ref a31)])) ?_ fun _ zk => XS.dup H31.here hx rfl (hb hby at_88) rfl rfl zk
    refine Rn.pu (T' := T31) (g' := (mkF m 90 #[.val (.int p0), .val (.int p1), .val (.int p2), .val (.int p3), .val (.int p4), .val (.int p5), .val (.int (3 : Int32)), .val (.int t0), .val (.int t1), .val (.int t2), .val (.int t3), .unset, .unset, .unset, .unset, .unset] [(.int (0 : Int32)), (.ref a31), (.ref a31)])) ?_ fun _ zk => XS.iconst H31.here hx rfl (hb hby at_89) zk
    refine Rn.pu (T' := T31) (g' := (mkF m 92 #[.val (.int p0), .val (.int p1), .val (.int p2), .val (.int p3), .val (.int p4), .val (.int p5), .val (.int (3 : Int32)), .val (.int t0), .val (.int t1), .val (.int t2), .val (.int t3), .unset, .unset, .unset, .unset, .unset] [(.int t0), (.int (0 : Int32)), (.ref a31), (.ref a31)])) ?_ fun _ zk => XS.iload H31.here hx rfl (hb hby at_90) rfl zk
    obtain ⟨T32, h32, H32, K32, A32, st32⟩ := H31.stC A31 (by decide) rfl (Or.inr (by omega)) (g := (mkF m 92 #[.val (.int p0), .val (.int p1), .val (.int p2), .val (.int p3), .val (.int p4), .val (.int p5), .val (.int (3 : Int32)), .val (.int t0), .val (.int t1), .val (.int t2), .val (.int t3), .unset, .unset, .unset, .unset, .unset] [(.int t0), (.int (0 : Int32)), (.ref a31), (.ref a31)])) rfl rfl (hb hby at_92)
    have zh32 := K32.1
    refine Rn.pu (g' := (mkF m 93 #[.val (.int p0), .val (.int p1), .val (.int p2), .val (.int p3), .val (.int p4), .val (.int p5), .val (.int (3 : Int32)), .val (.int t0), .val (.int t1), .val (.int t2), .val (.int t3), .unset, .unset, .unset, .unset, .unset] [(.ref a31)])) ?_ st32
    refine Rn.pu (T' := T32) (g' := (mkF m 94 #[.val (.int p0), .val (.int p1), .val (.int p2), .val (.int p3), .val (.int p4), .val (.int p5), .val (.int (3 : Int32)), .val (.int t0), .val (.int t1), .val (.int t2), .val (.int t3), .unset, .unset, .unset, .unset, .unset] [(.ref a31), (.ref a31)])) ?_ fun _ zk => XS.dup H32.here hx rfl (hb hby at_93) rfl rfl zk
    refine Rn.pu (T' := T32) (g' := (mkF m 95 #[.val (.int p0), .val (.int p1), .val (.int p2), .val (.int p3), .val (.int p4), .val (.int p5), .val (.int (3 : Int32)), .val (.int t0), .val (.int t1), .val (.int t2), .val (.int t3), .unset, .unset, .unset, .unset, .unset] [(.int (1 : Int32)), (.ref a31), (.ref a31)])) ?_ fun _ zk => XS.iconst H32.here hx rfl (hb hby at_94) zk
    refine Rn.pu (T' := T32) (g' := (mkF m 97 #[.val (.int p0), .val (.int p1), .val (.int p2), .val (.int p3), .val (.int p4), .val (.int p5), .val (.int (3 : Int32)), .val (.int t0), .val (.int t1), .val (.int t2), .val (.int t3), .unset, .unset, .unset, .unset, .unset] [(.int t1), (.int (1 : Int32)), (.ref a31), (.ref a31)])) ?_ fun _ zk => XS.iload H32.here hx rfl (hb hby at_95) rfl zk
    obtain ⟨T33, h33, H33, K33, A33, st33⟩ := H32.stC A32 (by decide) rfl (Or.inr (by omega)) (g := (mkF m 97 #[.val (.int p0), .val (.int p1), .val (.int p2), .val (.int p3), .val (.int p4), .val (.int p5), .val (.int (3 : Int32)), .val (.int t0), .val (.int t1), .val (.int t2), .val (.int t3), .unset, .unset, .unset, .unset, .unset] [(.int t1), (.int (1 : Int32)), (.ref a31), (.ref a31)])) rfl rfl (hb hby at_97)
    have zh33 := K33.1
    refine Rn.pu (g' := (mkF m 98 #[.val (.int p0), .val (.int p1), .val (.int p2), .val (.int p3), .val (.int p4), .val (.int p5), .val (.int (3 : Int32)), .val (.int t0), .val (.int t1), .val (.int t2), .val (.int t3), .unset, .unset, .unset, .unset, .unset] [(.ref a31)])) ?_ st33
    refine Rn.pu (T' := T33) (g' := (mkF m 99 #[.val (.int p0), .val (.int p1), .val (.int p2), .val (.int p3), .val (.int p4), .val (.int p5), .val (.int (3 : Int32)), .val (.int t0), .val (.int t1), .val (.int t2), .val (.int t3), .unset, .unset, .unset, .unset, .unset] [(.ref a31), (.ref a31)])) ?_ fun _ zk => XS.dup H33.here hx rfl (hb hby at_98) rfl rfl zk
    refine Rn.pu (T' := T33) (g' := (mkF m 100 #[.val (.int p0), .val (.int p1), .val (.int p2), .val (.int p3), .val (.int p4), .val (.int p5), .val (.int (3 : Int32)), .val (.int t0), .val (.int t1), .val (.int t2), .val (.int t3), .unset, .unset, .unset, .unset, .unset] [(.int (2 : Int32)), (.ref a31), (.ref a31)])) ?_ fun _ zk => XS.iconst H33.here hx rfl (hb hby at_99) zk
    refine Rn.pu (T' := T33) (g' := (mkF m 102 #[.val (.int p0), .val (.int p1), .val (.int p2), .val (.int p3), .val (.int p4), .val (.int p5), .val (.int (3 : Int32)), .val (.int t0), .val (.int t1), .val (.int t2), .val (.int t3), .unset, .unset, .unset, .unset, .unset] [(.int t2), (.int (2 : Int32)), (.ref a31), (.ref a31)])) ?_ fun _ zk => XS.iload H33.here hx rfl (hb hby at_100) rfl zk
    obtain ⟨T34, h34, H34, K34, A34, st34⟩ := H33.stC A33 (by decide) rfl (Or.inr (by omega)) (g := (mkF m 102 #[.val (.int p0), .val (.int p1), .val (.int p2), .val (.int p3), .val (.int p4), .val (.int p5), .val (.int (3 : Int32)), .val (.int t0), .val (.int t1), .val (.int t2), .val (.int t3), .unset, .unset, .unset, .unset, .unset] [(.int t2), (.int (2 : Int32)), (.ref a31), (.ref a31)])) rfl rfl (hb hby at_102)
    have zh34 := K34.1
    refine Rn.pu (g' := (mkF m 103 #[.val (.int p0), .val (.int p1), .val (.int p2), .val (.int p3), .val (.int p4), .val (.int p5), .val (.int (3 : Int32)), .val (.int t0), .val (.int t1), .val (.int t2), .val (.int t3), .unset, .unset, .unset, .unset, .unset] [(.ref a31)])) ?_ st34
    refine Rn.pu (T' := T34) (g' := (mkF m 105 #[.val (.int p0), .val (.int p1), .val (.int p2), .val (.int p3), .val (.int p4), .val (.int p5), .val (.int (3 : Int32)), .val (.int t0), .val (.int t1), .val (.int t2), .val (.int t3), .val (.ref a31), .unset, .unset, .unset, .unset] [])) ?_ fun _ zk => XS.astore H34.here hx rfl (hb hby at_103) rfl rfl (l' := #[.val (.int p0), .val (.int p1), .val (.int p2), .val (.int p3), .val (.int p4), .val (.int p5), .val (.int (3 : Int32)), .val (.int t0), .val (.int t1), .val (.int t2), .val (.int t3), .val (.ref a31), .unset, .unset, .unset, .unset]) rfl zk
    refine Rn.pu (T' := T34) (g' := (mkF m 133 #[.val (.int p0), .val (.int p1), .val (.int p2), .val (.int p3), .val (.int p4), .val (.int p5), .val (.int (3 : Int32)), .val (.int t0), .val (.int t1), .val (.int t2), .val (.int t3), .val (.ref a31), .unset, .unset, .unset, .unset] [])) ?_ fun _ zk => XS.goto H34.here hx rfl (pc0 := 105) (pc' := 133) rfl (hb hby at_105) (by decide) (by decide) zk
    have AC : Arv Z h34 a31 k31 .char (3 : Int32) [.int t0, .int t1, .int t2] (.int 0) := by have q := A34; simp only [List.nil_append, List.cons_append, List.map, nar_id rt0.1 rt0.2, nar_id rt1.1 rt1.2, nar_id rt2.1 rt2.2] at q; exact q
    obtain ⟨a35, T35, h35, e35, H35, K35, E35, D35, st35⟩ := H34.newO (hw _ (List.mem_of_getElem? (i := 2) rfl)) (hw _ (List.mem_of_getElem? (i := 3) rfl)) (hw _ (List.mem_of_getElem? (i := 4) rfl)) (g := (mkF m 133 #[.val (.int p0), .val (.int p1), .val (.int p2), .val (.int p3), .val (.int p4), .val (.int p5), .val (.int (3 : Int32)), .val (.int t0), .val (.int t1), .val (.int t2), .val (.int t3), .val (.ref a31), .unset, .unset, .unset, .unset] [])) rfl (hb hby at_133) (by decide) (by decide)
    have zh35 := K35.1
    have l35 := natlt (E35).lt
    have g35 : s.heap.size ≤ a35 := by omega
    have F35_coder : Fld Z h35 a35 "java/lang/String" "coder" "B" (.int (0 : Int32)) := D35 (Or.inr (hw _ (List.mem_of_getElem? (i := 28) rfl))) (ty := .byte) (by decide)
    have F35_value : Fld Z h35 a35 "java/lang/String" "value" "[B" .null := D35 (Or.inr (hw _ (List.mem_of_getElem? (i := 30) rfl))) (ty := (.array .byte)) (by decide)
    refine Rn.pu (g' := (mkF m 136 #[.val (.int p0), .val (.int p1), .val (.int p2), .val (.int p3), .val (.int p4), .val (.int p5), .val (.int (3 : Int32)), .val (.int t0), .val (.int t1), .val (.int t2), .val (.int t3), .val (.ref a31), .unset, .unset, .unset, .unset] [(.ref a35)])) ?_ st35
    refine Rn.pu (T' := T35) (g' := (mkF m 137 #[.val (.int p0), .val (.int p1), .val (.int p2), .val (.int p3), .val (.int p4), .val (.int p5), .val (.int (3 : Int32)), .val (.int t0), .val (.int t1), .val (.int t2), .val (.int t3), .val (.ref a31), .unset, .unset, .unset, .unset] [(.ref a35), (.ref a35)])) ?_ fun _ zk => XS.dup H35.here hx rfl (hb hby at_136) rfl rfl zk
    refine Rn.pu (T' := T35) (g' := (mkF m 139 #[.val (.int p0), .val (.int p1), .val (.int p2), .val (.int p3), .val (.int p4), .val (.int p5), .val (.int (3 : Int32)), .val (.int t0), .val (.int t1), .val (.int t2), .val (.int t3), .val (.ref a31), .unset, .unset, .unset, .unset] [(.ref a31), (.ref a35), (.ref a35)])) ?_ fun _ zk => XS.aload H35.here hx rfl (hb hby at_137) rfl rfl zk
    obtain ⟨_, T36, h36, H36, ⟨rfl, t36, S36, lt36⟩, K36, st36⟩ := H35.callIm rfl (hw _ (List.mem_of_getElem? (i := 5) rfl)) (hw _ (List.mem_of_getElem? (i := 6) rfl)) (hw _ (List.mem_of_getElem? (i := 7) rfl)) (by decide) (payNewU (cs := [t0, t1, t2]) (n := 3) (W := 1) l ⟨hw, SC0, hz0, SF1, rf1, SU2, SU3, SU4⟩ H35.old rfl rfl (by decide) (by decide) (mem2 rt0 (mem2 rt1 (mem2 rt2 mem0))) (AC.keep K35 nin0) E35 F35_value F35_coder (by have := H0.old.1; omega) (by decide) (by decide)) (g := (mkF m 139 #[.val (.int p0), .val (.int p1), .val (.int p2), .val (.int p3), .val (.int p4), .val (.int p5), .val (.int (3 : Int32)), .val (.int t0), .val (.int t1), .val (.int t2), .val (.int t3), .val (.ref a31), .unset, .unset, .unset, .unset] [(.ref a31), (.ref a35), (.ref a35)])) rfl (by rw [hml]; rfl) (argsL := [(.ref a31)]) (rest := [(.ref a35)]) (lenOf pd__AC_V rfl) rfl rfl (Nat.le_of_eq rfl) (hb hby at_139) (by decide) (by decide) (allS (Or.inr (by omega)) all0)
    have zh36 := K36.1
    have l36 := natlt (S36).lt
    refine Rn.pu (g' := (mkF m 142 #[.val (.int p0), .val (.int p1), .val (.int p2), .val (.int p3), .val (.int p4), .val (.int p5), .val (.int (3 : Int32)), .val (.int t0), .val (.int t1), .val (.int t2), .val (.int t3), .val (.ref a31), .unset, .unset, .unset, .unset] [(.ref a35)])) ?_ st36
    refine Rn.pu (T' := T36) (g' := (mkF m 144 #[.val (.int p0), .val (.int p1), .val (.int p2), .val (.int p3), .val (.int p4), .val (.int p5), .val (.int (3 : Int32)), .val (.int t0), .val (.int t1), .val (.int t2), .val (.int t3), .val (.ref a31), .val (.ref a35), .unset, .unset, .unset] [])) ?_ fun _ zk => XS.astore H36.here hx rfl (hb hby at_142) rfl rfl (l' := #[.val (.int p0), .val (.int p1), .val (.int p2), .val (.int p3), .val (.int p4), .val (.int p5), .val (.int (3 : Int32)), .val (.int t0), .val (.int t1), .val (.int t2), .val (.int t3), .val (.ref a31), .val (.ref a35), .unset, .unset, .unset]) rfl zk
    obtain ⟨a37, T37, h37, e37, H37, K37, E37, D37, st37⟩ := H36.newO (hw _ (List.mem_of_getElem? (i := 31) rfl)) (hw _ (List.mem_of_getElem? (i := 32) rfl)) (hw _ (List.mem_of_getElem? (i := 33) rfl)) (g := (mkF m 144 #[.val (.int p0), .val (.int p1), .val (.int p2), .val (.int p3), .val (.int p4), .val (.int p5), .val (.int (3 : Int32)), .val (.int t0), .val (.int t1), .val (.int t2), .val (.int t3), .val (.ref a31), .val (.ref a35), .unset, .unset, .unset] [])) rfl (hb hby at_144) (by decide) (by decide)
    have zh37 := K37.1
    have l37 := natlt (E37).lt
    have g37 : s.heap.size ≤ a37 := by omega
    have F37_m_source : Fld Z h37 a37 "com/example/vestline/vestline/Field" "m_source" "Ljava/lang/String;" .null := D37 (Or.inr (hw _ (List.mem_of_getElem? (i := 43) rfl))) (ty := (.object "java/lang/String")) (by decide)
    have F37_m_line : Fld Z h37 a37 "com/example/vestline/vestline/Field" "m_line" "I" (.int (0 : Int32)) := D37 (Or.inr (hw _ (List.mem_of_getElem? (i := 45) rfl))) (ty := .int) (by decide)
    have F37_m_name : Fld Z h37 a37 "com/example/vestline/vestline/Field" "m_name" "Ljava/lang/String;" .null := D37 (Or.inr (hw _ (List.mem_of_getElem? (i := 47) rfl))) (ty := (.object "java/lang/String")) (by decide)
    have F37_m_text : Fld Z h37 a37 "com/example/vestline/vestline/Field" "m_text" "Ljava/lang/String;" .null := D37 (Or.inr (hw _ (List.mem_of_getElem? (i := 49) rfl))) (ty := (.object "java/lang/String")) (by decide)
    refine Rn.pu (g' := (mkF m 147 #[.val (.int p0), .val (.int p1), .val (.int p2), .val (.int p3), .val (.int p4), .val (.int p5), .val (.int (3 : Int32)), .val (.int t0), .val (.int t1), .val (.int t2), .val (.int t3), .val (.ref a31), .val (.ref a35), .unset, .unset, .unset] [(.ref a37)])) ?_ st37
    refine Rn.pu (T' := T37) (g' := (mkF m 148 #[.val (.int p0), .val (.int p1), .val (.int p2), .val (.int p3), .val (.int p4), .val (.int p5), .val (.int (3 : Int32)), .val (.int t0), .val (.int t1), .val (.int t2), .val (.int t3), .val (.ref a31), .val (.ref a35), .unset, .unset, .unset] [(.ref a37), (.ref a37)])) ?_ fun _ zk => XS.dup H37.here hx rfl (hb hby at_147) rfl rfl zk
    obtain ⟨a38, T38, h38, H38, K38, st38⟩ := H37.ldcS (hw _ (List.mem_of_getElem? (i := 34) rfl)) (hws_sa hw) (g := (mkF m 148 #[.val (.int p0), .val (.int p1), .val (.int p2), .val (.int p3), .val (.int p4), .val (.int p5), .val (.int (3 : Int32)), .val (.int t0), .val (.int t1), .val (.int t2), .val (.int t3), .val (.ref a31), .val (.ref a35), .unset, .unset, .unset] [(.ref a37), (.ref a37)])) rfl (hb hby at_148) (n := 4) (by decide) (by decide) (by decide) (by decide)
    have zh38 := K38.1
    refine Rn.pu (g' := (mkF m 150 #[.val (.int p0), .val (.int p1), .val (.int p2), .val (.int p3), .val (.int p4), .val (.int p5), .val (.int (3 : Int32)), .val (.int t0), .val (.int t1), .val (.int t2), .val (.int t3), .val (.ref a31), .val (.ref a35), .unset, .unset, .unset] [(.ref a38), (.ref a37), (.ref a37)])) ?_ st38
    refine Rn.pu (T' := T38) (g' := (mkF m 152 #[.val (.int p0), .val (.int p1), .val (.int p2), .val (.int p3), .val (.int p4), .val (.int p5), .val (.int (3 : Int32)), .val (.int t0), .val (.int t1), .val (.int t2), .val (.int t3), .val (.ref a31), .val (.ref a35), .unset, .unset, .unset] [(.int p5), (.ref a38), (.ref a37), (.ref a37)])) ?_ fun _ zk => XS.iload H38.here hx rfl (hb hby at_150) rfl zk
    obtain ⟨a39, T39, h39, H39, K39, st39⟩ := H38.ldcS (hw _ (List.mem_of_getElem? (i := 37) rfl)) (hws_sa hw) (g := (mkF m 152 #[.val (.int p0), .val (.int p1), .val (.int p2), .val (.int p3), .val (.int p4), .val (.int p5), .val (.int (3 : Int32)), .val (.int t0), .val (.int t1), .val (.int t2), .val (.int t3), .val (.ref a31), .val (.ref a35), .unset, .unset, .unset] [(.int p5), (.ref a38), (.ref a37), (.ref a37)])) rfl (hb hby at_152) (n := 32) (by decide) (by decide) (by decide) (by decide)
    have zh39 := K39.1
    refine Rn.pu (g' := (mkF m 154 #[.val (.int p0), .val (.int p1), .val (.int p2), .val (.int p3), .val (.int p4), .val (.int p5), .val (.int (3 : Int32)), .val (.int t0), .val (.int t1), .val (.int t2), .val (.int t3), .val (.ref a31), .val (.ref a35), .unset, .unset, .unset] [(.ref a39), (.int p5), (.ref a38), (.ref a37), (.ref a37)])) ?_ st39
    refine Rn.pu (T' := T39) (g' := (mkF m 156 #[.val (.int p0), .val (.int p1), .val (.int p2), .val (.int p3), .val (.int p4), .val (.int p5), .val (.int (3 : Int32)), .val (.int t0), .val (.int t1), .val (.int t2), .val (.int t3), .val (.ref a31), .val (.ref a35), .unset, .unset, .unset] [(.ref a35), (.ref a39), (.int p5), (.ref a38), (.ref a37), (.ref a37)])) ?_ fun _ zk => XS.aload H39.here hx rfl (hb hby at_154) rfl rfl zk
    obtain ⟨_, T40, h40, H40, ⟨rfl, E40, G40_0, G40_1, G40_2, G40_3⟩, K40, st40⟩ := H39.callI rfl (hw _ (List.mem_of_getElem? (i := 38) rfl)) (hw _ (List.mem_of_getElem? (i := 39) rfl)) (hw _ (List.mem_of_getElem? (i := 40) rfl)) (by decide) (MetN.pay (W := 1) (c_init l ⟨hw, SC0, hz0, SF1, rf1, SU2, SU3, SU4⟩ a37 a38 a39 a35 p5 h39 H39.old ((E37.keep K38).keep K39) ((F37_m_source.keep K38 nin0).keep K39 nin0) ((F37_m_line.keep K38 nin0).keep K39 nin0) ((F37_m_name.keep K38 nin0).keep K39 nin0) ((F37_m_text.keep K38 nin0).keep K39 nin0) (by omega)) (hw _ (List.mem_of_getElem? (i := 40) rfl)) (hw _ (List.mem_of_getElem? (i := 33) rfl)) (by decide) (by decide)) (g := (mkF m 156 #[.val (.int p0), .val (.int p1), .val (.int p2), .val (.int p3), .val (.int p4), .val (.int p5), .val (.int (3 : Int32)), .val (.int t0), .val (.int t1), .val (.int t2), .val (.int t3), .val (.ref a31), .val (.ref a35), .unset, .unset, .unset] [(.ref a35), (.ref a39), (.int p5), (.ref a38), (.ref a37), (.ref a37)])) rfl (by rw [hml]; rfl) (argsL := [(.ref a38), (.int p5), (.ref a39), (.ref a35)]) (rest := [(.ref a37)]) (lenOf pd__Ljava_lang_String_ILjava_lang_String_Ljava_lang_String__V rfl) rfl rfl (Nat.le_of_eq rfl) (hb hby at_156) (by decide) (by decide) (allS (Or.inr (by omega)) all0)
    have zh40 := K40.1
    refine Rn.pu (g' := (mkF m 159 #[.val (.int p0), .val (.int p1), .val (.int p2), .val (.int p3), .val (.int p4), .val (.int p5), .val (.int (3 : Int32)), .val (.int t0), .val (.int t1), .val (.int t2), .val (.int t3), .val (.ref a31), .val (.ref a35), .unset, .unset, .unset] [(.ref a37)])) ?_ st40
    refine Rn.pu (T' := T40) (g' := (mkF m 161 #[.val (.int p0), .val (.int p1), .val (.int p2), .val (.int p3), .val (.int p4), .val (.int p5), .val (.int (3 : Int32)), .val (.int t0), .val (.int t1), .val (.int t2), .val (.int t3), .val (.ref a31), .val (.ref a35), .val (.ref a37), .unset, .unset] [])) ?_ fun _ zk => XS.astore H40.here hx rfl (hb hby at_159) rfl rfl (l' := #[.val (.int p0), .val (.int p1), .val (.int p2), .val (.int p3), .val (.int p4), .val (.int p5), .val (.int (3 : Int32)), .val (.int t0), .val (.int t1), .val (.int t2), .val (.int t3), .val (.ref a31), .val (.ref a35), .val (.ref a37), .unset, .unset]) rfl zk
    refine Rn.pu (T' := T40) (g' := (mkF m 163 #[.val (.int p0), .val (.int p1), .val (.int p2), .val (.int p3), .val (.int p4), .val (.int p5), .val (.int (3 : Int32)), .val (.int t0), .val (.int t1), .val (.int t2), .val (.int t3), .val (.ref a31), .val (.ref a35), .val (.ref a37), .unset, .unset] [(.ref a37)])) ?_ fun _ zk => XS.aload H40.here hx rfl (hb hby at_161) rfl rfl zk
    obtain ⟨_, T41, h41, H41, ⟨rfl, rfl⟩, -, st41⟩ := H40.callV (C := "com/example/vestline/vestline/Field") (hw _ (List.mem_of_getElem? (i := 50) rfl)) (hw _ (List.mem_of_getElem? (i := 51) rfl)) (hw _ (List.mem_of_getElem? (i := 53) rfl)) (hw _ (List.mem_of_getElem? (i := 52) rfl)) (by decide) (MetN.pay (W := 0) (c_text l ⟨hw, SC0, hz0, SF1, rf1, SU2, SU3, SU4⟩ a37 a35 t36 ([t0, t1, t2]) h40 H40.old G40_3 ((((S36.keep K37 nin0 nin0).keep K38 nin0 nin0).keep K39 nin0 nin0).keep K40 (ninS (adne (by omega)) nin0) (ninS (adne (by omega)) nin0)) (by simp)) (hw _ (List.mem_of_getElem? (i := 54) rfl)) (hw _ (List.mem_of_getElem? (i := 33) rfl)) (by decide) (by decide)) E40 (g := (mkF m 163 #[.val (.int p0), .val (.int p1), .val (.int p2), .val (.int p3), .val (.int p4), .val (.int p5), .val (.int (3 : Int32)), .val (.int t0), .val (.int t1), .val (.int t2), .val (.int t3), .val (.ref a31), .val (.ref a35), .val (.ref a37), .unset, .unset] [(.ref a37)])) rfl (by rw [hml]; rfl) (argsL := []) (rest := []) (lenOf pd___Ljava_lang_String_ rfl) rfl rfl (Nat.le_of_eq rfl) (hb hby at_163) (by decide) (by decide) all0
    refine Rn.pu (g' := (mkF m 166 #[.val (.int p0), .val (.int p1), .val (.int p2), .val (.int p3), .val (.int p4), .val (.int p5), .val (.int (3 : Int32)), .val (.int t0), .val (.int t1), .val (.int t2), .val (.int t3), .val (.ref a31), .val (.ref a35), .val (.ref a37), .unset, .unset] [(.ref a35)])) ?_ st41
    refine Rn.pu (T' := T41) (g' := (mkF m 168 #[.val (.int p0), .val (.int p1), .val (.int p2), .val (.int p3), .val (.int p4), .val (.int p5), .val (.int (3 : Int32)), .val (.int t0), .val (.int t1), .val (.int t2), .val (.int t3), .val (.ref a31), .val (.ref a35), .val (.ref a37), .val (.ref a35), .unset] [])) ?_ fun _ zk => XS.astore H41.here hx rfl (hb hby at_166) rfl rfl (l' := #[.val (.int p0), .val (.int p1), .val (.int p2), .val (.int p3), .val (.int p4), .val (.int p5), .val (.int (3 : Int32)), .val (.int t0), .val (.int t1), .val (.int t2), .val (.int t3), .val (.ref a31), .val (.ref a35), .val (.ref a37), .val (.ref a35), .unset]) rfl zk
    refine Rn.pu (T' := T41) (g' := (mkF m 170 #[.val (.int p0), .val (.int p1), .val (.int p2), .val (.int p3), .val (.int p4), .val (.int p5), .val (.int (3 : Int32)), .val (.int t0), .val (.int t1), .val (.int t2), .val (.int t3), .val (.ref a31), .val (.ref a35), .val (.ref a37), .val (.ref a35), .unset] [(.ref a35)])) ?_ fun _ zk => XS.aload H41.here hx rfl (hb hby at_168) rfl rfl zk
    refine Rn.pu (T' := T41) (g' := (mkF m 173 #[.val (.int p0), .val (.int p1), .val (.int p2), .val (.int p3), .val (.int p4), .val (.int p5), .val (.int (3 : Int32)), .val (.int t0), .val (.int t1), .val (.int t2), .val (.int t3), .val (.ref a31), .val (.ref a35), .val (.ref a37), .val (.ref a35), .unset] [])) ?_ fun _ zk => XS.ifnullNo H41.here hx rfl (hb hby at_170) rfl zk
    refine Rn.pu (T' := T41) (g' := (mkF m 175 #[.val (.int p0), .val (.int p1), .val (.int p2), .val (.int p3), .val (.int p4), .val (.int p5), .val (.int (3 : Int32)), .val (.int t0), .val (.int t1), .val (.int t2), .val (.int t3), .val (.ref a31), .val (.ref a35), .val (.ref a37), .val (.ref a35), .unset] [(.ref a35)])) ?_ fun _ zk => XS.aload H41.here hx rfl (hb hby at_173) rfl rfl zk
    obtain ⟨_, T42, h42, H42, ⟨rfl, rfl⟩, -, st42⟩ := H41.callV (C := "java/lang/String") (hw _ (List.mem_of_getElem? (i := 60) rfl)) (hw _ (List.mem_of_getElem? (i := 61) rfl)) (hw _ (List.mem_of_getElem? (i := 63) rfl)) (hw _ (List.mem_of_getElem? (i := 62) rfl)) (by decide) (payLen (W := 0) (hws_len hw) (hw _ (List.mem_of_getElem? (i := 3) rfl)) ((((S36.keep K37 nin0 nin0).keep K38 nin0 nin0).keep K39 nin0 nin0).keep K40 (ninS (adne (by omega)) nin0) (ninS (adne (by omega)) nin0)) (SC0.ext H41.old) hz0 (by decide) (by decide)) ((((S36.exa.keep K37).keep K38).keep K39).keep K40) (g := (mkF m 175 #[.val (.int p0), .val (.int p1), .val (.int p2), .val (.int p3), .val (.int p4), .val (.int p5), .val (.int (3 : Int32)), .val (.int t0), .val (.int t1), .val (.int t2), .val (.int t3), .val (.ref a31), .val (.ref a35), .val (.ref a37), .val (.ref a35), .unset] [(.ref a35)])) rfl (by rw [hml]; rfl) (argsL := []) (rest := []) (lenOf pd___I rfl) rfl rfl (Nat.le_of_eq rfl) (hb hby at_175) (by decide) (by decide) all0
    refine Rn.pu (g' := (mkF m 178 #[.val (.int p0), .val (.int p1), .val (.int p2), .val (.int p3), .val (.int p4), .val (.int p5), .val (.int (3 : Int32)), .val (.int t0), .val (.int t1), .val (.int t2), .val (.int t3), .val (.ref a31), .val (.ref a35), .val (.ref a37), .val (.ref a35), .unset] [(.int (Int32.ofNat ([t0, t1, t2]).length))])) ?_ st42
    refine Rn.pu (T' := T42) (g' := (mkF m 180 #[.val (.int p0), .val (.int p1), .val (.int p2), .val (.int p3), .val (.int p4), .val (.int p5), .val (.int (3 : Int32)), .val (.int t0), .val (.int t1), .val (.int t2), .val (.int t3), .val (.ref a31), .val (.ref a35), .val (.ref a37), .val (.ref a35), .unset] [(.int (3 : Int32)), (.int (Int32.ofNat ([t0, t1, t2]).length))])) ?_ fun _ zk => XS.iload H42.here hx rfl (hb hby at_178) rfl zk
    refine Rn.pu (T' := T42) (g' := (mkF m 185 #[.val (.int p0), .val (.int p1), .val (.int p2), .val (.int p3), .val (.int p4), .val (.int p5), .val (.int (3 : Int32)), .val (.int t0), .val (.int t1), .val (.int t2), .val (.int t3), .val (.ref a31), .val (.ref a35), .val (.ref a37), .val (.ref a35), .unset] [])) ?_ fun _ zk => XS.icmpYes H42.here hx rfl (pc0 := 180) (pc' := 185) rfl (hb hby at_180) rfl (c_eq_t rfl) (by decide) (by decide) zk
    refine Rn.pu (T' := T42) (g' := (mkF m 187 #[.val (.int p0), .val (.int p1), .val (.int p2), .val (.int p3), .val (.int p4), .val (.int p5), .val (.int (3 : Int32)), .val (.int t0), .val (.int t1), .val (.int t2), .val (.int t3), .val (.ref a31), .val (.ref a35), .val (.ref a37), .val (.ref a35), .unset] [(.ref a35)])) ?_ fun _ zk => XS.aload H42.here hx rfl (hb hby at_185) rfl rfl zk
    refine Rn.pu (T' := T42) (g' := (mkF m 188 #[.val (.int p0), .val (.int p1), .val (.int p2), .val (.int p3), .val (.int p4), .val (.int p5), .val (.int (3 : Int32)), .val (.int t0), .val (.int t1), .val (.int t2), .val (.int t3), .val (.ref a31), .val (.ref a35), .val (.ref a37), .val (.ref a35), .unset] [(.int (0 : Int32)), (.ref a35)])) ?_ fun _ zk => XS.iconst H42.here hx rfl (hb hby at_187) zk
    obtain ⟨_, T43, h43, H43, ⟨rfl, rfl⟩, -, st43⟩ := H42.callV (C := "java/lang/String") (hw _ (List.mem_of_getElem? (i := 70) rfl)) (hw _ (List.mem_of_getElem? (i := 71) rfl)) (hw _ (List.mem_of_getElem? (i := 73) rfl)) (hw _ (List.mem_of_getElem? (i := 72) rfl)) (by decide) (payChU (W := 0) l ⟨hw, SC0, hz0, SF1, rf1, SU2, SU3, SU4⟩ H42.old ((((S36.keep K37 nin0 nin0).keep K38 nin0 nin0).keep K39 nin0 nin0).keep K40 (ninS (adne (by omega)) nin0) (ninS (adne (by omega)) nin0)) (by simp) (i := 0) (by simp) rfl (by decide) (by decide)) ((((S36.exa.keep K37).keep K38).keep K39).keep K40) (g := (mkF m 188 #[.val (.int p0), .val (.int p1), .val (.int p2), .val (.int p3), .val (.int p4), .val (.int p5), .val (.int (3 : Int32)), .val (.int t0), .val (.int t1), .val (.int t2), .val (.int t3), .val (.ref a31), .val (.ref a35), .val (.ref a37), .val (.ref a35), .unset] [(.int (0 : Int32)), (.ref a35)])) rfl (by rw [hml]; rfl) (argsL := [(.int (0 : Int32))]) (rest := []) (lenOf pd__I_C rfl) rfl rfl (Nat.le_of_eq rfl) (hb hby at_188) (by decide) (by decide) all0
    refine Rn.pu (g' := (mkF m 191 #[.val (.int p0), .val (.int p1), .val (.int p2), .val (.int p3), .val (.int p4), .val (.int p5), .val (.int (3 : Int32)), .val (.int t0), .val (.int t1), .val (.int t2), .val (.int t3), .val (.ref a31), .val (.ref a35), .val (.ref a37), .val (.ref a35), .unset] [(.int t0)])) ?_ st43
    refine Rn.pu (T' := T43) (g' := (mkF m 193 #[.val (.int p0), .val (.int p1), .val (.int p2), .val (.int p3), .val (.int p4), .val (.int p5), .val (.int (3 : Int32)), .val (.int t0), .val (.int t1), .val (.int t2), .val (.int t3), .val (.ref a31), .val (.ref a35), .val (.ref a37), .val (.ref a35), .unset] [(.int t0), (.int t0)])) ?_ fun _ zk => XS.iload H43.here hx rfl (hb hby at_191) rfl zk
    refine Rn.pu (T' := T43) (g' := (mkF m 196 #[.val (.int p0), .val (.int p1), .val (.int p2), .val (.int p3), .val (.int p4), .val (.int p5), .val (.int (3 : Int32)), .val (.int t0), .val (.int t1), .val (.int t2), .val (.int t3), .val (.ref a31), .val (.ref a35), .val (.ref a37), .val (.ref a35), .unset] [])) ?_ fun _ zk => XS.icmpNo H43.here hx rfl (hb hby at_193) rfl (c_ne_f rfl) zk
    refine Rn.pu (T' := T43) (g' := (mkF m 197 #[.val (.int p0), .val (.int p1), .val (.int p2), .val (.int p3), .val (.int p4), .val (.int p5), .val (.int (3 : Int32)), .val (.int t0), .val (.int t1), .val (.int t2), .val (.int t3), .val (.ref a31), .val (.ref a35), .val (.ref a37), .val (.ref a35), .unset] [(.int (1 : Int32))])) ?_ fun _ zk => XS.iconst H43.here hx rfl (hb hby at_196) zk
    refine Rn.pu (T' := T43) (g' := (mkF m 201 #[.val (.int p0), .val (.int p1), .val (.int p2), .val (.int p3), .val (.int p4), .val (.int p5), .val (.int (3 : Int32)), .val (.int t0), .val (.int t1), .val (.int t2), .val (.int t3), .val (.ref a31), .val (.ref a35), .val (.ref a37), .val (.ref a35), .unset] [(.int (1 : Int32))])) ?_ fun _ zk => XS.goto H43.here hx rfl (pc0 := 197) (pc' := 201) rfl (hb hby at_197) (by decide) (by decide) zk
    refine Rn.pu (T' := T43) (g' := (mkF m 203 #[.val (.int p0), .val (.int p1), .val (.int p2), .val (.int p3), .val (.int p4), .val (.int p5), .val (.int (3 : Int32)), .val (.int t0), .val (.int t1), .val (.int t2), .val (.int t3), .val (.ref a31), .val (.ref a35), .val (.ref a37), .val (.ref a35), .val (.int (1 : Int32))] [])) ?_ fun _ zk => XS.istore H43.here hx rfl (hb hby at_201) rfl (l' := #[.val (.int p0), .val (.int p1), .val (.int p2), .val (.int p3), .val (.int p4), .val (.int p5), .val (.int (3 : Int32)), .val (.int t0), .val (.int t1), .val (.int t2), .val (.int t3), .val (.ref a31), .val (.ref a35), .val (.ref a37), .val (.ref a35), .val (.int (1 : Int32))]) rfl zk
    refine Rn.pu (T' := T43) (g' := (mkF m 205 #[.val (.int p0), .val (.int p1), .val (.int p2), .val (.int p3), .val (.int p4), .val (.int p5), .val (.int (3 : Int32)), .val (.int t0), .val (.int t1), .val (.int t2), .val (.int t3), .val (.ref a31), .val (.ref a35), .val (.ref a37), .val (.ref a35), .val (.int (1 : Int32))] [(.int (3 : Int32))])) ?_ fun _ zk => XS.iload H43.here hx rfl (hb hby at_203) rfl zk
    refine Rn.pu (T' := T43) (g' := (mkF m 206 #[.val (.int p0), .val (.int p1), .val (.int p2), .val (.int p3), .val (.int p4), .val (.int p5), .val (.int (3 : Int32)), .val (.int t0), .val (.int t1), .val (.int t2), .val (.int t3), .val (.ref a31), .val (.ref a35), .val (.ref a37), .val (.ref a35), .val (.int (1 : Int32))] [(.int (2 : Int32)), (.int (3 : Int32))])) ?_ fun _ zk => XS.iconst H43.here hx rfl (hb hby at_205) zk
    refine Rn.pu (T' := T43) (g' := (mkF m 209 #[.val (.int p0), .val (.int p1), .val (.int p2), .val (.int p3), .val (.int p4), .val (.int p5), .val (.int (3 : Int32)), .val (.int t0), .val (.int t1), .val (.int t2), .val (.int t3), .val (.ref a31), .val (.ref a35), .val (.ref a37), .val (.ref a35), .val (.int (1 : Int32))] [])) ?_ fun _ zk => XS.icmpNo H43.here hx rfl (hb hby at_206) rfl (c_lt_f (by decide)) zk
    refine Rn.pu (T' := T43) (g' := (mkF m 211 #[.val (.int p0), .val (.int p1), .val (.int p2), .val (.int p3), .val (.int p4), .val (.int p5), .val (.int (3 : Int32)), .val (.int t0), .val (.int t1), .val (.int t2), .val (.int t3), .val (.ref a31), .val (.ref a35), .val (.ref a37), .val (.ref a35), .val (.int (1 : Int32))] [(.int (1 : Int32))])) ?_ fun _ zk => XS.iload H43.here hx rfl (hb hby at_209) rfl zk
    refine Rn.pu (T' := T43) (g' := (mkF m 214 #[.val (.int p0), .val (.int p1), .val (.int p2), .val (.int p3), .val (.int p4), .val (.int p5), .val (.int (3 : Int32)), .val (.int t0), .val (.int t1), .val (.int t2), .val (.int t3), .val (.ref a31), .val (.ref a35), .val (.ref a37), .val (.ref a35), .val (.int (1 : Int32))] [])) ?_ fun _ zk => XS.ifNo H43.here hx rfl (hb hby at_211) rfl (z_eq_f (by decide)) zk
    refine Rn.pu (T' := T43) (g' := (mkF m 216 #[.val (.int p0), .val (.int p1), .val (.int p2), .val (.int p3), .val (.int p4), .val (.int p5), .val (.int (3 : Int32)), .val (.int t0), .val (.int t1), .val (.int t2), .val (.int t3), .val (.ref a31), .val (.ref a35), .val (.ref a37), .val (.ref a35), .val (.int (1 : Int32))] [(.ref a35)])) ?_ fun _ zk => XS.aload H43.here hx rfl (hb hby at_214) rfl rfl zk
    refine Rn.pu (T' := T43) (g' := (mkF m 217 #[.val (.int p0), .val (.int p1), .val (.int p2), .val (.int p3), .val (.int p4), .val (.int p5), .val (.int (3 : Int32)), .val (.int t0), .val (.int t1), .val (.int t2), .val (.int t3), .val (.ref a31), .val (.ref a35), .val (.ref a37), .val (.ref a35), .val (.int (1 : Int32))] [(.int (1 : Int32)), (.ref a35)])) ?_ fun _ zk => XS.iconst H43.here hx rfl (hb hby at_216) zk
    obtain ⟨_, T44, h44, H44, ⟨rfl, rfl⟩, -, st44⟩ := H43.callV (C := "java/lang/String") (hw _ (List.mem_of_getElem? (i := 70) rfl)) (hw _ (List.mem_of_getElem? (i := 71) rfl)) (hw _ (List.mem_of_getElem? (i := 73) rfl)) (hw _ (List.mem_of_getElem? (i := 72) rfl)) (by decide) (payChU (W := 0) l ⟨hw, SC0, hz0, SF1, rf1, SU2, SU3, SU4⟩ H43.old ((((S36.keep K37 nin0 nin0).keep K38 nin0 nin0).keep K39 nin0 nin0).keep K40 (ninS (adne (by omega)) nin0) (ninS (adne (by omega)) nin0)) (by simp) (i := 1) (by simp) rfl (by decide) (by decide)) ((((S36.exa.keep K37).keep K38).keep K39).keep K40) (g := (mkF m 217 #[.val (.int p0), .val (.int p1), .val (.int p2), .val (.int p3), .val (.int p4), .val (.int p5), .val (.int (3 : Int32)), .val (.int t0), .val (.int t1), .val (.int t2), .val (.int t3), .val (.ref a31), .val (.ref a35), .val (.ref a37), .val (.ref a35), .val (.int (1 : Int32))] [(.int (1 : Int32)), (.ref a35)])) rfl (by rw [hml]; rfl) (argsL := [(.int (1 : Int32))]) (rest := []) (lenOf pd__I_C rfl) rfl rfl (Nat.le_of_eq rfl) (hb hby at_217) (by decide) (by decide) all0
    refine Rn.pu (g' := (mkF m 220 #[.val (.int p0), .val (.int p1), .val (.int p2), .val (.int p3), .val (.int p4), .val (.int p5), .val (.int (3 : Int32)), .val (.int t0), .val (.int t1), .val (.int t2), .val (.int t3), .val (.ref a31), .val (.ref a35), .val (.ref a37), .val (.ref a35), .val (.int (1 : Int32))] [(.int t1)])) ?_ st44
    refine Rn.pu (T' := T44) (g' := (mkF m 222 #[.val (.int p0), .val (.int p1), .val (.int p2), .val (.int p3), .val (.int p4), .val (.int p5), .val (.int (3 : Int32)), .val (.int t0), .val (.int t1), .val (.int t2), .val (.int t3), .val (.ref a31), .val (.ref a35), .val (.ref a37), .val (.ref a35), .val (.int (1 : Int32))] [(.int t1), (.int t1)])) ?_ fun _ zk => XS.iload H44.here hx rfl (hb hby at_220) rfl zk
    refine Rn.pu (T' := T44) (g' := (mkF m 225 #[.val (.int p0), .val (.int p1), .val (.int p2), .val (.int p3), .val (.int p4), .val (.int p5), .val (.int (3 : Int32)), .val (.int t0), .val (.int t1), .val (.int t2), .val (.int t3), .val (.ref a31), .val (.ref a35), .val (.ref a37), .val (.ref a35), .val (.int (1 : Int32))] [])) ?_ fun _ zk => XS.icmpNo H44.here hx rfl (hb hby at_222) rfl (c_ne_f rfl) zk
    refine Rn.pu (T' := T44) (g' := (mkF m 226 #[.val (.int p0), .val (.int p1), .val (.int p2), .val (.int p3), .val (.int p4), .val (.int p5), .val (.int (3 : Int32)), .val (.int t0), .val (.int t1), .val (.int t2), .val (.int t3), .val (.ref a31), .val (.ref a35), .val (.ref a37), .val (.ref a35), .val (.int (1 : Int32))] [(.int (1 : Int32))])) ?_ fun _ zk => XS.iconst H44.here hx rfl (hb hby at_225) zk
    refine Rn.pu (T' := T44) (g' := (mkF m 230 #[.val (.int p0), .val (.int p1), .val (.int p2), .val (.int p3), .val (.int p4), .val (.int p5), .val (.int (3 : Int32)), .val (.int t0), .val (.int t1), .val (.int t2), .val (.int t3), .val (.ref a31), .val (.ref a35), .val (.ref a37), .val (.ref a35), .val (.int (1 : Int32))] [(.int (1 : Int32))])) ?_ fun _ zk => XS.goto H44.here hx rfl (pc0 := 226) (pc' := 230) rfl (hb hby at_226) (by decide) (by decide) zk
    refine Rn.pu (T' := T44) (g' := (mkF m 232 #[.val (.int p0), .val (.int p1), .val (.int p2), .val (.int p3), .val (.int p4), .val (.int p5), .val (.int (3 : Int32)), .val (.int t0), .val (.int t1), .val (.int t2), .val (.int t3), .val (.ref a31), .val (.ref a35), .val (.ref a37), .val (.ref a35), .val (.int (1 : Int32))] [])) ?_ fun _ zk => XS.istore H44.here hx rfl (hb hby at_230) rfl (l' := #[.val (.int p0), .val (.int p1), .val (.int p2), .val (.int p3), .val (.int p4), .val (.int p5), .val (.int (3 : Int32)), .val (.int t0), .val (.int t1), .val (.int t2), .val (.int t3), .val (.ref a31), .val (.ref a35), .val (.ref a37), .val (.ref a35), .val (.int (1 : Int32))]) rfl zk
    refine Rn.pu (T' := T44) (g' := (mkF m 234 #[.val (.int p0), .val (.int p1), .val (.int p2), .val (.int p3), .val (.int p4), .val (.int p5), .val (.int (3 : Int32)), .val (.int t0), .val (.int t1), .val (.int t2), .val (.int t3), .val (.ref a31), .val (.ref a35), .val (.ref a37), .val (.ref a35), .val (.int (1 : Int32))] [(.int (3 : Int32))])) ?_ fun _ zk => XS.iload H44.here hx rfl (hb hby at_232) rfl zk
    refine Rn.pu (T' := T44) (g' := (mkF m 235 #[.val (.int p0), .val (.int p1), .val (.int p2), .val (.int p3), .val (.int p4), .val (.int p5), .val (.int (3 : Int32)), .val (.int t0), .val (.int t1), .val (.int t2), .val (.int t3), .val (.ref a31), .val (.ref a35), .val (.ref a37), .val (.ref a35), .val (.int (1 : Int32))] [(.int (3 : Int32)), (.int (3 : Int32))])) ?_ fun _ zk => XS.iconst H44.here hx rfl (hb hby at_234) zk
    refine Rn.pu (T' := T44) (g' := (mkF m 238 #[.val (.int p0), .val (.int p1), .val (.int p2), .val (.int p3), .val (.int p4), .val (.int p5), .val (.int (3 : Int32)), .val (.int t0), .val (.int t1), .val (.int t2), .val (.int t3), .val (.ref a31), .val (.ref a35), .val (.ref a37), .val (.ref a35), .val (.int (1 : Int32))] [])) ?_ fun _ zk => XS.icmpNo H44.here hx rfl (hb hby at_235) rfl (c_lt_f (by decide)) zk
    refine Rn.pu (T' := T44) (g' := (mkF m 240 #[.val (.int p0), .val (.int p1), .val (.int p2), .val (.int p3), .val (.int p4), .val (.int p5), .val (.int (3 : Int32)), .val (.int t0), .val (.int t1), .val (.int t2), .val (.int t3), .val (.ref a31), .val (.ref a35), .val (.ref a37), .val (.ref a35), .val (.int (1 : Int32))] [(.int (1 : Int32))])) ?_ fun _ zk => XS.iload H44.here hx rfl (hb hby at_238) rfl zk
    refine Rn.pu (T' := T44) (g' := (mkF m 243 #[.val (.int p0), .val (.int p1), .val (.int p2), .val (.int p3), .val (.int p4), .val (.int p5), .val (.int (3 : Int32)), .val (.int t0), .val (.int t1), .val (.int t2), .val (.int t3), .val (.ref a31), .val (.ref a35), .val (.ref a37), .val (.ref a35), .val (.int (1 : Int32))] [])) ?_ fun _ zk => XS.ifNo H44.here hx rfl (hb hby at_240) rfl (z_eq_f (by decide)) zk
    refine Rn.pu (T' := T44) (g' := (mkF m 245 #[.val (.int p0), .val (.int p1), .val (.int p2), .val (.int p3), .val (.int p4), .val (.int p5), .val (.int (3 : Int32)), .val (.int t0), .val (.int t1), .val (.int t2), .val (.int t3), .val (.ref a31), .val (.ref a35), .val (.ref a37), .val (.ref a35), .val (.int (1 : Int32))] [(.ref a35)])) ?_ fun _ zk => XS.aload H44.here hx rfl (hb hby at_243) rfl rfl zk
    refine Rn.pu (T' := T44) (g' := (mkF m 246 #[.val (.int p0), .val (.int p1), .val (.int p2), .val (.int p3), .val (.int p4), .val (.int p5), .val (.int (3 : Int32)), .val (.int t0), .val (.int t1), .val (.int t2), .val (.int t3), .val (.ref a31), .val (.ref a35), .val (.ref a37), .val (.ref a35), .val (.int (1 : Int32))] [(.int (2 : Int32)), (.ref a35)])) ?_ fun _ zk => XS.iconst H44.here hx rfl (hb hby at_245) zk
    obtain ⟨_, T45, h45, H45, ⟨rfl, rfl⟩, -, st45⟩ := H44.callV (C := "java/lang/String") (hw _ (List.mem_of_getElem? (i := 70) rfl)) (hw _ (List.mem_of_getElem? (i := 71) rfl)) (hw _ (List.mem_of_getElem? (i := 73) rfl)) (hw _ (List.mem_of_getElem? (i := 72) rfl)) (by decide) (payChU (W := 0) l ⟨hw, SC0, hz0, SF1, rf1, SU2, SU3, SU4⟩ H44.old ((((S36.keep K37 nin0 nin0).keep K38 nin0 nin0).keep K39 nin0 nin0).keep K40 (ninS (adne (by omega)) nin0) (ninS (adne (by omega)) nin0)) (by simp) (i := 2) (by simp) rfl (by decide) (by decide)) ((((S36.exa.keep K37).keep K38).keep K39).keep K40) (g := (mkF m 246 #[.val (.int p0), .val (.int p1), .val (.int p2), .val (.int p3), .val (.int p4), .val (.int p5), .val (.int (3 : Int32)), .val (.int t0), .val (.int t1), .val (.int t2), .val (.int t3), .val (.ref a31), .val (.ref a35), .val (.ref a37), .val (.ref a35), .val (.int (1 : Int32))] [(.int (2 : Int32)), (.ref a35)])) rfl (by rw [hml]; rfl) (argsL := [(.int (2 : Int32))]) (rest := []) (lenOf pd__I_C rfl) rfl rfl (Nat.le_of_eq rfl) (hb hby at_246) (by decide) (by decide) all0
    refine Rn.pu (g' := (mkF m 249 #[.val (.int p0), .val (.int p1), .val (.int p2), .val (.int p3), .val (.int p4), .val (.int p5), .val (.int (3 : Int32)), .val (.int t0), .val (.int t1), .val (.int t2), .val (.int t3), .val (.ref a31), .val (.ref a35), .val (.ref a37), .val (.ref a35), .val (.int (1 : Int32))] [(.int t2)])) ?_ st45
    refine Rn.pu (T' := T45) (g' := (mkF m 251 #[.val (.int p0), .val (.int p1), .val (.int p2), .val (.int p3), .val (.int p4), .val (.int p5), .val (.int (3 : Int32)), .val (.int t0), .val (.int t1), .val (.int t2), .val (.int t3), .val (.ref a31), .val (.ref a35), .val (.ref a37), .val (.ref a35), .val (.int (1 : Int32))] [(.int t2), (.int t2)])) ?_ fun _ zk => XS.iload H45.here hx rfl (hb hby at_249) rfl zk
    refine Rn.pu (T' := T45) (g' := (mkF m 254 #[.val (.int p0), .val (.int p1), .val (.int p2), .val (.int p3), .val (.int p4), .val (.int p5), .val (.int (3 : Int32)), .val (.int t0), .val (.int t1), .val (.int t2), .val (.int t3), .val (.ref a31), .val (.ref a35), .val (.ref a37), .val (.ref a35), .val (.int (1 : Int32))] [])) ?_ fun _ zk => XS.icmpNo H45.here hx rfl (hb hby at_251) rfl (c_ne_f rfl) zk
    refine Rn.pu (T' := T45) (g' := (mkF m 255 #[.val (.int p0), .val (.int p1), .val (.int p2), .val (.int p3), .val (.int p4), .val (.int p5), .val (.int (3 : Int32)), .val (.int t0), .val (.int t1), .val (.int t2), .val (.int t3), .val (.ref a31), .val (.ref a35), .val (.ref a37), .val (.ref a35), .val (.int (1 : Int32))] [(.int (1 : Int32))])) ?_ fun _ zk => XS.iconst H45.here hx rfl (hb hby at_254) zk
    refine Rn.pu (T' := T45) (g' := (mkF m 259 #[.val (.int p0), .val (.int p1), .val (.int p2), .val (.int p3), .val (.int p4), .val (.int p5), .val (.int (3 : Int32)), .val (.int t0), .val (.int t1), .val (.int t2), .val (.int t3), .val (.ref a31), .val (.ref a35), .val (.ref a37), .val (.ref a35), .val (.int (1 : Int32))] [(.int (1 : Int32))])) ?_ fun _ zk => XS.goto H45.here hx rfl (pc0 := 255) (pc' := 259) rfl (hb hby at_255) (by decide) (by decide) zk
    refine Rn.pu (T' := T45) (g' := (mkF m 261 #[.val (.int p0), .val (.int p1), .val (.int p2), .val (.int p3), .val (.int p4), .val (.int p5), .val (.int (3 : Int32)), .val (.int t0), .val (.int t1), .val (.int t2), .val (.int t3), .val (.ref a31), .val (.ref a35), .val (.ref a37), .val (.ref a35), .val (.int (1 : Int32))] [])) ?_ fun _ zk => XS.istore H45.here hx rfl (hb hby at_259) rfl (l' := #[.val (.int p0), .val (.int p1), .val (.int p2), .val (.int p3), .val (.int p4), .val (.int p5), .val (.int (3 : Int32)), .val (.int t0), .val (.int t1), .val (.int t2), .val (.int t3), .val (.ref a31), .val (.ref a35), .val (.ref a37), .val (.ref a35), .val (.int (1 : Int32))]) rfl zk
    refine Rn.pu (T' := T45) (g' := (mkF m 263 #[.val (.int p0), .val (.int p1), .val (.int p2), .val (.int p3), .val (.int p4), .val (.int p5), .val (.int (3 : Int32)), .val (.int t0), .val (.int t1), .val (.int t2), .val (.int t3), .val (.ref a31), .val (.ref a35), .val (.ref a37), .val (.ref a35), .val (.int (1 : Int32))] [(.int (3 : Int32))])) ?_ fun _ zk => XS.iload H45.here hx rfl (hb hby at_261) rfl zk
    refine Rn.pu (T' := T45) (g' := (mkF m 264 #[.val (.int p0), .val (.int p1), .val (.int p2), .val (.int p3), .val (.int p4), .val (.int p5), .val (.int (3 : Int32)), .val (.int t0), .val (.int t1), .val (.int t2), .val (.int t3), .val (.ref a31), .val (.ref a35), .val (.ref a37), .val (.ref a35), .val (.int (1 : Int32))] [(.int (4 : Int32)), (.int (3 : Int32))])) ?_ fun _ zk => XS.iconst H45.here hx rfl (hb hby at_263) zk
    refine Rn.pu (T' := T45) (g' := (mkF m 290 #[.val (.int p0), .val (.int p1), .val (.int p2), .val (.int p3), .val (.int p4), .val (.int p5), .val (.int (3 : Int32)), .val (.int t0), .val (.int t1), .val (.int t2), .val (.int t3), .val (.ref a31), .val (.ref a35), .val (.ref a37), .val (.ref a35), .val (.int (1 : Int32))] [])) ?_ fun _ zk => XS.icmpYes H45.here hx rfl (pc0 := 264) (pc' := 290) rfl (hb hby at_264) rfl (c_lt_t (by decide)) (by decide) (by decide) zk
    refine Rn.pu (T' := T45) (g' := (mkF m 292 #[.val (.int p0), .val (.int p1), .val (.int p2), .val (.int p3), .val (.int p4), .val (.int p5), .val (.int (3 : Int32)), .val (.int t0), .val (.int t1), .val (.int t2), .val (.int t3), .val (.ref a31), .val (.ref a35), .val (.ref a37), .val (.ref a35), .val (.int (1 : Int32))] [(.int (1 : Int32))])) ?_ fun _ zk => XS.iload H45.here hx rfl (hb hby at_290) rfl zk
    refine Rn.pu (T' := T45) (g' := (mkF m 295 #[.val (.int p0), .val (.int p1), .val (.int p2), .val (.int p3), .val (.int p4), .val (.int p5), .val (.int (3 : Int32)), .val (.int t0), .val (.int t1), .val (.int t2), .val (.int t3), .val (.ref a31), .val (.ref a35), .val (.ref a37), .val (.ref a35), .val (.int (1 : Int32))] [])) ?_ fun _ zk => XS.ifNo H45.here hx rfl (hb hby at_292) rfl (z_eq_f (by decide)) zk
    refine Rn.pu (T' := T45) (g' := (mkF m 297 #[.val (.int p0), .val (.int p1), .val (.int p2), .val (.int p3), .val (.int p4), .val (.int p5), .val (.int (3 : Int32)), .val (.int t0), .val (.int t1), .val (.int t2), .val (.int t3), .val (.ref a31), .val (.ref a35), .val (.ref a37), .val (.ref a35), .val (.int (1 : Int32))] [(.ref a35)])) ?_ fun _ zk => XS.aload H45.here hx rfl (hb hby at_295) rfl rfl zk
    refine Rn.pu (T' := T45) (g' := (mkF m 299 #[.val (.int p0), .val (.int p1), .val (.int p2), .val (.int p3), .val (.int p4), .val (.int p5), .val (.int (3 : Int32)), .val (.int t0), .val (.int t1), .val (.int t2), .val (.int t3), .val (.ref a31), .val (.ref a35), .val (.ref a37), .val (.ref a35), .val (.int (1 : Int32))] [(.ref a37), (.ref a35)])) ?_ fun _ zk => XS.aload H45.here hx rfl (hb hby at_297) rfl rfl zk
    obtain ⟨_, T46, h46, H46, ⟨rfl, rfl⟩, -, st46⟩ := H45.callV (C := "com/example/vestline/vestline/Field") (hw _ (List.mem_of_getElem? (i := 92) rfl)) (hw _ (List.mem_of_getElem? (i := 93) rfl)) (hw _ (List.mem_of_getElem? (i := 95) rfl)) (hw _ (List.mem_of_getElem? (i := 94) rfl)) (by decide) (MetN.pay (W := 1) (c_prn l ⟨hw, SC0, hz0, SF1, rf1, SU2, SU3, SU4⟩ a37 a35 h40 H45.old G40_3) (hw _ (List.mem_of_getElem? (i := 96) rfl)) (hw _ (List.mem_of_getElem? (i := 33) rfl)) (by decide) (by decide)) E40 (g := (mkF m 299 #[.val (.int p0), .val (.int p1), .val (.int p2), .val (.int p3), .val (.int p4), .val (.int p5), .val (.int (3 : Int32)), .val (.int t0), .val (.int t1), .val (.int t2), .val (.int t3), .val (.ref a31), .val (.ref a35), .val (.ref a37), .val (.ref a35), .val (.int (1 : Int32))] [(.ref a37), (.ref a35)])) rfl (by rw [hml]; rfl) (argsL := []) (rest := [(.ref a35)]) (lenOf pd___Ljava_lang_String_ rfl) rfl rfl (Nat.le_of_eq rfl) (hb hby at_299) (by decide) (by decide) all0
    refine Rn.pu (g' := (mkF m 302 #[.val (.int p0), .val (.int p1), .val (.int p2), .val (.int p3), .val (.int p4), .val (.int p5), .val (.int (3 : Int32)), .val (.int t0), .val (.int t1), .val (.int t2), .val (.int t3), .val (.ref a31), .val (.ref a35), .val (.ref a37), .val (.ref a35), .val (.int (1 : Int32))] [(.ref a35), (.ref a35)])) ?_ st46
    obtain ⟨_, T47, h47, H47, ⟨rfl, rfl⟩, -, st47⟩ := H46.callV (C := "java/lang/String") (hw _ (List.mem_of_getElem? (i := 97) rfl)) (hw _ (List.mem_of_getElem? (i := 98) rfl)) (hw _ (List.mem_of_getElem? (i := 100) rfl)) (hw _ (List.mem_of_getElem? (i := 99) rfl)) (by decide) (MetN.pay (W := 0) (c_same l ⟨hw, SC0, hz0, SF1, rf1, SU2, SU3, SU4⟩ a35 h40 H46.old) (hw _ (List.mem_of_getElem? (i := 101) rfl)) (hw _ (List.mem_of_getElem? (i := 4) rfl)) (by decide) (by decide)) ((((S36.exa.keep K37).keep K38).keep K39).keep K40) (g := (mkF m 302 #[.val (.int p0), .val (.int p1), .val (.int p2), .val (.int p3), .val (.int p4), .val (.int p5), .val (.int (3 : Int32)), .val (.int t0), .val (.int t1), .val (.int t2), .val (.int t3), .val (.ref a31), .val (.ref a35), .val (.ref a37), .val (.ref a35), .val (.int (1 : Int32))] [(.ref a35), (.ref a35)])) rfl (by rw [hml]; rfl) (argsL := [(.ref a35)]) (rest := []) (lenOf pd__Ljava_lang_Object__Z rfl) rfl rfl (Nat.le_of_eq rfl) (hb hby at_302) (by decide) (by decide) all0
    refine Rn.pu (g' := (mkF m 305 #[.val (.int p0), .val (.int p1), .val (.int p2), .val (.int p3), .val (.int p4), .val (.int p5), .val (.int (3 : Int32)), .val (.int t0), .val (.int t1), .val (.int t2), .val (.int t3), .val (.ref a31), .val (.ref a35), .val (.ref a37), .val (.ref a35), .val (.int (1 : Int32))] [(.int (1 : Int32))])) ?_ st47
    refine Rn.pu (T' := T47) (g' := (mkF m 308 #[.val (.int p0), .val (.int p1), .val (.int p2), .val (.int p3), .val (.int p4), .val (.int p5), .val (.int (3 : Int32)), .val (.int t0), .val (.int t1), .val (.int t2), .val (.int t3), .val (.ref a31), .val (.ref a35), .val (.ref a37), .val (.ref a35), .val (.int (1 : Int32))] [])) ?_ fun _ zk => XS.ifNo H47.here hx rfl (hb hby at_305) rfl (z_eq_f (by decide)) zk
    refine Rn.pu (T' := T47) (g' := (mkF m 310 #[.val (.int p0), .val (.int p1), .val (.int p2), .val (.int p3), .val (.int p4), .val (.int p5), .val (.int (3 : Int32)), .val (.int t0), .val (.int t1), .val (.int t2), .val (.int t3), .val (.ref a31), .val (.ref a35), .val (.ref a37), .val (.ref a35), .val (.int (1 : Int32))] [(.ref a37)])) ?_ fun _ zk => XS.aload H47.here hx rfl (hb hby at_308) rfl rfl zk
    obtain ⟨_, T48, h48, H48, ⟨rfl, rfl⟩, -, st48⟩ := H47.callV (C := "com/example/vestline/vestline/Field") (hw _ (List.mem_of_getElem? (i := 102) rfl)) (hw _ (List.mem_of_getElem? (i := 103) rfl)) (hw _ (List.mem_of_getElem? (i := 105) rfl)) (hw _ (List.mem_of_getElem? (i := 104) rfl)) (by decide) (MetN.pay (W := 0) (c_emp l ⟨hw, SC0, hz0, SF1, rf1, SU2, SU3, SU4⟩ a37 a35 t36 ([t0, t1, t2]) h40 H47.old G40_3 ((((S36.keep K37 nin0 nin0).keep K38 nin0 nin0).keep K39 nin0 nin0).keep K40 (ninS (adne (by omega)) nin0) (ninS (adne (by omega)) nin0)) (by simp)) (hw _ (List.mem_of_getElem? (i := 106) rfl)) (hw _ (List.mem_of_getElem? (i := 33) rfl)) (by decide) (by decide)) E40 (g := (mkF m 310 #[.val (.int p0), .val (.int p1), .val (.int p2), .val (.int p3), .val (.int p4), .val (.int p5), .val (.int (3 : Int32)), .val (.int t0), .val (.int t1), .val (.int t2), .val (.int t3), .val (.ref a31), .val (.ref a35), .val (.ref a37), .val (.ref a35), .val (.int (1 : Int32))] [(.ref a37)])) rfl (by rw [hml]; rfl) (argsL := []) (rest := []) (lenOf pd___Z rfl) rfl rfl (Nat.le_of_eq rfl) (hb hby at_310) (by decide) (by decide) all0
    refine Rn.pu (g' := (mkF m 313 #[.val (.int p0), .val (.int p1), .val (.int p2), .val (.int p3), .val (.int p4), .val (.int p5), .val (.int (3 : Int32)), .val (.int t0), .val (.int t1), .val (.int t2), .val (.int t3), .val (.ref a31), .val (.ref a35), .val (.ref a37), .val (.ref a35), .val (.int (1 : Int32))] [(.int (0 : Int32))])) ?_ st48
    refine Rn.pu (T' := T48) (g' := (mkF m 316 #[.val (.int p0), .val (.int p1), .val (.int p2), .val (.int p3), .val (.int p4), .val (.int p5), .val (.int (3 : Int32)), .val (.int t0), .val (.int t1), .val (.int t2), .val (.int t3), .val (.ref a31), .val (.ref a35), .val (.ref a37), .val (.ref a35), .val (.int (1 : Int32))] [])) ?_ fun _ zk => XS.ifNo H48.here hx rfl (hb hby at_313) rfl (z_ne_f rfl) zk
    refine Rn.pu (T' := T48) (g' := (mkF m 317 #[.val (.int p0), .val (.int p1), .val (.int p2), .val (.int p3), .val (.int p4), .val (.int p5), .val (.int (3 : Int32)), .val (.int t0), .val (.int t1), .val (.int t2), .val (.int t3), .val (.ref a31), .val (.ref a35), .val (.ref a37), .val (.ref a35), .val (.int (1 : Int32))] [(.int (1 : Int32))])) ?_ fun _ zk => XS.iconst H48.here hx rfl (hb hby at_316) zk
    refine Rn.pu (T' := T48) (g' := (mkF m 321 #[.val (.int p0), .val (.int p1), .val (.int p2), .val (.int p3), .val (.int p4), .val (.int p5), .val (.int (3 : Int32)), .val (.int t0), .val (.int t1), .val (.int t2), .val (.int t3), .val (.ref a31), .val (.ref a35), .val (.ref a37), .val (.ref a35), .val (.int (1 : Int32))] [(.int (1 : Int32))])) ?_ fun _ zk => XS.goto H48.here hx rfl (pc0 := 317) (pc' := 321) rfl (hb hby at_317) (by decide) (by decide) zk
    exact H48.retS ends_W hlk (t := .boolean) hret (by simp) (hb hby at_321) (by decide) (by decide) (fun _ q => nomatch q) rfl
  ·
    refine Rn.pu (T' := T0) (g' := (mkF m 39 #[.val (.int p0), .val (.int p1), .val (.int p2), .val (.int p3), .val (.int p4), .val (.int p5), .val (.int (4 : Int32)), .val (.int t0), .val (.int t1), .val (.int t2), .val (.int t3), .unset, .unset, .unset, .unset, .unset] [(.int (1 : Int32)), (.int (4 : Int32))])) ?_ fun _ zk => XS.iconst H0.here hx rfl (hb hby at_38) zk
    refine Rn.pu (T' := T0) (g' := (mkF m 55 #[.val (.int p0), .val (.int p1), .val (.int p2), .val (.int p3), .val (.int p4), .val (.int p5), .val (.int (4 : Int32)), .val (.int t0), .val (.int t1), .val (.int t2), .val (.int t3), .unset, .unset, .unset, .unset, .unset] [])) ?_ fun _ zk => XS.icmpYes H0.here hx rfl (pc0 := 39) (pc' := 55) rfl (hb hby at_39) rfl (c_ne_t (by decide)) (by decide) (by decide) zk
    refine Rn.pu (T' := T0) (g' := (mkF m 57 #[.val (.int p0), .val (.int p1), .val (.int p2), .val (.int p3), .val (.int p4), .val (.int p5), .val (.int (4 : Int32)), .val (.int t0), .val (.int t1), .val (.int t2), .val (.int t3), .unset, .unset, .unset, .unset, .unset] [(.int (4 : Int32))])) ?_ fun _ zk => XS.iload H0.here hx rfl (hb hby at_55) rfl zk
    refine Rn.pu (T' := T0) (g' := (mkF m 58 #[.val (.int p0), .val (.int p1), .val (.int p2), .val (.int p3), .val (.int p4), .val (.int p5), .val (.int (4 : Int32)), .val (.int t0), .val (.int t1), .val (.int t2), .val (.int t3), .unset, .unset, .unset, .unset, .unset] [(.int (2 : Int32)), (.int (4 : Int32))])) ?_ fun _ zk => XS.iconst H0.here hx rfl (hb hby at_57) zk
    refine Rn.pu (T' := T0) (g' := (mkF m 79 #[.val (.int p0), .val (.int p1), .val (.int p2), .val (.int p3), .val (.int p4), .val (.int p5), .val (.int (4 : Int32)), .val (.int t0), .val (.int t1), .val (.int t2), .val (.int t3), .unset, .unset, .unset, .unset, .unset] [])) ?_ fun _ zk => XS.icmpYes H0.here hx rfl (pc0 := 58) (pc' := 79) rfl (hb hby at_58) rfl (c_ne_t (by decide)) (by decide) (by decide) zk
    refine Rn.pu (T' := T0) (g' := (mkF m 81 #[.val (.int p0), .val (.int p1), .val (.int p2), .val (.int p3), .val (.int p4), .val (.int p5), .val (.int (4 : Int32)), .val (.int t0), .val (.int t1), .val (.int t2), .val (.int t3), .unset, .unset, .unset, .unset, .unset] [(.int (4 : Int32))])) ?_ fun _ zk => XS.iload H0.here hx rfl (hb hby at_79) rfl zk
    refine Rn.pu (T' := T0) (g' := (mkF m 82 #[.val (.int p0), .val (.int p1), .val (.int p2), .val (.int p3), .val (.int p4), .val (.int p5), .val (.int (4 : Int32)), .val (.int t0), .val (.int t1), .val (.int t2), .val (.int t3), .unset, .unset, .unset, .unset, .unset] [(.int (3 : Int32)), (.int (4 : Int32))])) ?_ fun _ zk => XS.iconst H0.here hx rfl (hb hby at_81) zk
    refine Rn.pu (T' := T0) (g' := (mkF m 108 #[.val (.int p0), .val (.int p1), .val (.int p2), .val (.int p3), .val (.int p4), .val (.int p5), .val (.int (4 : Int32)), .val (.int t0), .val (.int t1), .val (.int t2), .val (.int t3), .unset, .unset, .unset, .unset, .unset] [])) ?_ fun _ zk => XS.icmpYes H0.here hx rfl (pc0 := 82) (pc' := 108) rfl (hb hby at_82) rfl (c_ne_t (by decide)) (by decide) (by decide) zk
    refine Rn.pu (T' := T0) (g' := (mkF m 109 #[.val (.int p0), .val (.int p1), .val (.int p2), .val (.int p3), .val (.int p4), .val (.int p5), .val (.int (4 : Int32)), .val (.int t0), .val (.int t1), .val (.int t2), .val (.int t3), .unset, .unset, .unset, .unset, .unset] [(.int (4 : Int32))])) ?_ fun _ zk => XS.iconst H0.here hx rfl (hb hby at_108) zk
    obtain ⟨a49, k49, T49, h49, e49, H49, K49, A49, st49⟩ := H0.newP (aty := .char) (hw _ (List.mem_of_getElem? (i := 1) rfl)) (g := (mkF m 109 #[.val (.int p0), .val (.int p1), .val (.int p2), .val (.int p3), .val (.int p4), .val (.int p5), .val (.int (4 : Int32)), .val (.int t0), .val (.int t1), .val (.int t2), .val (.int t3), .unset, .unset, .unset, .unset, .unset] [(.int (4 : Int32))])) rfl (hb hby at_109) rfl (by decide) (cap := 4) (by decide) (by decide) (by decide) (by decide)
    have zh49 := K49.1
    have l49 := natlt (A49).lt
    have g49 : s.heap.size ≤ a49 := by omega
    refine Rn.pu (g' := (mkF m 111 #[.val (.int p0), .val (.int p1), .val (.int p2), .val (.int p3), .val (.int p4), .val (.int p5), .val (.int (4 : Int32)), .val (.int t0), .val (.int t1), .val (.int t2), .val (.int t3), .unset, .unset, .unset, .unset, .unset] [(.ref a49)])) ?_ st49
    refine Rn.pu (T' := T49) (g' := (mkF m 112 #[.val (.int p0), .val (.int p1), .val (.int p2), .val (.int p3), .val (.int p4), .val (.int p5), .val (.int (4 : Int32)), .val (.int t0), .val (.int t1), .val (.int t2), .val (.int t3), .unset, .unset, .unset, .unset, .unset] [(.ref a49), (.ref a49)])) ?_ fun _ zk => XS.dup H49.here hx rfl (hb hby at_111) rfl rfl zk
    refine Rn.pu (T' := T49) (g' := (mkF m 113 #[.val (.int p0), .val (.int p1), .val (.int p2), .val (.int p3), .val (.int p4), .val (.int p5), .val (.int (4 : Int32)), .val (.int t0), .val (.int t1), .val (.int t2), .val (.int t3), .unset, .unset, .unset, .unset, .unset] [(.int (0 : Int32)), (.ref a49), (.ref a49)])) ?_ fun _ zk => XS.iconst H49.here hx rfl (hb hby at_112) zk
    refine Rn.pu (T' := T49) (g' := (mkF m 115 #[.val (.int p0), .val (.int p1), .val (.int p2), .val (.int p3), .val (.int p4), .val (.int p5), .val (.int (4 : Int32)), .val (.int t0), .val (.int t1), .val (.int t2), .val (.int t3), .unset, .unset, .unset, .unset, .unset] [(.int t0), (.int (0 : Int32)), (.ref a49), (.ref a49)])) ?_ fun _ zk => XS.iload H49.here hx rfl (hb hby at_113) rfl zk
    obtain ⟨T50, h50, H50, K50, A50, st50⟩ := H49.stC A49 (by decide) rfl (Or.inr (by omega)) (g := (mkF m 115 #[.val (.int p0), .val (.int p1), .val (.int p2), .val (.int p3), .val (.int p4), .val (.int p5), .val (.int (4 : Int32)), .val (.int t0), .val (.int t1), .val (.int t2), .val (.int t3), .unset, .unset, .unset, .unset, .unset] [(.int t0), (.int (0 : Int32)), (.ref a49), (.ref a49)])) rfl rfl (hb hby at_115)
    have zh50 := K50.1
    refine Rn.pu (g' := (mkF m 116 #[.val (.int p0), .val (.int p1), .val (.int p2), .val (.int p3), .val (.int p4), .val (.int p5), .val (.int (4 : Int32)), .val (.int t0), .val (.int t1), .val (.int t2), .val (.int t3), .unset, .unset, .unset, .unset, .unset] [(.ref a49)])) ?_ st50
    refine Rn.pu (T' := T50) (g' := (mkF m 117 #[.val (.int p0), .val (.int p1), .val (.int p2), .val (.int p3), .val (.int p4), .val (.int p5), .val (.int (4 : Int32)), .val (.int t0), .val (.int t1), .val (.int t2), .val (.int t3), .unset, .unset, .unset, .unset, .unset] [(.ref a49), (.ref a49)])) ?_ fun _ zk => XS.dup H50.here hx rfl (hb hby at_116) rfl rfl zk
    refine Rn.pu (T' := T50) (g' := (mkF m 118 #[.val (.int p0), .val (.int p1), .val (.int p2), .val (.int p3), .val (.int p4), .val (.int p5), .val (.int (4 : Int32)), .val (.int t0), .val (.int t1), .val (.int t2), .val (.int t3), .unset, .unset, .unset, .unset, .unset] [(.int (1 : Int32)), (.ref a49), (.ref a49)])) ?_ fun _ zk => XS.iconst H50.here hx rfl (hb hby at_117) zk
    refine Rn.pu (T' := T50) (g' := (mkF m 120 #[.val (.int p0), .val (.int p1), .val (.int p2), .val (.int p3), .val (.int p4), .val (.int p5), .val (.int (4 : Int32)), .val (.int t0), .val (.int t1), .val (.int t2), .val (.int t3), .unset, .unset, .unset, .unset, .unset] [(.int t1), (.int (1 : Int32)), (.ref a49), (.ref a49)])) ?_ fun _ zk => XS.iload H50.here hx rfl (hb hby at_118) rfl zk
    obtain ⟨T51, h51, H51, K51, A51, st51⟩ := H50.stC A50 (by decide) rfl (Or.inr (by omega)) (g := (mkF m 120 #[.val (.int p0), .val (.int p1), .val (.int p2), .val (.int p3), .val (.int p4), .val (.int p5), .val (.int (4 : Int32)), .val (.int t0), .val (.int t1), .val (.int t2), .val (.int t3), .unset, .unset, .unset, .unset, .unset] [(.int t1), (.int (1 : Int32)), (.ref a49), (.ref a49)])) rfl rfl (hb hby at_120)
    have zh51 := K51.1
    refine Rn.pu (g' := (mkF m 121 #[.val (.int p0), .val (.int p1), .val (.int p2), .val (.int p3), .val (.int p4), .val (.int p5), .val (.int (4 : Int32)), .val (.int t0), .val (.int t1), .val (.int t2), .val (.int t3), .unset, .unset, .unset, .unset, .unset] [(.ref a49)])) ?_ st51
    refine Rn.pu (T' := T51) (g' := (mkF m 122 #[.val (.int p0), .val (.int p1), .val (.int p2), .val (.int p3), .val (.int p4), .val (.int p5), .val (.int (4 : Int32)), .val (.int t0), .val (.int t1), .val (.int t2), .val (.int t3), .unset, .unset, .unset, .unset, .unset] [(.ref a49), (.ref a49)])) ?_ fun _ zk => XS.dup H51.here hx rfl (hb hby at_121) rfl rfl zk
    refine Rn.pu (T' := T51) (g' := (mkF m 123 #[.val (.int p0), .val (.int p1), .val (.int p2), .val (.int p3), .val (.int p4), .val (.int p5), .val (.int (4 : Int32)), .val (.int t0), .val (.int t1), .val (.int t2), .val (.int t3), .unset, .unset, .unset, .unset, .unset] [(.int (2 : Int32)), (.ref a49), (.ref a49)])) ?_ fun _ zk => XS.iconst H51.here hx rfl (hb hby at_122) zk
    refine Rn.pu (T' := T51) (g' := (mkF m 125 #[.val (.int p0), .val (.int p1), .val (.int p2), .val (.int p3), .val (.int p4), .val (.int p5), .val (.int (4 : Int32)), .val (.int t0), .val (.int t1), .val (.int t2), .val (.int t3), .unset, .unset, .unset, .unset, .unset] [(.int t2), (.int (2 : Int32)), (.ref a49), (.ref a49)])) ?_ fun _ zk => XS.iload H51.here hx rfl (hb hby at_123) rfl zk
    obtain ⟨T52, h52, H52, K52, A52, st52⟩ := H51.stC A51 (by decide) rfl (Or.inr (by omega)) (g := (mkF m 125 #[.val (.int p0), .val (.int p1), .val (.int p2), .val (.int p3), .val (.int p4), .val (.int p5), .val (.int (4 : Int32)), .val (.int t0), .val (.int t1), .val (.int t2), .val (.int t3), .unset, .unset, .unset, .unset, .unset] [(.int t2), (.int (2 : Int32)), (.ref a49), (.ref a49)])) rfl rfl (hb hby at_125)
    have zh52 := K52.1
    refine Rn.pu (g' := (mkF m 126 #[.val (.int p0), .val (.int p1), .val (.int p2), .val (.int p3), .val (.int p4), .val (.int p5), .val (.int (4 : Int32)), .val (.int t0), .val (.int t1), .val (.int t2), .val (.int t3), .unset, .unset, .unset, .unset, .unset] [(.ref a49)])) ?_ st52
    refine Rn.pu (T' := T52) (g' := (mkF m 127 #[.val (.int p0), .val (.int p1), .val (.int p2), .val (.int p3), .val (.int p4), .val (.int p5), .val (.int (4 : Int32)), .val (.int t0), .val (.int t1), .val (.int t2), .val (.int t3), .unset, .unset, .unset, .unset, .unset] [(.ref a49), (.ref a49)])) ?_ fun _ zk => XS.dup H52.here hx rfl (hb hby at_126) rfl rfl zk
    refine Rn.pu (T' := T52) (g' := (mkF m 128 #[.val (.int p0), .val (.int p1), .val (.int p2), .val (.int p3), .val (.int p4), .val (.int p5), .val (.int (4 : Int32)), .val (.int t0), .val (.int t1), .val (.int t2), .val (.int t3), .unset, .unset, .unset, .unset, .unset] [(.int (3 : Int32)), (.ref a49), (.ref a49)])) ?_ fun _ zk => XS.iconst H52.here hx rfl (hb hby at_127) zk
    refine Rn.pu (T' := T52) (g' := (mkF m 130 #[.val (.int p0), .val (.int p1), .val (.int p2), .val (.int p3), .val (.int p4), .val (.int p5), .val (.int (4 : Int32)), .val (.int t0), .val (.int t1), .val (.int t2), .val (.int t3), .unset, .unset, .unset, .unset, .unset] [(.int t3), (.int (3 : Int32)), (.ref a49), (.ref a49)])) ?_ fun _ zk => XS.iload H52.here hx rfl (hb hby at_128) rfl zk
    obtain ⟨T53, h53, H53, K53, A53, st53⟩ := H52.stC A52 (by decide) rfl (Or.inr (by omega)) (g := (mkF m 130 #[.val (.int p0), .val (.int p1), .val (.int p2), .val (.int p3), .val (.int p4), .val (.int p5), .val (.int (4 : Int32)), .val (.int t0), .val (.int t1), .val (.int t2), .val (.int t3), .unset, .unset, .unset, .unset, .unset] [(.int t3), (.int (3 : Int32)), (.ref a49), (.ref a49)])) rfl rfl (hb hby at_130)
    have zh53 := K53.1
    refine Rn.pu (g' := (mkF m 131 #[.val (.int p0), .val (.int p1), .val (.int p2), .val (.int p3), .val (.int p4), .val (.int p5), .val (.int (4 : Int32)), .val (.int t0), .val (.int t1), .val (.int t2), .val (.int t3), .unset, .unset, .unset, .unset, .unset] [(.ref a49)])) ?_ st53
    refine Rn.pu (T' := T53) (g' := (mkF m 133 #[.val (.int p0), .val (.int p1), .val (.int p2), .val (.int p3), .val (.int p4), .val (.int p5), .val (.int (4 : Int32)), .val (.int t0), .val (.int t1), .val (.int t2), .val (.int t3), .val (.ref a49), .unset, .unset, .unset, .unset] [])) ?_ fun _ zk => XS.astore H53.here hx rfl (hb hby at_131) rfl rfl (l' := #[.val (.int p0), .val (.int p1), .val (.int p2), .val (.int p3), .val (.int p4), .val (.int p5), .val (.int (4 : Int32)), .val (.int t0), .val (.int t1), .val (.int t2), .val (.int t3), .val (.ref a49), .unset, .unset, .unset, .unset]) rfl zk
    have AC : Arv Z h53 a49 k49 .char (4 : Int32) [.int t0, .int t1, .int t2, .int t3] (.int 0) := by have q := A53; simp only [List.nil_append, List.cons_append, List.map, nar_id rt0.1 rt0.2, nar_id rt1.1 rt1.2, nar_id rt2.1 rt2.2, nar_id rt3.1 rt3.2] at q; exact q
    obtain ⟨a54, T54, h54, e54, H54, K54, E54, D54, st54⟩ := H53.newO (hw _ (List.mem_of_getElem? (i := 2) rfl)) (hw _ (List.mem_of_getElem? (i := 3) rfl)) (hw _ (List.mem_of_getElem? (i := 4) rfl)) (g := (mkF m 133 #[.val (.int p0), .val (.int p1), .val (.int p2), .val (.int p3), .val (.int p4), .val (.int p5), .val (.int (4 : Int32)), .val (.int t0), .val (.int t1), .val (.int t2), .val (.int t3), .val (.ref a49), .unset, .unset, .unset, .unset] [])) rfl (hb hby at_133) (by decide) (by decide)
    have zh54 := K54.1
    have l54 := natlt (E54).lt
    have g54 : s.heap.size ≤ a54 := by omega
    have F54_coder : Fld Z h54 a54 "java/lang/String" "coder" "B" (.int (0 : Int32)) := D54 (Or.inr (hw _ (List.mem_of_getElem? (i := 28) rfl))) (ty := .byte) (by decide)
    have F54_value : Fld Z h54 a54 "java/lang/String" "value" "[B" .null := D54 (Or.inr (hw _ (List.mem_of_getElem? (i := 30) rfl))) (ty := (.array .byte)) (by decide)
    refine Rn.pu (g' := (mkF m 136 #[.val (.int p0), .val (.int p1), .val (.int p2), .val (.int p3), .val (.int p4), .val (.int p5), .val (.int (4 : Int32)), .val (.int t0), .val (.int t1), .val (.int t2), .val (.int t3), .val (.ref a49), .unset, .unset, .unset, .unset] [(.ref a54)])) ?_ st54
    refine Rn.pu (T' := T54) (g' := (mkF m 137 #[.val (.int p0), .val (.int p1), .val (.int p2), .val (.int p3), .val (.int p4), .val (.int p5), .val (.int (4 : Int32)), .val (.int t0), .val (.int t1), .val (.int t2), .val (.int t3), .val (.ref a49), .unset, .unset, .unset, .unset] [(.ref a54), (.ref a54)])) ?_ fun _ zk => XS.dup H54.here hx rfl (hb hby at_136) rfl rfl zk
    refine Rn.pu (T' := T54) (g' := (mkF m 139 #[.val (.int p0), .val (.int p1), .val (.int p2), .val (.int p3), .val (.int p4), .val (.int p5), .val (.int (4 : Int32)), .val (.int t0), .val (.int t1), .val (.int t2), .val (.int t3), .val (.ref a49), .unset, .unset, .unset, .unset] [(.ref a49), (.ref a54), (.ref a54)])) ?_ fun _ zk => XS.aload H54.here hx rfl (hb hby at_137) rfl rfl zk
    obtain ⟨_, T55, h55, H55, ⟨rfl, t55, S55, lt55⟩, K55, st55⟩ := H54.callIm rfl (hw _ (List.mem_of_getElem? (i := 5) rfl)) (hw _ (List.mem_of_getElem? (i := 6) rfl)) (hw _ (List.mem_of_getElem? (i := 7) rfl)) (by decide) (payNewU (cs := [t0, t1, t2, t3]) (n := 4) (W := 1) l ⟨hw, SC0, hz0, SF1, rf1, SU2, SU3, SU4⟩ H54.old rfl rfl (by decide) (by decide) (mem2 rt0 (mem2 rt1 (mem2 rt2 (mem2 rt3 mem0)))) (AC.keep K54 nin0) E54 F54_value F54_coder (by have := H0.old.1; omega) (by decide) (by decide)) (g := (mkF m 139 #[.val (.int p0), .val (.int p1), .val (.int p2), .val (.int p3), .val (.int p4), .val (.int p5), .val (.int (4 : Int32)), .val (.int t0), .val (.int t1), .val (.int t2), .val (.int t3), .val (.ref a49), .unset, .unset, .unset, .unset] [(.ref a49), (.ref a54), (.ref a54)])) rfl (by rw [hml]; rfl) (argsL := [(.ref a49)]) (rest := [(.ref a54)]) (lenOf pd__AC_V rfl) rfl rfl (Nat.le_of_eq rfl) (hb hby at_139) (by decide) (by decide) (allS (Or.inr (by omega)) all0)
    have zh55 := K55.1
    have l55 := natlt (S55).lt
    refine Rn.pu (g' := (mkF m 142 #[.val (.int p0), .val (.int p1), .val (.int p2), .val (.int p3), .val (.int p4), .val (.int p5), .val (.int (4 : Int32)), .val (.int t0), .val (.int t1), .val (.int t2), .val (.int t3), .val (.ref a49), .unset, .unset, .unset, .unset] [(.ref a54)])) ?_ st55
    refine Rn.pu (T' := T55) (g' := (mkF m 144 #[.val (.int p0), .val (.int p1), .val (.int p2), .val (.int p3), .val (.int p4), .val (.int p5), .val (.int (4 : Int32)), .val (.int t0), .val (.int t1), .val (.int t2), .val (.int t3), .val (.ref a49), .val (.ref a54), .unset, .unset, .unset] [])) ?_ fun _ zk => XS.astore H55.here hx rfl (hb hby at_142) rfl rfl (l' := #[.val (.int p0), .val (.int p1), .val (.int p2), .val (.int p3), .val (.int p4), .val (.int p5), .val (.int (4 : Int32)), .val (.int t0), .val (.int t1), .val (.int t2), .val (.int t3), .val (.ref a49), .val (.ref a54), .unset, .unset, .unset]) rfl zk
    obtain ⟨a56, T56, h56, e56, H56, K56, E56, D56, st56⟩ := H55.newO (hw _ (List.mem_of_getElem? (i := 31) rfl)) (hw _ (List.mem_of_getElem? (i := 32) rfl)) (hw _ (List.mem_of_getElem? (i := 33) rfl)) (g := (mkF m 144 #[.val (.int p0), .val (.int p1), .val (.int p2), .val (.int p3), .val (.int p4), .val (.int p5), .val (.int (4 : Int32)), .val (.int t0), .val (.int t1), .val (.int t2), .val (.int t3), .val (.ref a49), .val (.ref a54), .unset, .unset, .unset] [])) rfl (hb hby at_144) (by decide) (by decide)
    have zh56 := K56.1
    have l56 := natlt (E56).lt
    have g56 : s.heap.size ≤ a56 := by omega
    have F56_m_source : Fld Z h56 a56 "com/example/vestline/vestline/Field" "m_source" "Ljava/lang/String;" .null := D56 (Or.inr (hw _ (List.mem_of_getElem? (i := 43) rfl))) (ty := (.object "java/lang/String")) (by decide)
    have F56_m_line : Fld Z h56 a56 "com/example/vestline/vestline/Field" "m_line" "I" (.int (0 : Int32)) := D56 (Or.inr (hw _ (List.mem_of_getElem? (i := 45) rfl))) (ty := .int) (by decide)
    have F56_m_name : Fld Z h56 a56 "com/example/vestline/vestline/Field" "m_name" "Ljava/lang/String;" .null := D56 (Or.inr (hw _ (List.mem_of_getElem? (i := 47) rfl))) (ty := (.object "java/lang/String")) (by decide)
    have F56_m_text : Fld Z h56 a56 "com/example/vestline/vestline/Field" "m_text" "Ljava/lang/String;" .null := D56 (Or.inr (hw _ (List.mem_of_getElem? (i := 49) rfl))) (ty := (.object "java/lang/String")) (by decide)
    refine Rn.pu (g' := (mkF m 147 #[.val (.int p0), .val (.int p1), .val (.int p2), .val (.int p3), .val (.int p4), .val (.int p5), .val (.int (4 : Int32)), .val (.int t0), .val (.int t1), .val (.int t2), .val (.int t3), .val (.ref a49), .val (.ref a54), .unset, .unset, .unset] [(.ref a56)])) ?_ st56
    refine Rn.pu (T' := T56) (g' := (mkF m 148 #[.val (.int p0), .val (.int p1), .val (.int p2), .val (.int p3), .val (.int p4), .val (.int p5), .val (.int (4 : Int32)), .val (.int t0), .val (.int t1), .val (.int t2), .val (.int t3), .val (.ref a49), .val (.ref a54), .unset, .unset, .unset] [(.ref a56), (.ref a56)])) ?_ fun _ zk => XS.dup H56.here hx rfl (hb hby at_147) rfl rfl zk
    obtain ⟨a57, T57, h57, H57, K57, st57⟩ := H56.ldcS (hw _ (List.mem_of_getElem? (i := 34) rfl)) (hws_sa hw) (g := (mkF m 148 #[.val (.int p0), .val (.int p1), .val (.int p2), .val (.int p3), .val (.int p4), .val (.int p5), .val (.int (4 : Int32)), .val (.int t0), .val (.int t1), .val (.int t2), .val (.int t3), .val (.ref a49), .val (.ref a54), .unset, .unset, .unset] [(.ref a56), (.ref a56)])) rfl (hb hby at_148) (n := 4) (by decide) (by decide) (by decide) (by decide)
    have zh57 := K57.1
    refine Rn.pu (g' := (mkF m 150 #[.val (.int p0), .val (.int p1), .val (.int p2), .val (.int p3), .val (.int p4), .val (.int p5), .val (.int (4 : Int32)), .val (.int t0), .val (.int t1), .val (.int t2), .val (.int t3), .val (.ref a49), .val (.ref a54), .unset, .unset, .unset] [(.ref a57), (.ref a56), (.ref a56)])) ?_ st57
    refine Rn.pu (T' := T57) (g' := (mkF m 152 #[.val (.int p0), .val (.int p1), .val (.int p2), .val (.int p3), .val (.int p4), .val (.int p5), .val (.int (4 : Int32)), .val (.int t0), .val (.int t1), .val (.int t2), .val (.int t3), .val (.ref a49), .val (.ref a54), .unset, .unset, .unset] [(.int p5), (.ref a57), (.ref a56), (.ref a56)])) ?_ fun _ zk => XS.iload H57.here hx rfl (hb hby at_150) rfl zk
    obtain ⟨a58, T58, h58, H58, K58, st58⟩ := H57.ldcS (hw _ (List.mem_of_getElem? (i := 37) rfl)) (hws_sa hw) (g := (mkF m 152 #[.val (.int p0), .val (.int p1), .val (.int p2), .val (.int p3), .val (.int p4), .val (.int p5), .val (.int (4 : Int32)), .val (.int t0), .val (.int t1), .val (.int t2), .val (.int t3), .val (.ref a49), .val (.ref a54), .unset, .unset, .unset] [(.int p5), (.ref a57), (.ref a56), (.ref a56)])) rfl (hb hby at_152) (n := 32) (by decide) (by decide) (by decide) (by decide)
    have zh58 := K58.1
    refine Rn.pu (g' := (mkF m 154 #[.val (.int p0), .val (.int p1), .val (.int p2), .val (.int p3), .val (.int p4), .val (.int p5), .val (.int (4 : Int32)), .val (.int t0), .val (.int t1), .val (.int t2), .val (.int t3), .val (.ref a49), .val (.ref a54), .unset, .unset, .unset] [(.ref a58), (.int p5), (.ref a57), (.ref a56), (.ref a56)])) ?_ st58
    refine Rn.pu (T' := T58) (g' := (mkF m 156 #[.val (.int p0), .val (.int p1), .val (.int p2), .val (.int p3), .val (.int p4), .val (.int p5), .val (.int (4 : Int32)), .val (.int t0), .val (.int t1), .val (.int t2), .val (.int t3), .val (.ref a49), .val (.ref a54), .unset, .unset, .unset] [(.ref a54), (.ref a58), (.int p5), (.ref a57), (.ref a56), (.ref a56)])) ?_ fun _ zk => XS.aload H58.here hx rfl (hb hby at_154) rfl rfl zk
    obtain ⟨_, T59, h59, H59, ⟨rfl, E59, G59_0, G59_1, G59_2, G59_3⟩, K59, st59⟩ := H58.callI rfl (hw _ (List.mem_of_getElem? (i := 38) rfl)) (hw _ (List.mem_of_getElem? (i := 39) rfl)) (hw _ (List.mem_of_getElem? (i := 40) rfl)) (by decide) (MetN.pay (W := 1) (c_init l ⟨hw, SC0, hz0, SF1, rf1, SU2, SU3, SU4⟩ a56 a57 a58 a54 p5 h58 H58.old ((E56.keep K57).keep K58) ((F56_m_source.keep K57 nin0).keep K58 nin0) ((F56_m_line.keep K57 nin0).keep K58 nin0) ((F56_m_name.keep K57 nin0).keep K58 nin0) ((F56_m_text.keep K57 nin0).keep K58 nin0) (by omega)) (hw _ (List.mem_of_getElem? (i := 40) rfl)) (hw _ (List.mem_of_getElem? (i := 33) rfl)) (by decide) (by decide)) (g := (mkF m 156 #[.val (.int p0), .val (.int p1), .val (.int p2), .val (.int p3), .val (.int p4), .val (.int p5), .val (.int (4 : Int32)), .val (.int t0), .val (.int t1), .val (.int t2), .val (.int t3), .val (.ref a49), .val (.ref a54), .unset, .unset, .unset] [(.ref a54), (.ref a58), (.int p5), (.ref a57), (.ref a56), (.ref a56)])) rfl (by rw [hml]; rfl) (argsL := [(.ref a57), (.int p5), (.ref a58), (.ref a54)]) (rest := [(.ref a56)]) (lenOf pd__Ljava_lang_String_ILjava_lang_String_Ljava_lang_String__V rfl) rfl rfl (Nat.le_of_eq rfl) (hb hby at_156) (by decide) (by decide) (allS (Or.inr (by omega)) all0)
    have zh59 := K59.1
    refine Rn.pu (g' := (mkF m 159 #[.val (.int p0), .val (.int p1), .val (.int p2), .val (.int p3), .val (.int p4), .val (.int p5), .val (.int (4 : Int32)), .val (.int t0), .val (.int t1), .val (.int t2), .val (.int t3), .val (.ref a49), .val (.ref a54), .unset, .unset, .unset] [(.ref a56)])) ?_ st59
    refine Rn.pu (T' := T59) (g' := (mkF m 161 #[.val (.int p0), .val (.int p1), .val (.int p2), .val (.int p3), .val (.int p4), .val (.int p5), .val (.int (4 : Int32)), .val (.int t0), .val (.int t1), .val (.int t2), .val (.int t3), .val (.ref a49), .val (.ref a54), .val (.ref a56), .unset, .unset] [])) ?_ fun _ zk => XS.astore H59.here hx rfl (hb hby at_159) rfl rfl (l' := #[.val (.int p0), .val (.int p1), .val (.int p2), .val (.int p3), .val (.int p4), .val (.int p5), .val (.int (4 : Int32)), .val (.int t0), .val (.int t1), .val (.int t2), .val (.int t3), .val (.ref a49), .val (.ref a54), .val (.ref a56), .unset, .unset]) rfl zk
    refine Rn.pu (T' := T59) (g' := (mkF m 163 #[.val (.int p0), .val (.int p1), .val (.int p2), .val (.int p3), .val (.int p4), .val (.int p5), .val (.int (4 : Int32)), .val (.int t0), .val (.int t1), .val (.int t2), .val (.int t3), .val (.ref a49), .val (.ref a54), .val (.ref a56), .unset, .unset] [(.ref a56)])) ?_ fun _ zk => XS.aload H59.here hx rfl (hb hby at_161) rfl rfl zk
    obtain ⟨_, T60, h60, H60, ⟨rfl, rfl⟩, -, st60⟩ := H59.callV (C := "com/example/vestline/vestline/Field") (hw _ (List.mem_of_getElem? (i := 50) rfl)) (hw _ (List.mem_of_getElem? (i := 51) rfl)) (hw _ (List.mem_of_getElem? (i := 53) rfl)) (hw _ (List.mem_of_getElem? (i := 52) rfl)) (by decide) (MetN.pay (W := 0) (c_text l ⟨hw, SC0, hz0, SF1, rf1, SU2, SU3, SU4⟩ a56 a54 t55 ([t0, t1, t2, t3]) h59 H59.old G59_3 ((((S55.keep K56 nin0 nin0).keep K57 nin0 nin0).keep K58 nin0 nin0).keep K59 (ninS (adne (by omega)) nin0) (ninS (adne (by omega)) nin0)) (by simp)) (hw _ (List.mem_of_getElem? (i := 54) rfl)) (hw _ (List.mem_of_getElem? (i := 33) rfl)) (by decide) (by decide)) E59 (g := (mkF m 163 #[.val (.int p0), .val (.int p1), .val (.int p2), .val (.int p3), .val (.int p4), .val (.int p5), .val (.int (4 : Int32)), .val (.int t0), .val (.int t1), .val (.int t2), .val (.int t3), .val (.ref a49), .val (.ref a54), .val (.ref a56), .unset, .unset] [(.ref a56)])) rfl (by rw [hml]; rfl) (argsL := []) (rest := []) (lenOf pd___Ljava_lang_String_ rfl) rfl rfl (Nat.le_of_eq rfl) (hb hby at_163) (by decide) (by decide) all0
    refine Rn.pu (g' := (mkF m 166 #[.val (.int p0), .val (.int p1), .val (.int p2), .val (.int p3), .val (.int p4), .val (.int p5), .val (.int (4 : Int32)), .val (.int t0), .val (.int t1), .val (.int t2), .val (.int t3), .val (.ref a49), .val (.ref a54), .val (.ref a56), .unset, .unset] [(.ref a54)])) ?_ st60
    refine Rn.pu (T' := T60) (g' := (mkF m 168 #[.val (.int p0), .val (.int p1), .val (.int p2), .val (.int p3), .val (.int p4), .val (.int p5), .val (.int (4 : Int32)), .val (.int t0), .val (.int t1), .val (.int t2), .val (.int t3), .val (.ref a49), .val (.ref a54), .val (.ref a56), .val (.ref a54), .unset] [])) ?_ fun _ zk => XS.astore H60.here hx rfl (hb hby at_166) rfl rfl (l' := #[.val (.int p0), .val (.int p1), .val (.int p2), .val (.int p3), .val (.int p4), .val (.int p5), .val (.int (4 : Int32)), .val (.int t0), .val (.int t1), .val (.int t2), .val (.int t3), .val (.ref a49), .val (.ref a54), .val (.ref a56), .val (.ref a54), .unset]) rfl zk
    refine Rn.pu (T' := T60) (g' := (mkF m 170 #[.val (.int p0), .val (.int p1), .val (.int p2), .val (.int p3), .val (.int p4), .val (.int p5), .val (.int (4 : Int32)), .val (.int t0), .val (.int t1), .val (.int t2), .val (.int t3), .val (.ref a49), .val (.ref a54), .val (.ref a56), .val (.ref a54), .unset] [(.ref a54)])) ?_ fun _ zk => XS.aload H60.here hx rfl (hb hby at_168) rfl rfl zk
    refine Rn.pu (T' := T60) (g' := (mkF m 173 #[.val (.int p0), .val (.int p1), .val (.int p2), .val (.int p3), .val (.int p4), .val (.int p5), .val (.int (4 : Int32)), .val (.int t0), .val (.int t1), .val (.int t2), .val (.int t3), .val (.ref a49), .val (.ref a54), .val (.ref a56), .val (.ref a54), .unset] [])) ?_ fun _ zk => XS.ifnullNo H60.here hx rfl (hb hby at_170) rfl zk
    refine Rn.pu (T' := T60) (g' := (mkF m 175 #[.val (.int p0), .val (.int p1), .val (.int p2), .val (.int p3), .val (.int p4), .val (.int p5), .val (.int (4 : Int32)), .val (.int t0), .val (.int t1), .val (.int t2), .val (.int t3), .val (.ref a49), .val (.ref a54), .val (.ref a56), .val (.ref a54), .unset] [(.ref a54)])) ?_ fun _ zk => XS.aload H60.here hx rfl (hb hby at_173) rfl rfl zk
    obtain ⟨_, T61, h61, H61, ⟨rfl, rfl⟩, -, st61⟩ := H60.callV (C := "java/lang/String") (hw _ (List.mem_of_getElem? (i := 60) rfl)) (hw _ (List.mem_of_getElem? (i := 61) rfl)) (hw _ (List.mem_of_getElem? (i := 63) rfl)) (hw _ (List.mem_of_getElem? (i := 62) rfl)) (by decide) (payLen (W := 0) (hws_len hw) (hw _ (List.mem_of_getElem? (i := 3) rfl)) ((((S55.keep K56 nin0 nin0).keep K57 nin0 nin0).keep K58 nin0 nin0).keep K59 (ninS (adne (by omega)) nin0) (ninS (adne (by omega)) nin0)) (SC0.ext H60.old) hz0 (by decide) (by decide)) ((((S55.exa.keep K56).keep K57).keep K58).keep K59) (g := (mkF m 175 #[.val (.int p0), .val (.int p1), .val (.int p2), .val (.int p3), .val (.int p4), .val (.int p5), .val (.int (4 : Int32)), .val (.int t0), .val (.int t1), .val (.int t2), .val (.int t3), .val (.ref a49), .val (.ref a54), .val (.ref a56), .val (.ref a54), .unset] [(.ref a54)])) rfl (by rw [hml]; rfl) (argsL := []) (rest := []) (lenOf pd___I rfl) rfl rfl (Nat.le_of_eq rfl) (hb hby at_175) (by decide) (by decide) all0
    refine Rn.pu (g' := (mkF m 178 #[.val (.int p0), .val (.int p1), .val (.int p2), .val (.int p3), .val (.int p4), .val (.int p5), .val (.int (4 : Int32)), .val (.int t0), .val (.int t1), .val (.int t2), .val (.int t3), .val (.ref a49), .val (.ref a54), .val (.ref a56), .val (.ref a54), .unset] [(.int (Int32.ofNat ([t0, t1, t2, t3]).length))])) ?_ st61
    refine Rn.pu (T' := T61) (g' := (mkF m 180 #[.val (.int p0), .val (.int p1), .val (.int p2), .val (.int p3), .val (.int p4), .val (.int p5), .val (.int (4 : Int32)), .val (.int t0), .val (.int t1), .val (.int t2), .val (.int t3), .val (.ref a49), .val (.ref a54), .val (.ref a56), .val (.ref a54), .unset] [(.int (4 : Int32)), (.int (Int32.ofNat ([t0, t1, t2, t3]).length))])) ?_ fun _ zk => XS.iload H61.here hx rfl (hb hby at_178) rfl zk
    refine Rn.pu (T' := T61) (g' := (mkF m 185 #[.val (.int p0), .val (.int p1), .val (.int p2), .val (.int p3), .val (.int p4), .val (.int p5), .val (.int (4 : Int32)), .val (.int t0), .val (.int t1), .val (.int t2), .val (.int t3), .val (.ref a49), .val (.ref a54), .val (.ref a56), .val (.ref a54), .unset] [])) ?_ fun _ zk => XS.icmpYes H61.here hx rfl (pc0 := 180) (pc' := 185) rfl (hb hby at_180) rfl (c_eq_t rfl) (by decide) (by decide) zk
    refine Rn.pu (T' := T61) (g' := (mkF m 187 #[.val (.int p0), .val (.int p1), .val (.int p2), .val (.int p3), .val (.int p4), .val (.int p5), .val (.int (4 : Int32)), .val (.int t0), .val (.int t1), .val (.int t2), .val (.int t3), .val (.ref a49), .val (.ref a54), .val (.ref a56), .val (.ref a54), .unset] [(.ref a54)])) ?_ fun _ zk => XS.aload H61.here hx rfl (hb hby at_185) rfl rfl zk
    refine Rn.pu (T' := T61) (g' := (mkF m 188 #[.val (.int p0), .val (.int p1), .val (.int p2), .val (.int p3), .val (.int p4), .val (.int p5), .val (.int (4 : Int32)), .val (.int t0), .val (.int t1), .val (.int t2), .val (.int t3), .val (.ref a49), .val (.ref a54), .val (.ref a56), .val (.ref a54), .unset] [(.int (0 : Int32)), (.ref a54)])) ?_ fun _ zk => XS.iconst H61.here hx rfl (hb hby at_187) zk
    obtain ⟨_, T62, h62, H62, ⟨rfl, rfl⟩, -, st62⟩ := H61.callV (C := "java/lang/String") (hw _ (List.mem_of_getElem? (i := 70) rfl)) (hw _ (List.mem_of_getElem? (i := 71) rfl)) (hw _ (List.mem_of_getElem? (i := 73) rfl)) (hw _ (List.mem_of_getElem? (i := 72) rfl)) (by decide) (payChU (W := 0) l ⟨hw, SC0, hz0, SF1, rf1, SU2, SU3, SU4⟩ H61.old ((((S55.keep K56 nin0 nin0).keep K57 nin0 nin0).keep K58 nin0 nin0).keep K59 (ninS (adne (by omega)) nin0) (ninS (adne (by omega)) nin0)) (by simp) (i := 0) (by simp) rfl (by decide) (by decide)) ((((S55.exa.keep K56).keep K57).keep K58).keep K59) (g := (mkF m 188 #[.val (.int p0), .val (.int p1), .val (.int p2), .val (.int p3), .val (.int p4), .val (.int p5), .val (.int (4 : Int32)), .val (.int t0), .val (.int t1), .val (.int t2), .val (.int t3), .val (.ref a49), .val (.ref a54), .val (.ref a56), .val (.ref a54), .unset] [(.int (0 : Int32)), (.ref a54)])) rfl (by rw [hml]; rfl) (argsL := [(.int (0 : Int32))]) (rest := []) (lenOf pd__I_C rfl) rfl rfl (Nat.le_of_eq rfl) (hb hby at_188) (by decide) (by decide) all0
    refine Rn.pu (g' := (mkF m 191 #[.val (.int p0), .val (.int p1), .val (.int p2), .val (.int p3), .val (.int p4), .val (.int p5), .val (.int (4 : Int32)), .val (.int t0), .val (.int t1), .val (.int t2), .val (.int t3), .val (.ref a49), .val (.ref a54), .val (.ref a56), .val (.ref a54), .unset] [(.int t0)])) ?_ st62
    refine Rn.pu (T' := T62) (g' := (mkF m 193 #[.val (.int p0), .val (.int p1), .val (.int p2), .val (.int p3), .val (.int p4), .val (.int p5), .val (.int (4 : Int32)), .val (.int t0), .val (.int t1), .val (.int t2), .val (.int t3), .val (.ref a49), .val (.ref a54), .val (.ref a56), .val (.ref a54), .unset] [(.int t0), (.int t0)])) ?_ fun _ zk => XS.iload H62.here hx rfl (hb hby at_191) rfl zk
    refine Rn.pu (T' := T62) (g' := (mkF m 196 #[.val (.int p0), .val (.int p1), .val (.int p2), .val (.int p3), .val (.int p4), .val (.int p5), .val (.int (4 : Int32)), .val (.int t0), .val (.int t1), .val (.int t2), .val (.int t3), .val (.ref a49), .val (.ref a54), .val (.ref a56), .val (.ref a54), .unset] [])) ?_ fun _ zk => XS.icmpNo H62.here hx rfl (hb hby at_193) rfl (c_ne_f rfl) zk
    refine Rn.pu (T' := T62) (g' := (mkF m 197 #[.val (.int p0), .val (.int p1), .val (.int p2), .val (.int p3), .val (.int p4), .val (.int p5), .val (.int (4 : Int32)), .val (.int t0), .val (.int t1), .val (.int t2), .val (.int t3), .val (.ref a49), .val (.ref a54), .val (.ref a56), .val (.ref a54), .unset] [(.int (1 : Int32))])) ?_ fun _ zk => XS.iconst H62.here hx rfl (hb hby at_196) zk
    refine Rn.pu (T' := T62) (g' := (mkF m 201 #[.val (.int p0), .val (.int p1), .val (.int p2), .val (.int p3), .val (.int p4), .val (.int p5), .val (.int (4 : Int32)), .val (.int t0), .val (.int t1), .val (.int t2), .val (.int t3), .val (.ref a49), .val (.ref a54), .val (.ref a56), .val (.ref a54), .unset] [(.int (1 : Int32))])) ?_ fun _ zk => XS.goto H62.here hx rfl (pc0 := 197) (pc' := 201) rfl (hb hby at_197) (by decide) (by decide) zk
    refine Rn.pu (T' := T62) (g' := (mkF m 203 #[.val (.int p0), .val (.int p1), .val (.int p2), .val (.int p3), .val (.int p4), .val (.int p5), .val (.int (4 : Int32)), .val (.int t0), .val (.int t1), .val (.int t2), .val (.int t3), .val (.ref a49), .val (.ref a54), .val (.ref a56), .val (.ref a54), .val (.int (1 : Int32))] [])) ?_ fun _ zk => XS.istore H62.here hx rfl (hb hby at_201) rfl (l' := #[.val (.int p0), .val (.int p1), .val (.int p2), .val (.int p3), .val (.int p4), .val (.int p5), .val (.int (4 : Int32)), .val (.int t0), .val (.int t1), .val (.int t2), .val (.int t3), .val (.ref a49), .val (.ref a54), .val (.ref a56), .val (.ref a54), .val (.int (1 : Int32))]) rfl zk
    refine Rn.pu (T' := T62) (g' := (mkF m 205 #[.val (.int p0), .val (.int p1), .val (.int p2), .val (.int p3), .val (.int p4), .val (.int p5), .val (.int (4 : Int32)), .val (.int t0), .val (.int t1), .val (.int t2), .val (.int t3), .val (.ref a49), .val (.ref a54), .val (.ref a56), .val (.ref a54), .val (.int (1 : Int32))] [(.int (4 : Int32))])) ?_ fun _ zk => XS.iload H62.here hx rfl (hb hby at_203) rfl zk
    refine Rn.pu (T' := T62) (g' := (mkF m 206 #[.val (.int p0), .val (.int p1), .val (.int p2), .val (.int p3), .val (.int p4), .val (.int p5), .val (.int (4 : Int32)), .val (.int t0), .val (.int t1), .val (.int t2), .val (.int t3), .val (.ref a49), .val (.ref a54), .val (.ref a56), .val (.ref a54), .val (.int (1 : Int32))] [(.int (2 : Int32)), (.int (4 : Int32))])) ?_ fun _ zk => XS.iconst H62.here hx rfl (hb hby at_205) zk
    refine Rn.pu (T' := T62) (g' := (mkF m 209 #[.val (.int p0), .val (.int p1), .val (.int p2), .val (.int p3), .val (.int p4), .val (.int p5), .val (.int (4 : Int32)), .val (.int t0), .val (.int t1), .val (.int t2), .val (.int t3), .val (.ref a49), .val (.ref a54), .val (.ref a56), .val (.ref a54), .val (.int (1 : Int32))] [])) ?_ fun _ zk => XS.icmpNo H62.here hx rfl (hb hby at_206) rfl (c_lt_f (by decide)) zk
    refine Rn.pu (T' := T62) (g' := (mkF m 211 #[.val (.int p0), .val (.int p1), .val (.int p2), .val (.int p3), .val (.int p4), .val (.int p5), .val (.int (4 : Int32)), .val (.int t0), .val (.int t1), .val (.int t2), .val (.int t3), .val (.ref a49), .val (.ref a54), .val (.ref a56), .val (.ref a54), .val (.int (1 : Int32))] [(.int (1 : Int32))])) ?_ fun _ zk => XS.iload H62.here hx rfl (hb hby at_209) rfl zk
    refine Rn.pu (T' := T62) (g' := (mkF m 214 #[.val (.int p0), .val (.int p1), .val (.int p2), .val (.int p3), .val (.int p4), .val (.int p5), .val (.int (4 : Int32)), .val (.int t0), .val (.int t1), .val (.int t2), .val (.int t3), .val (.ref a49), .val (.ref a54), .val (.ref a56), .val (.ref a54), .val (.int (1 : Int32))] [])) ?_ fun _ zk => XS.ifNo H62.here hx rfl (hb hby at_211) rfl (z_eq_f (by decide)) zk
    refine Rn.pu (T' := T62) (g' := (mkF m 216 #[.val (.int p0), .val (.int p1), .val (.int p2), .val (.int p3), .val (.int p4), .val (.int p5), .val (.int (4 : Int32)), .val (.int t0), .val (.int t1), .val (.int t2), .val (.int t3), .val (.ref a49), .val (.ref a54), .val (.ref a56), .val (.ref a54), .val (.int (1 : Int32))] [(.ref a54)])) ?_ fun _ zk => XS.aload H62.here hx rfl (hb hby at_214) rfl rfl zk
    refine Rn.pu (T' := T62) (g' := (mkF m 217 #[.val (.int p0), .val (.int p1), .val (.int p2), .val (.int p3), .val (.int p4), .val (.int p5), .val (.int (4 : Int32)), .val (.int t0), .val (.int t1), .val (.int t2), .val (.int t3), .val (.ref a49), .val (.ref a54), .val (.ref a56), .val (.ref a54), .val (.int (1 : Int32))] [(.int (1 : Int32)), (.ref a54)])) ?_ fun _ zk => XS.iconst H62.here hx rfl (hb hby at_216) zk
    obtain ⟨_, T63, h63, H63, ⟨rfl, rfl⟩, -, st63⟩ := H62.callV (C := "java/lang/String") (hw _ (List.mem_of_getElem? (i := 70) rfl)) (hw _ (List.mem_of_getElem? (i := 71) rfl)) (hw _ (List.mem_of_getElem? (i := 73) rfl)) (hw _ (List.mem_of_getElem? (i := 72) rfl)) (by decide) (payChU (W := 0) l ⟨hw, SC0, hz0, SF1, rf1, SU2, SU3, SU4⟩ H62.old ((((S55.keep K56 nin0 nin0).keep K57 nin0 nin0).keep K58 nin0 nin0).keep K59 (ninS (adne (by omega)) nin0) (ninS (adne (by omega)) nin0)) (by simp) (i := 1) (by simp) rfl (by decide) (by decide)) ((((S55.exa.keep K56).keep K57).keep K58).keep K59) (g := (mkF m 217 #[.val (.int p0), .val (.int p1), .val (.int p2), .val (.int p3), .val (.int p4), .val (.int p5), .val (.int (4 : Int32)), .val (.int t0), .val (.int t1), .val (.int t2), .val (.int t3), .val (.ref a49), .val (.ref a54), .val (.ref a56), .val (.ref a54), .val (.int (1 : Int32))] [(.int (1 : Int32)), (.ref a54)])) rfl (by rw [hml]; rfl) (argsL := [(.int (1 : Int32))]) (rest := []) (lenOf pd__I_C rfl) rfl rfl (Nat.le_of_eq rfl) (hb hby at_217) (by decide) (by decide) all0
    refine Rn.pu (g' := (mkF m 220 #[.val (.int p0), .val (.int p1), .val (.int p2), .val (.int p3), .val (.int p4), .val (.int p5), .val (.int (4 : Int32)), .val (.int t0), .val (.int t1), .val (.int t2), .val (.int t3), .val (.ref a49), .val (.ref a54), .val (.ref a56), .val (.ref a54), .val (.int (1 : Int32))] [(.int t1)])) ?_ st63
    refine Rn.pu (T' := T63) (g' := (mkF m 222 #[.val (.int p0), .val (.int p1), .val (.int p2), .val (.int p3), .val (.int p4), .val (.int p5), .val (.int (4 : Int32)), .val (.int t0), .val (.int t1), .val (.int t2), .val (.int t3), .val (.ref a49), .val (.ref a54), .val (.ref a56), .val (.ref a54), .val (.int (1 : Int32))] [(.int t1), (.int t1)])) ?_ fun _ zk => XS.iload H63.here hx rfl (hb hby at_220) rfl zk
    refine Rn.pu (T' := T63) (g' := (mkF m 225 #[.val (.int p0), .val (.int p1), .val (.int p2), .val (.int p3), .val (.int p4), .val (.int p5), .val (.int (4 : Int32)), .val (.int t0), .val (.int t1), .val (.int t2), .val (.int t3), .val (.ref a49), .val (.ref a54), .val (.ref a56), .val (.ref a54), .val (.int (1 : Int32))] [])) ?_ fun _ zk => XS.icmpNo H63.here hx rfl (hb hby at_222) rfl (c_ne_f rfl) zk
    refine Rn.pu (T' := T63) (g' := (mkF m 226 #[.val (.int p0), .val (.int p1), .val (.int p2), .val (.int p3), .val (.int p4), .val (.int p5), .val (.int (4 : Int32)), .val (.int t0), .val (.int t1), .val (.int t2), .val (.int t3), .val (.ref a49), .val (.ref a54), .val (.ref a56), .val (.ref a54), .val (.int (1 : Int32))] [(.int (1 : Int32))])) ?_ fun _ zk => XS.iconst H63.here hx rfl (hb hby at_225) zk
    refine Rn.pu (T' := T63) (g' := (mkF m 230 #[.val (.int p0), .val (.int p1), .val (.int p2), .val (.int p3), .val (.int p4), .val (.int p5), .val (.int (4 : Int32)), .val (.int t0), .val (.int t1), .val (.int t2), .val (.int t3), .val (.ref a49), .val (.ref a54), .val (.ref a56), .val (.ref a54), .val (.int (1 : Int32))] [(.int (1 : Int32))])) ?_ fun _ zk => XS.goto H63.here hx rfl (pc0 := 226) (pc' := 230) rfl (hb hby at_226) (by decide) (by decide) zk
    refine Rn.pu (T' := T63) (g' := (mkF m 232 #[.val (.int p0), .val (.int p1), .val (.int p2), .val (.int p3), .val (.int p4), .val (.int p5), .val (.int (4 : Int32)), .val (.int t0), .val (.int t1), .val (.int t2), .val (.int t3), .val (.ref a49), .val (.ref a54), .val (.ref a56), .val (.ref a54), .val (.int (1 : Int32))] [])) ?_ fun _ zk => XS.istore H63.here hx rfl (hb hby at_230) rfl (l' := #[.val (.int p0), .val (.int p1), .val (.int p2), .val (.int p3), .val (.int p4), .val (.int p5), .val (.int (4 : Int32)), .val (.int t0), .val (.int t1), .val (.int t2), .val (.int t3), .val (.ref a49), .val (.ref a54), .val (.ref a56), .val (.ref a54), .val (.int (1 : Int32))]) rfl zk
    refine Rn.pu (T' := T63) (g' := (mkF m 234 #[.val (.int p0), .val (.int p1), .val (.int p2), .val (.int p3), .val (.int p4), .val (.int p5), .val (.int (4 : Int32)), .val (.int t0), .val (.int t1), .val (.int t2), .val (.int t3), .val (.ref a49), .val (.ref a54), .val (.ref a56), .val (.ref a54), .val (.int (1 : Int32))] [(.int (4 : Int32))])) ?_ fun _ zk => XS.iload H63.here hx rfl (hb hby at_232) rfl zk
    refine Rn.pu (T' := T63) (g' := (mkF m 235 #[.val (.int p0), .val (.int p1), .val (.int p2), .val (.int p3), .val (.int p4), .val (.int p5), .val (.int (4 : Int32)), .val (.int t0), .val (.int t1), .val (.int t2), .val (.int t3), .val (.ref a49), .val (.ref a54), .val (.ref a56), .val (.ref a54), .val (.int (1 : Int32))] [(.int (3 : Int32)), (.int (4 : Int32))])) ?_ fun _ zk => XS.iconst H63.here hx rfl (hb hby at_234) zk
    refine Rn.pu (T' := T63) (g' := (mkF m 238 #[.val (.int p0), .val (.int p1), .val (.int p2), .val (.int p3), .val (.int p4), .val (.int p5), .val (.int (4 : Int32)), .val (.int t0), .val (.int t1), .val (.int t2), .val (.int t3), .val (.ref a49), .val (.ref a54), .val (.ref a56), .val (.ref a54), .val (.int (1 : Int32))] [])) ?_ fun _ zk => XS.icmpNo H63.here hx rfl (hb hby at_235) rfl (c_lt_f (by decide)) zk
    refine Rn.pu (T' := T63) (g' := (mkF m 240 #[.val (.int p0), .val (.int p1), .val (.int p2), .val (.int p3), .val (.int p4), .val (.int p5), .val (.int (4 : Int32)), .val (.int t0), .val (.int t1), .val (.int t2), .val (.int t3), .val (.ref a49), .val (.ref a54), .val (.ref a56), .val (.ref a54), .val (.int (1 : Int32))] [(.int (1 : Int32))])) ?_ fun _ zk => XS.iload H63.here hx rfl (hb hby at_238) rfl zk
    refine Rn.pu (T' := T63) (g' := (mkF m 243 #[.val (.int p0), .val (.int p1), .val (.int p2), .val (.int p3), .val (.int p4), .val (.int p5), .val (.int (4 : Int32)), .val (.int t0), .val (.int t1), .val (.int t2), .val (.int t3), .val (.ref a49), .val (.ref a54), .val (.ref a56), .val (.ref a54), .val (.int (1 : Int32))] [])) ?_ fun _ zk => XS.ifNo H63.here hx rfl (hb hby at_240) rfl (z_eq_f (by decide)) zk
    refine Rn.pu (T' := T63) (g' := (mkF m 245 #[.val (.int p0), .val (.int p1), .val (.int p2), .val (.int p3), .val (.int p4), .val (.int p5), .val (.int (4 : Int32)), .val (.int t0), .val (.int t1), .val (.int t2), .val (.int t3), .val (.ref a49), .val (.ref a54), .val (.ref a56), .val (.ref a54), .val (.int (1 : Int32))] [(.ref a54)])) ?_ fun _ zk => XS.aload H63.here hx rfl (hb hby at_243) rfl rfl zk
    refine Rn.pu (T' := T63) (g' := (mkF m 246 #[.val (.int p0), .val (.int p1), .val (.int p2), .val (.int p3), .val (.int p4), .val (.int p5), .val (.int (4 : Int32)), .val (.int t0), .val (.int t1), .val (.int t2), .val (.int t3), .val (.ref a49), .val (.ref a54), .val (.ref a56), .val (.ref a54), .val (.int (1 : Int32))] [(.int (2 : Int32)), (.ref a54)])) ?_ fun _ zk => XS.iconst H63.here hx rfl (hb hby at_245) zk
    obtain ⟨_, T64, h64, H64, ⟨rfl, rfl⟩, -, st64⟩ := H63.callV (C := "java/lang/String") (hw _ (List.mem_of_getElem? (i := 70) rfl)) (hw _ (List.mem_of_getElem? (i := 71) rfl)) (hw _ (List.mem_of_getElem? (i := 73) rfl)) (hw _ (List.mem_of_getElem? (i := 72) rfl)) (by decide) (payChU (W := 0) l ⟨hw, SC0, hz0, SF1, rf1, SU2, SU3, SU4⟩ H63.old ((((S55.keep K56 nin0 nin0).keep K57 nin0 nin0).keep K58 nin0 nin0).keep K59 (ninS (adne (by omega)) nin0) (ninS (adne (by omega)) nin0)) (by simp) (i := 2) (by simp) rfl (by decide) (by decide)) ((((S55.exa.keep K56).keep K57).keep K58).keep K59) (g := (mkF m 246 #[.val (.int p0), .val (.int p1), .val (.int p2), .val (.int p3), .val (.int p4), .val (.int p5), .val (.int (4 : Int32)), .val (.int t0), .val (.int t1), .val (.int t2), .val (.int t3), .val (.ref a49), .val (.ref a54), .val (.ref a56), .val (.ref a54), .val (.int (1 : Int32))] [(.int (2 : Int32)), (.ref a54)])) rfl (by rw [hml]; rfl) (argsL := [(.int (2 : Int32))]) (rest := []) (lenOf pd__I_C rfl) rfl rfl (Nat.le_of_eq rfl) (hb hby at_246) (by decide) (by decide) all0
    refine Rn.pu (g' := (mkF m 249 #[.val (.int p0), .val (.int p1), .val (.int p2), .val (.int p3), .val (.int p4), .val (.int p5), .val (.int (4 : Int32)), .val (.int t0), .val (.int t1), .val (.int t2), .val (.int t3), .val (.ref a49), .val (.ref a54), .val (.ref a56), .val (.ref a54), .val (.int (1 : Int32))] [(.int t2)])) ?_ st64
    refine Rn.pu (T' := T64) (g' := (mkF m 251 #[.val (.int p0), .val (.int p1), .val (.int p2), .val (.int p3), .val (.int p4), .val (.int p5), .val (.int (4 : Int32)), .val (.int t0), .val (.int t1), .val (.int t2), .val (.int t3), .val (.ref a49), .val (.ref a54), .val (.ref a56), .val (.ref a54), .val (.int (1 : Int32))] [(.int t2), (.int t2)])) ?_ fun _ zk => XS.iload H64.here hx rfl (hb hby at_249) rfl zk
    refine Rn.pu (T' := T64) (g' := (mkF m 254 #[.val (.int p0), .val (.int p1), .val (.int p2), .val (.int p3), .val (.int p4), .val (.int p5), .val (.int (4 : Int32)), .val (.int t0), .val (.int t1), .val (.int t2), .val (.int t3), .val (.ref a49), .val (.ref a54), .val (.ref a56), .val (.ref a54), .val (.int (1 : Int32))] [])) ?_ fun _ zk => XS.icmpNo H64.here hx rfl (hb hby at_251) rfl (c_ne_f rfl) zk
    refine Rn.pu (T' := T64) (g' := (mkF m 255 #[.val (.int p0), .val (.int p1), .val (.int p2), .val (.int p3), .val (.int p4), .val (.int p5), .val (.int (4 : Int32)), .val (.int t0), .val (.int t1), .val (.int t2), .val (.int t3), .val (.ref a49), .val (.ref a54), .val (.ref a56), .val (.ref a54), .val (.int (1 : Int32))] [(.int (1 : Int32))])) ?_ fun _ zk => XS.iconst H64.here hx rfl (hb hby at_254) zk
    refine Rn.pu (T' := T64) (g' := (mkF m 259 #[.val (.int p0), .val (.int p1), .val (.int p2), .val (.int p3), .val (.int p4), .val (.int p5), .val (.int (4 : Int32)), .val (.int t0), .val (.int t1), .val (.int t2), .val (.int t3), .val (.ref a49), .val (.ref a54), .val (.ref a56), .val (.ref a54), .val (.int (1 : Int32))] [(.int (1 : Int32))])) ?_ fun _ zk => XS.goto H64.here hx rfl (pc0 := 255) (pc' := 259) rfl (hb hby at_255) (by decide) (by decide) zk
    refine Rn.pu (T' := T64) (g' := (mkF m 261 #[.val (.int p0), .val (.int p1), .val (.int p2), .val (.int p3), .val (.int p4), .val (.int p5), .val (.int (4 : Int32)), .val (.int t0), .val (.int t1), .val (.int t2), .val (.int t3), .val (.ref a49), .val (.ref a54), .val (.ref a56), .val (.ref a54), .val (.int (1 : Int32))] [])) ?_ fun _ zk => XS.istore H64.here hx rfl (hb hby at_259) rfl (l' := #[.val (.int p0), .val (.int p1), .val (.int p2), .val (.int p3), .val (.int p4), .val (.int p5), .val (.int (4 : Int32)), .val (.int t0), .val (.int t1), .val (.int t2), .val (.int t3), .val (.ref a49), .val (.ref a54), .val (.ref a56), .val (.ref a54), .val (.int (1 : Int32))]) rfl zk
    refine Rn.pu (T' := T64) (g' := (mkF m 263 #[.val (.int p0), .val (.int p1), .val (.int p2), .val (.int p3), .val (.int p4), .val (.int p5), .val (.int (4 : Int32)), .val (.int t0), .val (.int t1), .val (.int t2), .val (.int t3), .val (.ref a49), .val (.ref a54), .val (.ref a56), .val (.ref a54), .val (.int (1 : Int32))] [(.int (4 : Int32))])) ?_ fun _ zk => XS.iload H64.here hx rfl (hb hby at_261) rfl zk
    refine Rn.pu (T' := T64) (g' := (mkF m 264 #[.val (.int p0), .val (.int p1), .val (.int p2), .val (.int p3), .val (.int p4), .val (.int p5), .val (.int (4 : Int32)), .val (.int t0), .val (.int t1), .val (.int t2), .val (.int t3), .val (.ref a49), .val (.ref a54), .val (.ref a56), .val (.ref a54), .val (.int (1 : Int32))] [(.int (4 : Int32)), (.int (4 : Int32))])) ?_ fun _ zk => XS.iconst H64.here hx rfl (hb hby at_263) zk
    refine Rn.pu (T' := T64) (g' := (mkF m 267 #[.val (.int p0), .val (.int p1), .val (.int p2), .val (.int p3), .val (.int p4), .val (.int p5), .val (.int (4 : Int32)), .val (.int t0), .val (.int t1), .val (.int t2), .val (.int t3), .val (.ref a49), .val (.ref a54), .val (.ref a56), .val (.ref a54), .val (.int (1 : Int32))] [])) ?_ fun _ zk => XS.icmpNo H64.here hx rfl (hb hby at_264) rfl (c_lt_f (by decide)) zk
    refine Rn.pu (T' := T64) (g' := (mkF m 269 #[.val (.int p0), .val (.int p1), .val (.int p2), .val (.int p3), .val (.int p4), .val (.int p5), .val (.int (4 : Int32)), .val (.int t0), .val (.int t1), .val (.int t2), .val (.int t3), .val (.ref a49), .val (.ref a54), .val (.ref a56), .val (.ref a54), .val (.int (1 : Int32))] [(.int (1 : Int32))])) ?_ fun _ zk => XS.iload H64.here hx rfl (hb hby at_267) rfl zk
    refine Rn.pu (T' := T64) (g' := (mkF m 272 #[.val (.int p0), .val (.int p1), .val (.int p2), .val (.int p3), .val (.int p4), .val (.int p5), .val (.int (4 : Int32)), .val (.int t0), .val (.int t1), .val (.int t2), .val (.int t3), .val (.ref a49), .val (.ref a54), .val (.ref a56), .val (.ref a54), .val (.int (1 : Int32))] [])) ?_ fun _ zk => XS.ifNo H64.here hx rfl (hb hby at_269) rfl (z_eq_f (by decide)) zk
    refine Rn.pu (T' := T64) (g' := (mkF m 274 #[.val (.int p0), .val (.int p1), .val (.int p2), .val (.int p3), .val (.int p4), .val (.int p5), .val (.int (4 : Int32)), .val (.int t0), .val (.int t1), .val (.int t2), .val (.int t3), .val (.ref a49), .val (.ref a54), .val (.ref a56), .val (.ref a54), .val (.int (1 : Int32))] [(.ref a54)])) ?_ fun _ zk => XS.aload H64.here hx rfl (hb hby at_272) rfl rfl zk
    refine Rn.pu (T' := T64) (g' := (mkF m 275 #[.val (.int p0), .val (.int p1), .val (.int p2), .val (.int p3), .val (.int p4), .val (.int p5), .val (.int (4 : Int32)), .val (.int t0), .val (.int t1), .val (.int t2), .val (.int t3), .val (.ref a49), .val (.ref a54), .val (.ref a56), .val (.ref a54), .val (.int (1 : Int32))] [(.int (3 : Int32)), (.ref a54)])) ?_ fun _ zk => XS.iconst H64.here hx rfl (hb hby at_274) zk
    obtain ⟨_, T65, h65, H65, ⟨rfl, rfl⟩, -, st65⟩ := H64.callV (C := "java/lang/String") (hw _ (List.mem_of_getElem? (i := 70) rfl)) (hw _ (List.mem_of_getElem? (i := 71) rfl)) (hw _ (List.mem_of_getElem? (i := 73) rfl)) (hw _ (List.mem_of_getElem? (i := 72) rfl)) (by decide) (payChU (W := 0) l ⟨hw, SC0, hz0, SF1, rf1, SU2, SU3, SU4⟩ H64.old ((((S55.keep K56 nin0 nin0).keep K57 nin0 nin0).keep K58 nin0 nin0).keep K59 (ninS (adne (by omega)) nin0) (ninS (adne (by omega)) nin0)) (by simp) (i := 3) (by simp) rfl (by decide) (by decide)) ((((S55.exa.keep K56).keep K57).keep K58).keep K59) (g := (mkF m 275 #[.val (.int p0), .val (.int p1), .val (.int p2), .val (.int p3), .val (.int p4), .val (.int p5), .val (.int (4 : Int32)), .val (.int t0), .val (.int t1), .val (.int t2), .val (.int t3), .val (.ref a49), .val (.ref a54), .val (.ref a56), .val (.ref a54), .val (.int (1 : Int32))] [(.int (3 : Int32)), (.ref a54)])) rfl (by rw [hml]; rfl) (argsL := [(.int (3 : Int32))]) (rest := []) (lenOf pd__I_C rfl) rfl rfl (Nat.le_of_eq rfl) (hb hby at_275) (by decide) (by decide) all0
    refine Rn.pu (g' := (mkF m 278 #[.val (.int p0), .val (.int p1), .val (.int p2), .val (.int p3), .val (.int p4), .val (.int p5), .val (.int (4 : Int32)), .val (.int t0), .val (.int t1), .val (.int t2), .val (.int t3), .val (.ref a49), .val (.ref a54), .val (.ref a56), .val (.ref a54), .val (.int (1 : Int32))] [(.int t3)])) ?_ st65
    refine Rn.pu (T' := T65) (g' := (mkF m 280 #[.val (.int p0), .val (.int p1), .val (.int p2), .val (.int p3), .val (.int p4), .val (.int p5), .val (.int (4 : Int32)), .val (.int t0), .val (.int t1), .val (.int t2), .val (.int t3), .val (.ref a49), .val (.ref a54), .val (.ref a56), .val (.ref a54), .val (.int (1 : Int32))] [(.int t3), (.int t3)])) ?_ fun _ zk => XS.iload H65.here hx rfl (hb hby at_278) rfl zk
    refine Rn.pu (T' := T65) (g' := (mkF m 283 #[.val (.int p0), .val (.int p1), .val (.int p2), .val (.int p3), .val (.int p4), .val (.int p5), .val (.int (4 : Int32)), .val (.int t0), .val (.int t1), .val (.int t2), .val (.int t3), .val (.ref a49), .val (.ref a54), .val (.ref a56), .val (.ref a54), .val (.int (1 : Int32))] [])) ?_ fun _ zk => XS.icmpNo H65.here hx rfl (hb hby at_280) rfl (c_ne_f rfl) zk
    refine Rn.pu (T' := T65) (g' := (mkF m 284 #[.val (.int p0), .val (.int p1), .val (.int p2), .val (.int p3), .val (.int p4), .val (.int p5), .val (.int (4 : Int32)), .val (.int t0), .val (.int t1), .val (.int t2), .val (.int t3), .val (.ref a49), .val (.ref a54), .val (.ref a56), .val (.ref a54), .val (.int (1 : Int32))] [(.int (1 : Int32))])) ?_ fun _ zk => XS.iconst H65.here hx rfl (hb hby at_283) zk
    refine Rn.pu (T' := T65) (g' := (mkF m 288 #[.val (.int p0), .val (.int p1), .val (.int p2), .val (.int p3), .val (.int p4), .val (.int p5), .val (.int (4 : Int32)), .val (.int t0), .val (.int t1), .val (.int t2), .val (.int t3), .val (.ref a49), .val (.ref a54), .val (.ref a56), .val (.ref a54), .val (.int (1 : Int32))] [(.int (1 : Int32))])) ?_ fun _ zk => XS.goto H65.here hx rfl (pc0 := 284) (pc' := 288) rfl (hb hby at_284) (by decide) (by decide) zk
    refine Rn.pu (T' := T65) (g' := (mkF m 290 #[.val (.int p0), .val (.int p1), .val (.int p2), .val (.int p3), .val (.int p4), .val (.int p5), .val (.int (4 : Int32)), .val (.int t0), .val (.int t1), .val (.int t2), .val (.int t3), .val (.ref a49), .val (.ref a54), .val (.ref a56), .val (.ref a54), .val (.int (1 : Int32))] [])) ?_ fun _ zk => XS.istore H65.here hx rfl (hb hby at_288) rfl (l' := #[.val (.int p0), .val (.int p1), .val (.int p2), .val (.int p3), .val (.int p4), .val (.int p5), .val (.int (4 : Int32)), .val (.int t0), .val (.int t1), .val (.int t2), .val (.int t3), .val (.ref a49), .val (.ref a54), .val (.ref a56), .val (.ref a54), .val (.int (1 : Int32))]) rfl zk
    refine Rn.pu (T' := T65) (g' := (mkF m 292 #[.val (.int p0), .val (.int p1), .val (.int p2), .val (.int p3), .val (.int p4), .val (.int p5), .val (.int (4 : Int32)), .val (.int t0), .val (.int t1), .val (.int t2), .val (.int t3), .val (.ref a49), .val (.ref a54), .val (.ref a56), .val (.ref a54), .val (.int (1 : Int32))] [(.int (1 : Int32))])) ?_ fun _ zk => XS.iload H65.here hx rfl (hb hby at_290) rfl zk
    refine Rn.pu (T' := T65) (g' := (mkF m 295 #[.val (.int p0), .val (.int p1), .val (.int p2), .val (.int p3), .val (.int p4), .val (.int p5), .val (.int (4 : Int32)), .val (.int t0), .val (.int t1), .val (.int t2), .val (.int t3), .val (.ref a49), .val (.ref a54), .val (.ref a56), .val (.ref a54), .val (.int (1 : Int32))] [])) ?_ fun _ zk => XS.ifNo H65.here hx rfl (hb hby at_292) rfl (z_eq_f (by decide)) zk
    refine Rn.pu (T' := T65) (g' := (mkF m 297 #[.val (.int p0), .val (.int p1), .val (.int p2), .val (.int p3), .val (.int p4), .val (.int p5), .val (.int (4 : Int32)), .val (.int t0), .val (.int t1), .val (.int t2), .val (.int t3), .val (.ref a49), .val (.ref a54), .val (.ref a56), .val (.ref a54), .val (.int (1 : Int32))] [(.ref a54)])) ?_ fun _ zk => XS.aload H65.here hx rfl (hb hby at_295) rfl rfl zk
    refine Rn.pu (T' := T65) (g' := (mkF m 299 #[.val (.int p0), .val (.int p1), .val (.int p2), .val (.int p3), .val (.int p4), .val (.int p5), .val (.int (4 : Int32)), .val (.int t0), .val (.int t1), .val (.int t2), .val (.int t3), .val (.ref a49), .val (.ref a54), .val (.ref a56), .val (.ref a54), .val (.int (1 : Int32))] [(.ref a56), (.ref a54)])) ?_ fun _ zk => XS.aload H65.here hx rfl (hb hby at_297) rfl rfl zk
    obtain ⟨_, T66, h66, H66, ⟨rfl, rfl⟩, -, st66⟩ := H65.callV (C := "com/example/vestline/vestline/Field") (hw _ (List.mem_of_getElem? (i := 92) rfl)) (hw _ (List.mem_of_getElem? (i := 93) rfl)) (hw _ (List.mem_of_getElem? (i := 95) rfl)) (hw _ (List.mem_of_getElem? (i := 94) rfl)) (by decide) (MetN.pay (W := 1) (c_prn l ⟨hw, SC0, hz0, SF1, rf1, SU2, SU3, SU4⟩ a56 a54 h59 H65.old G59_3) (hw _ (List.mem_of_getElem? (i := 96) rfl)) (hw _ (List.mem_of_getElem? (i := 33) rfl)) (by decide) (by decide)) E59 (g := (mkF m 299 #[.val (.int p0), .val (.int p1), .val (.int p2), .val (.int p3), .val (.int p4), .val (.int p5), .val (.int (4 : Int32)), .val (.int t0), .val (.int t1), .val (.int t2), .val (.int t3), .val (.ref a49), .val (.ref a54), .val (.ref a56), .val (.ref a54), .val (.int (1 : Int32))] [(.ref a56), (.ref a54)])) rfl (by rw [hml]; rfl) (argsL := []) (rest := [(.ref a54)]) (lenOf pd___Ljava_lang_String_ rfl) rfl rfl (Nat.le_of_eq rfl) (hb hby at_299) (by decide) (by decide) all0
    refine Rn.pu (g' := (mkF m 302 #[.val (.int p0), .val (.int p1), .val (.int p2), .val (.int p3), .val (.int p4), .val (.int p5), .val (.int (4 : Int32)), .val (.int t0), .val (.int t1), .val (.int t2), .val (.int t3), .val (.ref a49), .val (.ref a54), .val (.ref a56), .val (.ref a54), .val (.int (1 : Int32))] [(.ref a54), (.ref a54)])) ?_ st66
    obtain ⟨_, T67, h67, H67, ⟨rfl, rfl⟩, -, st67⟩ := H66.callV (C := "java/lang/String") (hw _ (List.mem_of_getElem? (i := 97) rfl)) (hw _ (List.mem_of_getElem? (i := 98) rfl)) (hw _ (List.mem_of_getElem? (i := 100) rfl)) (hw _ (List.mem_of_getElem? (i := 99) rfl)) (by decide) (MetN.pay (W := 0) (c_same l ⟨hw, SC0, hz0, SF1, rf1, SU2, SU3, SU4⟩ a54 h59 H66.old) (hw _ (List.mem_of_getElem? (i := 101) rfl)) (hw _ (List.mem_of_getElem? (i := 4) rfl)) (by decide) (by decide)) ((((S55.exa.keep K56).keep K57).keep K58).keep K59) (g := (mkF m 302 #[.val (.int p0), .val (.int p1), .val (.int p2), .val (.int p3), .val (.int p4), .val (.int p5), .val (.int (4 : Int32)), .val (.int t0), .val (.int t1), .val (.int t2), .val (.int t3), .val (.ref a49), .val (.ref a54), .val (.ref a56), .val (.ref a54), .val (.int (1 : Int32))] [(.ref a54), (.ref a54)])) rfl (by rw [hml]; rfl) (argsL := [(.ref a54)]) (rest := []) (lenOf pd__Ljava_lang_Object__Z rfl) rfl rfl (Nat.le_of_eq rfl) (hb hby at_302) (by decide) (by decide) all0
    refine Rn.pu (g' := (mkF m 305 #[.val (.int p0), .val (.int p1), .val (.int p2), .val (.int p3), .val (.int p4), .val (.int p5), .val (.int (4 : Int32)), .val (.int t0), .val (.int t1), .val (.int t2), .val (.int t3), .val (.ref a49), .val (.ref a54), .val (.ref a56), .val (.ref a54), .val (.int (1 : Int32))] [(.int (1 : Int32))])) ?_ st67
    refine Rn.pu (T' := T67) (g' := (mkF m 308 #[.val (.int p0), .val (.int p1), .val (.int p2), .val (.int p3), .val (.int p4), .val (.int p5), .val (.int (4 : Int32)), .val (.int t0), .val (.int t1), .val (.int t2), .val (.int t3), .val (.ref a49), .val (.ref a54), .val (.ref a56), .val (.ref a54), .val (.int (1 : Int32))] [])) ?_ fun _ zk => XS.ifNo H67.here hx rfl (hb hby at_305) rfl (z_eq_f (by decide)) zk
    refine Rn.pu (T' := T67) (g' := (mkF m 310 #[.val (.int p0), .val (.int p1), .val (.int p2), .val (.int p3), .val (.int p4), .val (.int p5), .val (.int (4 : Int32)), .val (.int t0), .val (.int t1), .val (.int t2), .val (.int t3), .val (.ref a49), .val (.ref a54), .val (.ref a56), .val (.ref a54), .val (.int (1 : Int32))] [(.ref a56)])) ?_ fun _ zk => XS.aload H67.here hx rfl (hb hby at_308) rfl rfl zk
    obtain ⟨_, T68, h68, H68, ⟨rfl, rfl⟩, -, st68⟩ := H67.callV (C := "com/example/vestline/vestline/Field") (hw _ (List.mem_of_getElem? (i := 102) rfl)) (hw _ (List.mem_of_getElem? (i := 103) rfl)) (hw _ (List.mem_of_getElem? (i := 105) rfl)) (hw _ (List.mem_of_getElem? (i := 104) rfl)) (by decide) (MetN.pay (W := 0) (c_emp l ⟨hw, SC0, hz0, SF1, rf1, SU2, SU3, SU4⟩ a56 a54 t55 ([t0, t1, t2, t3]) h59 H67.old G59_3 ((((S55.keep K56 nin0 nin0).keep K57 nin0 nin0).keep K58 nin0 nin0).keep K59 (ninS (adne (by omega)) nin0) (ninS (adne (by omega)) nin0)) (by simp)) (hw _ (List.mem_of_getElem? (i := 106) rfl)) (hw _ (List.mem_of_getElem? (i := 33) rfl)) (by decide) (by decide)) E59 (g := (mkF m 310 #[.val (.int p0), .val (.int p1), .val (.int p2), .val (.int p3), .val (.int p4), .val (.int p5), .val (.int (4 : Int32)), .val (.int t0), .val (.int t1), .val (.int t2), .val (.int t3), .val (.ref a49), .val (.ref a54), .val (.ref a56), .val (.ref a54), .val (.int (1 : Int32))] [(.ref a56)])) rfl (by rw [hml]; rfl) (argsL := []) (rest := []) (lenOf pd___Z rfl) rfl rfl (Nat.le_of_eq rfl) (hb hby at_310) (by decide) (by decide) all0
    refine Rn.pu (g' := (mkF m 313 #[.val (.int p0), .val (.int p1), .val (.int p2), .val (.int p3), .val (.int p4), .val (.int p5), .val (.int (4 : Int32)), .val (.int t0), .val (.int t1), .val (.int t2), .val (.int t3), .val (.ref a49), .val (.ref a54), .val (.ref a56), .val (.ref a54), .val (.int (1 : Int32))] [(.int (0 : Int32))])) ?_ st68
    refine Rn.pu (T' := T68) (g' := (mkF m 316 #[.val (.int p0), .val (.int p1), .val (.int p2), .val (.int p3), .val (.int p4), .val (.int p5), .val (.int (4 : Int32)), .val (.int t0), .val (.int t1), .val (.int t2), .val (.int t3), .val (.ref a49), .val (.ref a54), .val (.ref a56), .val (.ref a54), .val (.int (1 : Int32))] [])) ?_ fun _ zk => XS.ifNo H68.here hx rfl (hb hby at_313) rfl (z_ne_f rfl) zk
    refine Rn.pu (T' := T68) (g' := (mkF m 317 #[.val (.int p0), .val (.int p1), .val (.int p2), .val (.int p3), .val (.int p4), .val (.int p5), .val (.int (4 : Int32)), .val (.int t0), .val (.int t1), .val (.int t2), .val (.int t3), .val (.ref a49), .val (.ref a54), .val (.ref a56), .val (.ref a54), .val (.int (1 : Int32))] [(.int (1 : Int32))])) ?_ fun _ zk => XS.iconst H68.here hx rfl (hb hby at_316) zk
    refine Rn.pu (T' := T68) (g' := (mkF m 321 #[.val (.int p0), .val (.int p1), .val (.int p2), .val (.int p3), .val (.int p4), .val (.int p5), .val (.int (4 : Int32)), .val (.int t0), .val (.int t1), .val (.int t2), .val (.int t3), .val (.ref a49), .val (.ref a54), .val (.ref a56), .val (.ref a54), .val (.int (1 : Int32))] [(.int (1 : Int32))])) ?_ fun _ zk => XS.goto H68.here hx rfl (pc0 := 317) (pc' := 321) rfl (hb hby at_317) (by decide) (by decide) zk
    exact H68.retS ends_W hlk (t := .boolean) hret (by simp) (hb hby at_321) (by decide) (by decide) (fun _ q => nomatch q) rfl
set_option maxRecDepth 65536 in
set_option maxHeartbeats 40000000 in
theorem comes_1 {Post : Tables → Env → Array Value → State → Outcome → State → Prop} (hpost : ∀ tb e args s v u, (limb_1_1.after args s (.returned v) u = true ∧ limb_1_2.after args s (.returned v) u = true ∧ True) → ReturnedEndW s (.returned v) u (Jvm.fieldLocs frame_1_writes args s ++ Jvm.arrayLocs frame_1_arrays args s ++ Jvm.staticLocs frame_1_statics s) 24 2176 → Post tb e args s (.returned v) u) :
    ArmFor flags0 classFile x code maxLocals ret World_1 tables_1 room_1 Calls_1 rest_1 Pre_1 Post := by
  intro l hfl _ _ p e ha hc hk s m args below hf hA hF happ hP
  obtain ⟨hcalls, hrest, hpre⟩ := hP
  obtain ⟨-, -, -, hnamed, -, -, -, hat⟩ := (Spec.applies_iff hf).mp happ
  obtain ⟨hg, hn⟩ := and_e (Cond.before_iff.mp (show (Jvm.Cond.and given_1 narrow_1).before args s = true from hpre))
  obtain ⟨hcount, g0⟩ := and_e hg
  obtain ⟨i0, g1⟩ := and_e g0
  obtain ⟨i1, g2⟩ := and_e g1
  obtain ⟨i2, g3⟩ := and_e g2
  obtain ⟨i3, g4⟩ := and_e g3
  obtain ⟨i4, g5⟩ := and_e g4
  obtain ⟨w0, w1, w2, w3, w4, w5, rfl⟩ : ∃ w0 w1 w2 w3 w4 w5 : Value, args = #[w0, w1, w2, w3, w4, w5] := by
    have hs : args.size = 6 := by simpa [Cond.value, given_1] using hcount
    obtain ⟨L⟩ := args
    match L, hs with
    | [w0, w1, w2, w3, w4, w5], _ => exact ⟨w0, w1, w2, w3, w4, w5, rfl⟩
  have hw := fun d (hd : d ∈ tables_1) => atoms_spec (ws := Jvm.Cond.code x code maxLocals ret :: tables_1) hat d (List.mem_cons_of_mem _ hd)
  obtain ⟨hsets, hown0⟩ := atoms_of _ (rest_1_c_eq ▸ (show rest_1_c.before _ s = true from hrest))
  have hfit : Fit s := fun {y c} hc i hi => by
    obtain ⟨ha, rfl⟩ := Array.getElem?_eq_some_iff.mp hc
    have q := List.all_eq_true.mp ((Array.all_eq_true_iff_forall_mem.mp hF) _ (Array.getElem_mem ha)) i (List.mem_range.mpr hi)
    simpa [Array.getElem?_eq_getElem hi] using q
  obtain ⟨p0, ep0⟩ := is_v i0
  obtain rfl : w0 = (.int p0) := Option.some.inj ep0
  obtain ⟨p1, ep1⟩ := is_v i1
  obtain rfl : w1 = (.int p1) := Option.some.inj ep1
  obtain ⟨p2, ep2⟩ := is_v i2
  obtain rfl : w2 = (.int p2) := Option.some.inj ep2
  obtain ⟨p3, ep3⟩ := is_v i3
  obtain rfl : w3 = (.int p3) := Option.some.inj ep3
  obtain ⟨p4, ep4⟩ := is_v i4
  obtain rfl : w4 = (.int p4) := Option.some.inj ep4
  obtain ⟨p5, ep5⟩ := is_v g5
  obtain rfl : w5 = (.int p5) := Option.some.inj ep5
  obtain ⟨zc, ezc⟩ := is_v (Cond.before_iff.mp (hsets _ (List.mem_of_getElem? (i := 1) rfl)))
  have SC0 : Sta s s.heap "java/lang/String" "COMPACT_STRINGS" "Z" (.int zc) := Sta.start ezc (Or.inl (hsets _ (List.mem_of_getElem? (i := 0) rfl)))
  have hz0 : ¬ (zc = (0 : Int32)) := gotF (Cond.eq_ints ezc (Term.int_eval (0))) (not_v (Cond.before_iff.mp (hsets _ (List.mem_of_getElem? (i := 2) rfl))))
  obtain ⟨fm, efm, rf1⟩ := isR_v (Cond.before_iff.mp (hsets _ (List.mem_of_getElem? (i := 8) rfl)))
  have SF1 : Sta s s.heap "jdk/internal/util/Preconditions" "SIOOBE_FORMATTER" "Ljava/util/function/BiFunction;" fm := Sta.start efm (Or.inl (hsets _ (List.mem_of_getElem? (i := 7) rfl)))
  have SU2 : Sta s s.heap "java/lang/StringUTF16" "$assertionsDisabled" "Z" (.int 1) := Sta.start (ev_int (Cond.before_iff.mp (hsets _ (List.mem_of_getElem? (i := 12) rfl)))) (Or.inl (hsets _ (List.mem_of_getElem? (i := 11) rfl)))
  have SU3 : Sta s s.heap "java/lang/StringUTF16" "HI_BYTE_SHIFT" "I" (.int 0) := Sta.start (ev_int (Cond.before_iff.mp (hsets _ (List.mem_of_getElem? (i := 15) rfl)))) (Or.inl (hsets _ (List.mem_of_getElem? (i := 14) rfl)))
  have SU4 : Sta s s.heap "java/lang/StringUTF16" "LO_BYTE_SHIFT" "I" (.int 8) := Sta.start (ev_int (Cond.before_iff.mp (hsets _ (List.mem_of_getElem? (i := 18) rfl)))) (Or.inl (hsets _ (List.mem_of_getElem? (i := 17) rfl)))
  obtain ⟨n, o, h1, h2, h3, _, L, rfl, ⟨rfl, N, -⟩, hq⟩ := c_law l (Z := s) ⟨hw, SC0, hz0, SF1, rf1, SU2, SU3, SU4⟩ p0 p1 p2 p3 p4 p5 p e ha hc hk s m _ below hf ((Spec.applies_iff_loose hf).mp happ).1 ⟨rfl, State.Warmed39.refl s, rfl, trivial⟩ trivial
  have N' : ∀ y ∈ L, s.heap.size ≤ y.base := fun y hy => (N y hy).elim (fun q => nomatch q) id
  refine ⟨n, _, h1, h2, h3, hpost _ _ _ _ _ _ ⟨Cond.after_iff.mpr rfl, Cond.after_iff.mpr (eq_i res_at (Term.int_eval (1)) rfl), trivial⟩ ⟨hq.1, hq.2.1, hq.2.2.1, (hq.2.2.2.sift fun y hy => Or.inr (N' y hy)).mono (by decide) (by decide)⟩⟩
theorem main_1_1 : Claimed_1_1 := comes_1 fun _ _ _ _ _ _ h hF => ⟨h.1, hF⟩
theorem main_1_2 : Claimed_1_2 := comes_1 fun _ _ _ _ _ _ h hF => ⟨h.2.1, hF⟩
end Jvm.Pilot.@@N@@
namespace Jvm.Pilot.@@N@@
open Jvm Jvm.ClassFile Sem Op Lib Jvm.Free Jvm.Stand Jvm.Pilot.@@N@@.Jvm.D
/-! MADE BY PROGRAM (witnessworld.py) out of the Statement's table words and the real class files: 20 classes; the members and pool entries that the words name. The judged class is class 1, her method 1. -/
namespace start1
open Jvm.ClassFile
def u (s : String) : CpInfo := .utf8 (stringToUtf16 s)
/-- a pool by its gaps: so many unusable entries, then the entry; so many at the end -/
def gap : Nat → List CpInfo → List CpInfo
  | 0, r => r
  | n + 1, r => .unusable :: gap n r
def poolList (es : List (Nat × CpInfo)) (last : Nat) : List CpInfo := es.foldr (fun e r => gap e.1 (e.2 :: r)) (gap last [])
def pool (es : List (Nat × CpInfo)) (last : Nat) : Array CpInfo := ⟨poolList es last⟩
def fileOf (pool : Array CpInfo) (this : Nat) (attrs : Array Attribute := #[]) (ms : Array MethodInfo := #[]) (fl : Nat := 33) (sup : Nat := 0) (ifs : Array Nat := #[]) (fds : Array FieldInfo := #[]) : ClassFile where
  minorVersion := 0
  majorVersion := 65
  constantPool := pool
  accessFlags := fl
  thisClass := this
  superClass := sup
  interfaces := ifs
  fields := fds
  methods := ms
  attributes := attrs
def plain (name : String) (sup : Option ClassId) : Class where
  name := name
  kind := .ordinary
  loader := none
  accessFlags := 33
  super := sup
  interfaces := #[]
  cf := none
  fields := #[]
  methods := #[]
  instanceTypes := #[]
  staticTypes := #[]
  resolved := #[]
  callSites := []
  init := .initialized
  statics := none
  mirror := none

def pool0 : Array CpInfo := pool [(5, u "<init>"), (0, u "()V"), (1, .class_ 10), (1, u "java/lang/Object")] 113

def k0c0 : Code := { maxStack := 0, maxLocals := 1, code := object_method_1_code, exceptionTable := #[], attributes := #[] }
def k0m0 : Method := { name := "<init>", desc := "()V", sig := { parameters := [], returnType := none }, accessFlags := 1, code := some k0c0 }
/-- java/lang/Object -/
def k0 : Class := { plain "java/lang/Object" none with
  accessFlags := 33
  interfaces := #[]
  cf := some (fileOf pool0 8 #[] #[{ accessFlags := 1, nameIndex := 5, descriptorIndex := 6, attributes := #[] }] 33 0 #[] #[])
  fields := #[]
  methods := #[k0m0]
  instanceTypes := #[]
  staticTypes := #[]
  resolved := Array.replicate 124 none
  statics := none }

def pool1 : Array CpInfo := pool [(2, .class_ 4), (1, u "java/lang/Object"), (0, u "<init>"), (0, u "()V"), (0, .integer 65535), (0, .class_ 9), (0, u "java/lang/String"), (0, .methodref 8 11), (0, .nameAndType 5 12), (0, u "([C)V"), (0, .class_ 14), (0, u "com/example/vestline/vestline/Field"), (0, .string 16), (0, u "s"), (0, .string 18), (0, u "column x"), (0, .methodref 13 20), (0, .nameAndType 5 21), (0, u "(Ljava/lang/String;ILjava/lang/String;Ljava/lang/String;)V"), (0, .methodref 13 23), (0, .nameAndType 24 25), (0, u "text"), (0, u "()Ljava/lang/String;"), (0, .methodref 8 27), (0, .nameAndType 28 29), (0, u "length"), (0, u "()I"), (0, .methodref 8 31), (0, .nameAndType 32 33), (0, u "charAt"), (0, u "(I)C"), (0, .methodref 13 35), (0, .nameAndType 36 25), (0, u "printed"), (0, .methodref 8 38), (0, .nameAndType 39 40), (0, u "equals"), (0, u "(Ljava/lang/Object;)Z"), (0, .methodref 13 42), (0, .nameAndType 43 44), (0, u "isEmpty"), (0, u "()Z"), (0, .class_ 46), (0, u "com/example/vestline/vestline/FieldTextPinLaw"), (2, u "law"), (0, u "(IIIIII)Z")] 8

def k1m0 : Method := { name := "<init>", desc := "()V", sig := { parameters := [], returnType := none }, accessFlags := 2, code := none }
def k1c1 : Code := { maxStack := 6, maxLocals := 16, code := code, exceptionTable := #[], attributes := #[] }
def k1m1 : Method := { name := "law", desc := "(IIIIII)Z", sig := { parameters := [.int, .int, .int, .int, .int, .int], returnType := some .boolean }, accessFlags := 9, code := some k1c1 }
/-- com/example/vestline/vestline/FieldTextPinLaw -/
def k1 : Class := { plain "com/example/vestline/vestline/FieldTextPinLaw" (some 0) with
  accessFlags := 49
  interfaces := #[]
  cf := some (fileOf pool1 45 #[] #[{ accessFlags := 2, nameIndex := 5, descriptorIndex := 6, attributes := #[] }, { accessFlags := 9, nameIndex := 49, descriptorIndex := 50, attributes := #[] }] 49 2 #[] #[])
  fields := #[]
  methods := #[k1m0, k1m1]
  instanceTypes := #[]
  staticTypes := #[]
  resolved := Array.replicate 59 none
  statics := none }

def pool2 : Array CpInfo := pool [(1, .class_ 2), (0, u "java/io/Serializable"), (0, .class_ 4), (0, u "java/lang/Object")] 2

/-- java/io/Serializable -/
def k2 : Class := { plain "java/io/Serializable" (some 0) with
  accessFlags := 1537
  interfaces := #[]
  cf := some (fileOf pool2 1 #[] #[] 1537 3 #[] #[])
  fields := #[]
  methods := #[]
  instanceTypes := #[]
  staticTypes := #[]
  resolved := Array.replicate 7 none
  statics := none }

def pool3 : Array CpInfo := pool [(1, .class_ 2), (0, u "java/lang/Comparable"), (0, .class_ 4), (0, u "java/lang/Object")] 7

/-- java/lang/Comparable -/
def k3 : Class := { plain "java/lang/Comparable" (some 0) with
  accessFlags := 1537
  interfaces := #[]
  cf := some (fileOf pool3 1 #[] #[] 1537 3 #[] #[])
  fields := #[]
  methods := #[]
  instanceTypes := #[]
  staticTypes := #[]
  resolved := Array.replicate 12 none
  statics := none }

def pool4 : Array CpInfo := pool [(2, .class_ 4), (1, u "java/lang/CharSequence"), (42, .class_ 48), (0, u "java/lang/CharSequence$1CodePointIterator"), (10, .class_ 60), (0, u "java/lang/CharSequence$1CharIterator"), (5, .class_ 67), (0, u "java/lang/Object")] 63

/-- java/lang/CharSequence -/
def k4 : Class := { plain "java/lang/CharSequence" (some 0) with
  accessFlags := 1537
  interfaces := #[]
  cf := some (fileOf pool4 2 #[.nestMembers #[47, 59]] #[] 1537 66 #[] #[])
  fields := #[]
  methods := #[]
  instanceTypes := #[]
  staticTypes := #[]
  resolved := Array.replicate 131 none
  statics := none }

def pool5 : Array CpInfo := pool [(1, .class_ 2), (0, u "java/lang/constant/Constable"), (0, .class_ 4), (0, u "java/lang/Object")] 6

/-- java/lang/constant/Constable -/
def k5 : Class := { plain "java/lang/constant/Constable" (some 0) with
  accessFlags := 1537
  interfaces := #[]
  cf := some (fileOf pool5 1 #[] #[] 1537 3 #[] #[])
  fields := #[]
  methods := #[]
  instanceTypes := #[]
  staticTypes := #[]
  resolved := Array.replicate 11 none
  statics := none }

def pool6 : Array CpInfo := pool [(1, .class_ 2), (0, u "java/lang/constant/ConstantDesc"), (0, .class_ 4), (0, u "java/lang/Object")] 32

/-- java/lang/constant/ConstantDesc -/
def k6 : Class := { plain "java/lang/constant/ConstantDesc" (some 0) with
  accessFlags := 1537
  interfaces := #[]
  cf := some (fileOf pool6 1 #[] #[] 1537 3 #[] #[])
  fields := #[]
  methods := #[]
  instanceTypes := #[]
  staticTypes := #[]
  resolved := Array.replicate 37 none
  statics := none }

def pool7 : Array CpInfo := pool [(1, .methodref 2 3), (0, .class_ 4), (0, .nameAndType 5 6), (0, u "java/lang/Object"), (0, u "<init>"), (0, u "()V"), (2, .fieldref 10 11), (0, .class_ 12), (0, .nameAndType 13 14), (0, u "java/lang/String"), (0, u "value"), (0, u "[B"), (0, .fieldref 10 16), (0, .nameAndType 17 18), (0, u "coder"), (0, u "B"), (2, u "hash"), (0, u "I"), (2, u "hashIsZero"), (0, u "Z"), (0, .methodref 10 28), (0, .nameAndType 5 29), (0, u "([CIILjava/lang/Void;)V"), (8, .fieldref 10 39), (0, .nameAndType 40 26), (0, u "COMPACT_STRINGS"), (1, .class_ 44), (1, u "java/lang/StringUTF16"), (0, u "compress"), (1, .methodref 42 48), (0, .nameAndType 49 50), (0, u "coderFromArrayLen"), (0, u "([BI)B"), (56, .class_ 109), (1, u "java/lang/StringLatin1"), (32, u "()Z"), (34, .methodref 42 178), (0, .nameAndType 45 179), (0, u "([CII)[B"), (154, u "()I"), (0, .methodref 10 336), (0, .nameAndType 17 337), (0, u "()B"), (25, u "([BI)C"), (27, u "(II)V"), (35, u "(I)C"), (64, .methodref 10 493), (0, .nameAndType 494 142), (0, u "isLatin1"), (0, .methodref 107 496), (0, .nameAndType 497 363), (0, u "charAt"), (0, .methodref 42 496), (2, u "checkIndex"), (5, u "length"), (35, u "equals"), (29, u "(Ljava/lang/Object;)Z"), (1, .class_ 576), (0, u "java/lang/CharSequence"), (22, u "CASE_INSENSITIVE_ORDER"), (0, u "Ljava/util/Comparator;"), (91, u "isEmpty"), (317, u "([C)V"), (42, .fieldref 1054 1055), (0, .class_ 1056), (0, .nameAndType 1057 1058), (0, u "jdk/internal/util/Preconditions"), (0, u "SIOOBE_FORMATTER"), (0, u "Ljava/util/function/BiFunction;"), (0, .methodref 1054 1060), (0, .nameAndType 501 1061), (0, u "(IILjava/util/function/BiFunction;)I"), (39, u "serialPersistentFields"), (0, u "[Ljava/io/ObjectStreamField;"), (0, .class_ 1104), (0, u "java/lang/String$CaseInsensitiveComparator"), (1, .class_ 1107), (0, u "java/io/Serializable"), (0, .class_ 1109), (0, u "java/lang/Comparable"), (0, .class_ 1111), (0, u "java/lang/constant/Constable"), (0, .class_ 1113), (0, u "java/lang/constant/ConstantDesc"), (2, u "serialVersionUID"), (0, u "J"), (3, u "REPL"), (0, u "C"), (2, u "LATIN1"), (1, u "UTF16")] 323

def k7m0 : Method := { name := "<init>", desc := "()V", sig := { parameters := [], returnType := none }, accessFlags := 1, code := none }
def k7c1 : Code := { maxStack := 5, maxLocals := 2, code := jdk_42_method_3_code, exceptionTable := #[], attributes := #[] }
def k7m1 : Method := { name := "<init>", desc := "([C)V", sig := { parameters := [(.array .char)], returnType := none }, accessFlags := 1, code := some k7c1 }
def k7c2 : Code := { maxStack := 2, maxLocals := 1, code := jdk_42_method_54_code, exceptionTable := #[], attributes := #[] }
def k7m2 : Method := { name := "length", desc := "()I", sig := { parameters := [], returnType := some .int }, accessFlags := 1, code := some k7c2 }
def k7c3 : Code := { maxStack := 1, maxLocals := 1, code := jdk_42_method_55_code, exceptionTable := #[], attributes := #[] }
def k7m3 : Method := { name := "isEmpty", desc := "()Z", sig := { parameters := [], returnType := some .boolean }, accessFlags := 1, code := some k7c3 }
def k7c4 : Code := { maxStack := 2, maxLocals := 2, code := jdk_42_method_56_code, exceptionTable := #[], attributes := #[] }
def k7m4 : Method := { name := "charAt", desc := "(I)C", sig := { parameters := [.int], returnType := some .char }, accessFlags := 1, code := some k7c4 }
def k7c5 : Code := { maxStack := 2, maxLocals := 3, code := jdk_42_method_66_code, exceptionTable := #[], attributes := #[] }
def k7m5 : Method := { name := "equals", desc := "(Ljava/lang/Object;)Z", sig := { parameters := [(.object "java/lang/Object")], returnType := some .boolean }, accessFlags := 1, code := some k7c5 }
def k7c6 : Code := { maxStack := 4, maxLocals := 6, code := jdk_42_method_149_code, exceptionTable := #[], attributes := #[] }
def k7m6 : Method := { name := "<init>", desc := "([CIILjava/lang/Void;)V", sig := { parameters := [(.array .char), .int, .int, (.object "java/lang/Void")], returnType := none }, accessFlags := 2, code := some k7c6 }
def k7c7 : Code := { maxStack := 1, maxLocals := 1, code := jdk_42_method_152_code, exceptionTable := #[], attributes := #[] }
def k7m7 : Method := { name := "coder", desc := "()B", sig := { parameters := [], returnType := some .byte }, accessFlags := 0, code := some k7c7 }
def k7c8 : Code := { maxStack := 1, maxLocals := 1, code := jdk_42_method_154_code, exceptionTable := #[], attributes := #[] }
def k7m8 : Method := { name := "isLatin1", desc := "()Z", sig := { parameters := [], returnType := some .boolean }, accessFlags := 0, code := some k7c8 }
def k7c9 : Code := { maxStack := 3, maxLocals := 2, code := jdk_42_method_155_code, exceptionTable := #[], attributes := #[] }
def k7m9 : Method := { name := "checkIndex", desc := "(II)V", sig := { parameters := [.int, .int], returnType := none }, accessFlags := 8, code := some k7c9 }
/-- java/lang/String -/
def k7 : Class := { plain "java/lang/String" (some 0) with
  accessFlags := 49
  interfaces := #[2, 3, 4, 5, 6]
  cf := some (fileOf pool7 10 #[.nestMembers #[1103]] #[{ accessFlags := 1, nameIndex := 5, descriptorIndex := 6, attributes := #[] }, { accessFlags := 1, nameIndex := 5, descriptorIndex := 1010, attributes := #[] }, { accessFlags := 1, nameIndex := 507, descriptorIndex := 334, attributes := #[] }, { accessFlags := 1, nameIndex := 692, descriptorIndex := 142, attributes := #[] }, { accessFlags := 1, nameIndex := 497, descriptorIndex := 427, attributes := #[] }, { accessFlags := 1, nameIndex := 543, descriptorIndex := 573, attributes := #[] }, { accessFlags := 2, nameIndex := 5, descriptorIndex := 29, attributes := #[] }, { accessFlags := 0, nameIndex := 17, descriptorIndex := 337, attributes := #[] }, { accessFlags := 0, nameIndex := 494, descriptorIndex := 142, attributes := #[] }, { accessFlags := 8, nameIndex := 501, descriptorIndex := 391, attributes := #[] }] 49 2 #[1106, 1108, 575, 1110, 1112] #[{ accessFlags := 18, nameIndex := 13, descriptorIndex := 14, attributes := #[] }, { accessFlags := 18, nameIndex := 17, descriptorIndex := 18, attributes := #[] }, { accessFlags := 2, nameIndex := 21, descriptorIndex := 22, attributes := #[] }, { accessFlags := 2, nameIndex := 25, descriptorIndex := 26, attributes := #[] }, { accessFlags := 26, nameIndex := 1116, descriptorIndex := 1117, attributes := #[] }, { accessFlags := 24, nameIndex := 40, descriptorIndex := 26, attributes := #[] }, { accessFlags := 26, nameIndex := 1101, descriptorIndex := 1102, attributes := #[] }, { accessFlags := 26, nameIndex := 1121, descriptorIndex := 1122, attributes := #[] }, { accessFlags := 25, nameIndex := 599, descriptorIndex := 600, attributes := #[] }, { accessFlags := 24, nameIndex := 1125, descriptorIndex := 18, attributes := #[] }, { accessFlags := 24, nameIndex := 1127, descriptorIndex := 18, attributes := #[] }])
  fields := #[{ name := "value", type := (.array .byte), accessFlags := 18, slot := 0, constantValue := 0 }, { name := "coder", type := .byte, accessFlags := 18, slot := 1, constantValue := 0 }, { name := "hash", type := .int, accessFlags := 2, slot := 2, constantValue := 0 }, { name := "hashIsZero", type := .boolean, accessFlags := 2, slot := 3, constantValue := 0 }, { name := "serialVersionUID", type := .long, accessFlags := 26, slot := 0, constantValue := 0 }, { name := "COMPACT_STRINGS", type := .boolean, accessFlags := 24, slot := 1, constantValue := 0 }, { name := "serialPersistentFields", type := (.array (.object "java/io/ObjectStreamField")), accessFlags := 26, slot := 2, constantValue := 0 }, { name := "REPL", type := .char, accessFlags := 26, slot := 3, constantValue := 0 }, { name := "CASE_INSENSITIVE_ORDER", type := (.object "java/util/Comparator"), accessFlags := 25, slot := 4, constantValue := 0 }, { name := "LATIN1", type := .byte, accessFlags := 24, slot := 5, constantValue := 0 }, { name := "UTF16", type := .byte, accessFlags := 24, slot := 6, constantValue := 0 }]
  methods := #[k7m0, k7m1, k7m2, k7m3, k7m4, k7m5, k7m6, k7m7, k7m8, k7m9]
  instanceTypes := #[(.array .byte), .byte, .int, .boolean]
  staticTypes := #[.long, .boolean, (.array (.object "java/io/ObjectStreamField")), .char, (.object "java/util/Comparator"), .byte, .byte]
  resolved := Array.replicate 1451 none
  statics := some 0 }

def pool8 : Array CpInfo := pool [(3, .class_ 4), (0, u "java/lang/String"), (1, .class_ 8), (1, u "java/lang/Object"), (0, u "<init>"), (0, u "()V"), (0, .methodref 12 13), (0, .class_ 14), (0, .nameAndType 15 16), (0, u "java/lang/StringUTF16"), (0, u "newBytesLength"), (0, u "(I)I"), (3, .integer 1073741823), (23, .fieldref 12 45), (0, .nameAndType 46 47), (0, u "$assertionsDisabled"), (0, u "Z"), (0, .methodref 12 49), (0, .nameAndType 50 51), (0, u "length"), (0, u "([B)I"), (7, .fieldref 12 60), (0, .nameAndType 61 62), (0, u "HI_BYTE_SHIFT"), (0, u "I"), (0, .fieldref 12 64), (0, .nameAndType 65 62), (0, u "LO_BYTE_SHIFT"), (1, .methodref 12 68), (0, .nameAndType 69 70), (0, u "checkIndex"), (0, u "(I[B)V"), (0, .methodref 12 72), (0, .nameAndType 73 74), (0, u "getChar"), (0, u "([BI)C"), (32, .methodref 12 108), (0, .nameAndType 109 110), (0, u "newBytesFor"), (0, u "(I)[B"), (0, .methodref 12 112), (0, .nameAndType 113 114), (0, u "putChar"), (0, u "([BII)V"), (0, .methodref 12 116), (0, .nameAndType 117 118), (0, u "compress"), (0, u "([CI[BII)I"), (0, .methodref 12 120), (0, .nameAndType 121 122), (0, u "toBytes"), (0, u "([CII)[B"), (138, u "coderFromArrayLen"), (0, u "([BI)B"), (106, .class_ 371), (1, u "java/lang/StringUTF16$LinesSpliterator"), (20, u "charAt"), (21, .methodref 3 415), (0, .nameAndType 69 416), (0, u "(II)V"), (13, u "MAX_LENGTH"), (196, .class_ 628), (0, u "java/lang/StringUTF16$CodePointsSpliterator"), (0, .class_ 630), (0, u "java/lang/StringUTF16$CharsSpliterator")] 4

def k8m0 : Method := { name := "<init>", desc := "()V", sig := { parameters := [], returnType := none }, accessFlags := 0, code := none }
def k8c1 : Code := { maxStack := 1, maxLocals := 1, code := jdk_52_method_2_code, exceptionTable := #[], attributes := #[] }
def k8m1 : Method := { name := "newBytesFor", desc := "(I)[B", sig := { parameters := [.int], returnType := some (.array .byte) }, accessFlags := 9, code := some k8c1 }
def k8c2 : Code := { maxStack := 4, maxLocals := 1, code := jdk_52_method_3_code, exceptionTable := #[], attributes := #[] }
def k8m2 : Method := { name := "newBytesLength", desc := "(I)I", sig := { parameters := [.int], returnType := some .int }, accessFlags := 9, code := some k8c2 }
def k8c3 : Code := { maxStack := 4, maxLocals := 3, code := jdk_52_method_4_code, exceptionTable := #[], attributes := #[] }
def k8m3 : Method := { name := "putChar", desc := "([BII)V", sig := { parameters := [(.array .byte), .int, .int], returnType := none }, accessFlags := 8, code := some k8c3 }
def k8c4 : Code := { maxStack := 3, maxLocals := 2, code := jdk_52_method_5_code, exceptionTable := #[], attributes := #[] }
def k8m4 : Method := { name := "getChar", desc := "([BI)C", sig := { parameters := [(.array .byte), .int], returnType := some .char }, accessFlags := 8, code := some k8c4 }
def k8c5 : Code := { maxStack := 2, maxLocals := 1, code := jdk_52_method_6_code, exceptionTable := #[], attributes := #[] }
def k8m5 : Method := { name := "length", desc := "([B)I", sig := { parameters := [(.array .byte)], returnType := some .int }, accessFlags := 9, code := some k8c5 }
def k8c6 : Code := { maxStack := 4, maxLocals := 5, code := jdk_52_method_14_code, exceptionTable := #[], attributes := #[] }
def k8m6 : Method := { name := "toBytes", desc := "([CII)[B", sig := { parameters := [(.array .char), .int, .int], returnType := some (.array .byte) }, accessFlags := 9, code := some k8c6 }
def k8c7 : Code := { maxStack := 2, maxLocals := 2, code := jdk_52_method_15_code, exceptionTable := #[], attributes := #[] }
def k8m7 : Method := { name := "coderFromArrayLen", desc := "([BI)B", sig := { parameters := [(.array .byte), .int], returnType := some .byte }, accessFlags := 8, code := some k8c7 }
def k8c8 : Code := { maxStack := 5, maxLocals := 6, code := jdk_52_method_16_code, exceptionTable := #[], attributes := #[] }
def k8m8 : Method := { name := "compress", desc := "([CII)[B", sig := { parameters := [(.array .char), .int, .int], returnType := some (.array .byte) }, accessFlags := 9, code := some k8c8 }
def k8c9 : Code := { maxStack := 3, maxLocals := 7, code := jdk_52_method_21_code, exceptionTable := #[], attributes := #[] }
def k8m9 : Method := { name := "compress", desc := "([CI[BII)I", sig := { parameters := [(.array .char), .int, (.array .byte), .int, .int], returnType := some .int }, accessFlags := 9, code := some k8c9 }
def k8c10 : Code := { maxStack := 2, maxLocals := 2, code := jdk_52_method_83_code, exceptionTable := #[], attributes := #[] }
def k8m10 : Method := { name := "charAt", desc := "([BI)C", sig := { parameters := [(.array .byte), .int], returnType := some .char }, accessFlags := 9, code := some k8c10 }
def k8c11 : Code := { maxStack := 2, maxLocals := 2, code := jdk_52_method_91_code, exceptionTable := #[], attributes := #[] }
def k8m11 : Method := { name := "checkIndex", desc := "(I[B)V", sig := { parameters := [.int, (.array .byte)], returnType := none }, accessFlags := 9, code := some k8c11 }
/-- java/lang/StringUTF16 -/
def k8 : Class := { plain "java/lang/StringUTF16" (some 0) with
  accessFlags := 48
  interfaces := #[]
  cf := some (fileOf pool8 12 #[.nestMembers #[627, 629, 369]] #[{ accessFlags := 0, nameIndex := 9, descriptorIndex := 10, attributes := #[] }, { accessFlags := 9, nameIndex := 109, descriptorIndex := 110, attributes := #[] }, { accessFlags := 9, nameIndex := 15, descriptorIndex := 16, attributes := #[] }, { accessFlags := 8, nameIndex := 113, descriptorIndex := 114, attributes := #[] }, { accessFlags := 8, nameIndex := 73, descriptorIndex := 74, attributes := #[] }, { accessFlags := 9, nameIndex := 50, descriptorIndex := 51, attributes := #[] }, { accessFlags := 9, nameIndex := 121, descriptorIndex := 122, attributes := #[] }, { accessFlags := 8, nameIndex := 261, descriptorIndex := 262, attributes := #[] }, { accessFlags := 9, nameIndex := 117, descriptorIndex := 122, attributes := #[] }, { accessFlags := 9, nameIndex := 117, descriptorIndex := 118, attributes := #[] }, { accessFlags := 9, nameIndex := 392, descriptorIndex := 74, attributes := #[] }, { accessFlags := 9, nameIndex := 69, descriptorIndex := 70, attributes := #[] }] 48 6 #[] #[{ accessFlags := 26, nameIndex := 61, descriptorIndex := 62, attributes := #[] }, { accessFlags := 26, nameIndex := 65, descriptorIndex := 62, attributes := #[] }, { accessFlags := 24, nameIndex := 430, descriptorIndex := 62, attributes := #[] }, { accessFlags := 4120, nameIndex := 46, descriptorIndex := 47, attributes := #[] }])
  fields := #[{ name := "HI_BYTE_SHIFT", type := .int, accessFlags := 26, slot := 0, constantValue := 0 }, { name := "LO_BYTE_SHIFT", type := .int, accessFlags := 26, slot := 1, constantValue := 0 }, { name := "MAX_LENGTH", type := .int, accessFlags := 24, slot := 2, constantValue := 0 }, { name := "$assertionsDisabled", type := .boolean, accessFlags := 4120, slot := 3, constantValue := 0 }]
  methods := #[k8m0, k8m1, k8m2, k8m3, k8m4, k8m5, k8m6, k8m7, k8m8, k8m9, k8m10, k8m11]
  instanceTypes := #[]
  staticTypes := #[.int, .int, .int, .boolean]
  resolved := Array.replicate 635 none
  statics := some 1 }

def pool9 : Array CpInfo := pool [(1, .methodref 2 3), (0, .class_ 4), (0, .nameAndType 5 6), (0, u "java/lang/Object"), (0, u "<init>"), (0, u "()V"), (0, .fieldref 8 9), (0, .class_ 10), (0, .nameAndType 11 12), (0, u "com/example/vestline/vestline/Field"), (0, u "m_source"), (0, u "Ljava/lang/String;"), (0, .fieldref 8 14), (0, .nameAndType 15 16), (0, u "m_line"), (0, u "I"), (0, .fieldref 8 18), (0, .nameAndType 19 12), (0, u "m_name"), (0, .fieldref 8 21), (0, .nameAndType 22 12), (0, u "m_text"), (0, .methodref 24 25), (0, .class_ 26), (0, .nameAndType 27 28), (0, u "java/lang/String"), (0, u "isEmpty"), (0, u "()Z"), (8, u "m_decimal"), (0, u "Ljava/math/BigDecimal;"), (2, u "text"), (0, u "()Ljava/lang/String;"), (103, u "m_date"), (0, u "Ljava/time/LocalDate;"), (11, u "FIRST_DATE"), (6, u "LAST_DATE"), (14, u "(Ljava/lang/String;ILjava/lang/String;Ljava/lang/String;)V"), (11, u "INTEGER_DIGITS"), (22, u "WHOLE_NUMBER_DIGITS"), (2, u "FRACTION_DIGITS"), (1, u "QUOTED_CHARACTERS"), (5, u "printed")] 59

def k9c0 : Code := { maxStack := 2, maxLocals := 5, code := prog_17_method_1_code, exceptionTable := #[], attributes := #[] }
def k9m0 : Method := { name := "<init>", desc := "(Ljava/lang/String;ILjava/lang/String;Ljava/lang/String;)V", sig := { parameters := [(.object "java/lang/String"), .int, (.object "java/lang/String"), (.object "java/lang/String")], returnType := none }, accessFlags := 0, code := some k9c0 }
def k9c1 : Code := { maxStack := 2, maxLocals := 1, code := prog_17_method_2_code, exceptionTable := #[], attributes := #[] }
def k9m1 : Method := { name := "text", desc := "()Ljava/lang/String;", sig := { parameters := [], returnType := some (.object "java/lang/String") }, accessFlags := 0, code := some k9c1 }
def k9c2 : Code := { maxStack := 1, maxLocals := 1, code := prog_17_method_3_code, exceptionTable := #[], attributes := #[] }
def k9m2 : Method := { name := "printed", desc := "()Ljava/lang/String;", sig := { parameters := [], returnType := some (.object "java/lang/String") }, accessFlags := 0, code := some k9c2 }
def k9c3 : Code := { maxStack := 1, maxLocals := 1, code := prog_17_method_4_code, exceptionTable := #[], attributes := #[] }
def k9m3 : Method := { name := "isEmpty", desc := "()Z", sig := { parameters := [], returnType := some .boolean }, accessFlags := 0, code := some k9c3 }
/-- com/example/vestline/vestline/Field -/
def k9 : Class := { plain "com/example/vestline/vestline/Field" (some 0) with
  accessFlags := 48
  interfaces := #[]
  cf := some (fileOf pool9 8 #[] #[{ accessFlags := 0, nameIndex := 5, descriptorIndex := 181, attributes := #[] }, { accessFlags := 0, nameIndex := 41, descriptorIndex := 42, attributes := #[] }, { accessFlags := 0, nameIndex := 227, descriptorIndex := 42, attributes := #[] }, { accessFlags := 0, nameIndex := 27, descriptorIndex := 28, attributes := #[] }] 48 2 #[] #[{ accessFlags := 26, nameIndex := 216, descriptorIndex := 16, attributes := #[] }, { accessFlags := 26, nameIndex := 193, descriptorIndex := 16, attributes := #[] }, { accessFlags := 26, nameIndex := 219, descriptorIndex := 16, attributes := #[] }, { accessFlags := 26, nameIndex := 221, descriptorIndex := 16, attributes := #[] }, { accessFlags := 26, nameIndex := 159, descriptorIndex := 147, attributes := #[] }, { accessFlags := 26, nameIndex := 166, descriptorIndex := 147, attributes := #[] }, { accessFlags := 18, nameIndex := 11, descriptorIndex := 12, attributes := #[] }, { accessFlags := 18, nameIndex := 15, descriptorIndex := 16, attributes := #[] }, { accessFlags := 18, nameIndex := 19, descriptorIndex := 12, attributes := #[] }, { accessFlags := 18, nameIndex := 22, descriptorIndex := 12, attributes := #[] }, { accessFlags := 2, nameIndex := 146, descriptorIndex := 147, attributes := #[] }, { accessFlags := 2, nameIndex := 37, descriptorIndex := 38, attributes := #[] }])
  fields := #[{ name := "WHOLE_NUMBER_DIGITS", type := .int, accessFlags := 26, slot := 0, constantValue := 0 }, { name := "INTEGER_DIGITS", type := .int, accessFlags := 26, slot := 1, constantValue := 0 }, { name := "FRACTION_DIGITS", type := .int, accessFlags := 26, slot := 2, constantValue := 0 }, { name := "QUOTED_CHARACTERS", type := .int, accessFlags := 26, slot := 3, constantValue := 0 }, { name := "FIRST_DATE", type := (.object "java/time/LocalDate"), accessFlags := 26, slot := 4, constantValue := 0 }, { name := "LAST_DATE", type := (.object "java/time/LocalDate"), accessFlags := 26, slot := 5, constantValue := 0 }, { name := "m_source", type := (.object "java/lang/String"), accessFlags := 18, slot := 0, constantValue := 0 }, { name := "m_line", type := .int, accessFlags := 18, slot := 1, constantValue := 0 }, { name := "m_name", type := (.object "java/lang/String"), accessFlags := 18, slot := 2, constantValue := 0 }, { name := "m_text", type := (.object "java/lang/String"), accessFlags := 18, slot := 3, constantValue := 0 }, { name := "m_date", type := (.object "java/time/LocalDate"), accessFlags := 2, slot := 4, constantValue := 0 }, { name := "m_decimal", type := (.object "java/math/BigDecimal"), accessFlags := 2, slot := 5, constantValue := 0 }]
  methods := #[k9m0, k9m1, k9m2, k9m3]
  instanceTypes := #[(.object "java/lang/String"), .int, (.object "java/lang/String"), (.object "java/lang/String"), (.object "java/time/LocalDate"), (.object "java/math/BigDecimal")]
  staticTypes := #[.int, .int, .int, .int, (.object "java/time/LocalDate"), (.object "java/time/LocalDate")]
  resolved := Array.replicate 287 none
  statics := none }

def pool10 : Array CpInfo := pool [(1, .class_ 2), (0, u "java/lang/String"), (1, .class_ 6), (1, u "java/lang/Object"), (0, u "<init>"), (0, u "()V"), (0, .methodref 1 10), (0, .nameAndType 11 12), (0, u "checkIndex"), (0, u "(II)V"), (1, .class_ 16), (1, u "java/lang/StringLatin1"), (36, u "([BI)C"), (67, u "$assertionsDisabled"), (0, u "Z"), (98, .class_ 223), (1, u "java/lang/StringLatin1$LinesSpliterator"), (28, u "charAt"), (137, .class_ 391), (0, u "java/lang/StringLatin1$CharsSpliterator")] 3

def k10m0 : Method := { name := "<init>", desc := "()V", sig := { parameters := [], returnType := none }, accessFlags := 0, code := none }
def k10c1 : Code := { maxStack := 2, maxLocals := 2, code := jdk_43_method_2_code, exceptionTable := #[], attributes := #[] }
def k10m1 : Method := { name := "charAt", desc := "([BI)C", sig := { parameters := [(.array .byte), .int], returnType := some .char }, accessFlags := 9, code := some k10c1 }
/-- java/lang/StringLatin1 -/
def k10 : Class := { plain "java/lang/StringLatin1" (some 0) with
  accessFlags := 48
  interfaces := #[]
  cf := some (fileOf pool10 14 #[.nestMembers #[390, 221]] #[{ accessFlags := 0, nameIndex := 7, descriptorIndex := 8, attributes := #[] }, { accessFlags := 9, nameIndex := 252, descriptorIndex := 53, attributes := #[] }] 48 4 #[] #[{ accessFlags := 4120, nameIndex := 121, descriptorIndex := 122, attributes := #[] }])
  fields := #[{ name := "$assertionsDisabled", type := .boolean, accessFlags := 4120, slot := 0, constantValue := 0 }]
  methods := #[k10m0, k10m1]
  instanceTypes := #[]
  staticTypes := #[.boolean]
  resolved := Array.replicate 395 none
  statics := none }

def pool11 : Array CpInfo := pool [(2, .class_ 4), (1, u "java/lang/Object"), (0, u "<init>"), (0, u "()V"), (17, .class_ 26), (1, u "jdk/internal/util/Preconditions"), (6, u "checkIndex"), (21, .class_ 56), (0, u "jdk/internal/util/Preconditions$4"), (57, .class_ 115), (0, u "jdk/internal/util/Preconditions$1"), (7, u "SIOOBE_FORMATTER"), (0, u "Ljava/util/function/BiFunction;"), (0, .class_ 126), (0, u "jdk/internal/util/Preconditions$2"), (3, u "AIOOBE_FORMATTER"), (0, .class_ 132), (0, u "jdk/internal/util/Preconditions$3"), (3, u "IOOBE_FORMATTER"), (41, u "(IILjava/util/function/BiFunction;)I")] 15

def k11m0 : Method := { name := "<init>", desc := "()V", sig := { parameters := [], returnType := none }, accessFlags := 1, code := none }
def k11c1 : Code := { maxStack := 3, maxLocals := 3, code := jdk_41_method_11_code, exceptionTable := #[], attributes := #[] }
def k11m1 : Method := { name := "checkIndex", desc := "(IILjava/util/function/BiFunction;)I", sig := { parameters := [.int, .int, (.object "java/util/function/BiFunction")], returnType := some .int }, accessFlags := 9, code := some k11c1 }
/-- jdk/internal/util/Preconditions -/
def k11 : Class := { plain "jdk/internal/util/Preconditions" (some 0) with
  accessFlags := 33
  interfaces := #[]
  cf := some (fileOf pool11 24 #[.nestMembers #[55, 131, 125, 114]] #[{ accessFlags := 1, nameIndex := 5, descriptorIndex := 6, attributes := #[] }, { accessFlags := 9, nameIndex := 33, descriptorIndex := 178, attributes := #[] }] 33 2 #[] #[{ accessFlags := 25, nameIndex := 123, descriptorIndex := 124, attributes := #[] }, { accessFlags := 25, nameIndex := 130, descriptorIndex := 124, attributes := #[] }, { accessFlags := 25, nameIndex := 136, descriptorIndex := 124, attributes := #[] }])
  fields := #[{ name := "SIOOBE_FORMATTER", type := (.object "java/util/function/BiFunction"), accessFlags := 25, slot := 0, constantValue := 0 }, { name := "AIOOBE_FORMATTER", type := (.object "java/util/function/BiFunction"), accessFlags := 25, slot := 1, constantValue := 0 }, { name := "IOOBE_FORMATTER", type := (.object "java/util/function/BiFunction"), accessFlags := 25, slot := 2, constantValue := 0 }]
  methods := #[k11m0, k11m1]
  instanceTypes := #[]
  staticTypes := #[(.object "java/util/function/BiFunction"), (.object "java/util/function/BiFunction"), (.object "java/util/function/BiFunction")]
  resolved := Array.replicate 194 none
  statics := some 2 }

def pool12 : Array CpInfo := pool [(9, u "<init>"), (6, .class_ 18), (1, u "java/lang/Object"), (0, u "()V"), (1, .class_ 23), (1, u "jdk/internal/util/ArraysSupport"), (0, u "LOG2_ARRAY_LONG_INDEX_SCALE"), (0, u "I"), (2, u "U"), (0, u "Ljdk/internal/misc/Unsafe;"), (8, u "BIG_ENDIAN"), (0, u "Z"), (8, u "LOG2_BYTE_BIT_SIZE"), (4, u "LOG2_ARRAY_INT_INDEX_SCALE"), (54, u "JLA"), (0, u "Ljdk/internal/access/JavaLangAccess;"), (11, u "LOG2_ARRAY_BOOLEAN_INDEX_SCALE"), (9, u "LOG2_ARRAY_BYTE_INDEX_SCALE"), (5, u "LOG2_ARRAY_CHAR_INDEX_SCALE"), (5, u "LOG2_ARRAY_SHORT_INDEX_SCALE"), (18, u "LOG2_ARRAY_FLOAT_INDEX_SCALE"), (24, u "LOG2_ARRAY_DOUBLE_INDEX_SCALE"), (89, u "T_BOOLEAN"), (2, u "T_CHAR"), (1, u "T_FLOAT"), (1, u "T_DOUBLE"), (1, u "T_BYTE"), (1, u "T_SHORT"), (1, u "T_INT"), (1, u "T_LONG"), (1, u "SOFT_MAX_ARRAY_LENGTH")] 83

def k12m0 : Method := { name := "<init>", desc := "()V", sig := { parameters := [], returnType := none }, accessFlags := 2, code := none }
/-- jdk/internal/util/ArraysSupport -/
def k12 : Class := { plain "jdk/internal/util/ArraysSupport" (some 0) with
  accessFlags := 33
  interfaces := #[]
  cf := some (fileOf pool12 21 #[] #[{ accessFlags := 2, nameIndex := 9, descriptorIndex := 19, attributes := #[] }] 33 16 #[] #[{ accessFlags := 24, nameIndex := 28, descriptorIndex := 29, attributes := #[] }, { accessFlags := 26, nameIndex := 38, descriptorIndex := 39, attributes := #[] }, { accessFlags := 25, nameIndex := 121, descriptorIndex := 25, attributes := #[] }, { accessFlags := 25, nameIndex := 131, descriptorIndex := 25, attributes := #[] }, { accessFlags := 25, nameIndex := 137, descriptorIndex := 25, attributes := #[] }, { accessFlags := 25, nameIndex := 143, descriptorIndex := 25, attributes := #[] }, { accessFlags := 25, nameIndex := 53, descriptorIndex := 25, attributes := #[] }, { accessFlags := 25, nameIndex := 24, descriptorIndex := 25, attributes := #[] }, { accessFlags := 25, nameIndex := 162, descriptorIndex := 25, attributes := #[] }, { accessFlags := 25, nameIndex := 187, descriptorIndex := 25, attributes := #[] }, { accessFlags := 26, nameIndex := 48, descriptorIndex := 25, attributes := #[] }, { accessFlags := 25, nameIndex := 277, descriptorIndex := 25, attributes := #[] }, { accessFlags := 25, nameIndex := 280, descriptorIndex := 25, attributes := #[] }, { accessFlags := 25, nameIndex := 282, descriptorIndex := 25, attributes := #[] }, { accessFlags := 25, nameIndex := 284, descriptorIndex := 25, attributes := #[] }, { accessFlags := 25, nameIndex := 286, descriptorIndex := 25, attributes := #[] }, { accessFlags := 25, nameIndex := 288, descriptorIndex := 25, attributes := #[] }, { accessFlags := 25, nameIndex := 290, descriptorIndex := 25, attributes := #[] }, { accessFlags := 25, nameIndex := 292, descriptorIndex := 25, attributes := #[] }, { accessFlags := 26, nameIndex := 108, descriptorIndex := 109, attributes := #[] }, { accessFlags := 25, nameIndex := 294, descriptorIndex := 25, attributes := #[] }])
  fields := #[{ name := "U", type := (.object "jdk/internal/misc/Unsafe"), accessFlags := 24, slot := 0, constantValue := 0 }, { name := "BIG_ENDIAN", type := .boolean, accessFlags := 26, slot := 1, constantValue := 0 }, { name := "LOG2_ARRAY_BOOLEAN_INDEX_SCALE", type := .int, accessFlags := 25, slot := 2, constantValue := 0 }, { name := "LOG2_ARRAY_BYTE_INDEX_SCALE", type := .int, accessFlags := 25, slot := 3, constantValue := 0 }, { name := "LOG2_ARRAY_CHAR_INDEX_SCALE", type := .int, accessFlags := 25, slot := 4, constantValue := 0 }, { name := "LOG2_ARRAY_SHORT_INDEX_SCALE", type := .int, accessFlags := 25, slot := 5, constantValue := 0 }, { name := "LOG2_ARRAY_INT_INDEX_SCALE", type := .int, accessFlags := 25, slot := 6, constantValue := 0 }, { name := "LOG2_ARRAY_LONG_INDEX_SCALE", type := .int, accessFlags := 25, slot := 7, constantValue := 0 }, { name := "LOG2_ARRAY_FLOAT_INDEX_SCALE", type := .int, accessFlags := 25, slot := 8, constantValue := 0 }, { name := "LOG2_ARRAY_DOUBLE_INDEX_SCALE", type := .int, accessFlags := 25, slot := 9, constantValue := 0 }, { name := "LOG2_BYTE_BIT_SIZE", type := .int, accessFlags := 26, slot := 10, constantValue := 0 }, { name := "T_BOOLEAN", type := .int, accessFlags := 25, slot := 11, constantValue := 0 }, { name := "T_CHAR", type := .int, accessFlags := 25, slot := 12, constantValue := 0 }, { name := "T_FLOAT", type := .int, accessFlags := 25, slot := 13, constantValue := 0 }, { name := "T_DOUBLE", type := .int, accessFlags := 25, slot := 14, constantValue := 0 }, { name := "T_BYTE", type := .int, accessFlags := 25, slot := 15, constantValue := 0 }, { name := "T_SHORT", type := .int, accessFlags := 25, slot := 16, constantValue := 0 }, { name := "T_INT", type := .int, accessFlags := 25, slot := 17, constantValue := 0 }, { name := "T_LONG", type := .int, accessFlags := 25, slot := 18, constantValue := 0 }, { name := "JLA", type := (.object "jdk/internal/access/JavaLangAccess"), accessFlags := 26, slot := 19, constantValue := 0 }, { name := "SOFT_MAX_ARRAY_LENGTH", type := .int, accessFlags := 25, slot := 20, constantValue := 0 }]
  methods := #[k12m0]
  instanceTypes := #[]
  staticTypes := #[(.object "jdk/internal/misc/Unsafe"), .boolean, .int, .int, .int, .int, .int, .int, .int, .int, .int, .int, .int, .int, .int, .int, .int, .int, .int, (.object "jdk/internal/access/JavaLangAccess"), .int]
  resolved := Array.replicate 378 none
  statics := none }

def pool13 : Array CpInfo := pool [(1, u "java/lang/Cloneable"), (0, .class_ 1), (0, u "java/lang/Object"), (0, .class_ 3)] 3

/-- java/lang/Cloneable -/
def k13 : Class := { plain "java/lang/Cloneable" (some 0) with
  accessFlags := 1537
  interfaces := #[]
  cf := some (fileOf pool13 2 #[] #[] 1537 4 #[] #[])
  fields := #[]
  methods := #[]
  instanceTypes := #[]
  staticTypes := #[]
  resolved := Array.replicate 8 none
  statics := none }

/-- the primitive byte -/
def k14 : Class := { plain "byte" none with kind := .primitive 'B', accessFlags := 0x411 }
/-- [B -/
def k15 : Class := { plain "[B" (some 0) with kind := .array 14 .byte, interfaces := #[13, 2], accessFlags := 1041 }

/-- the primitive char -/
def k16 : Class := { plain "char" none with kind := .primitive 'C', accessFlags := 0x411 }
/-- [C -/
def k17 : Class := { plain "[C" (some 0) with kind := .array 16 .char, interfaces := #[13, 2], accessFlags := 1041 }

/-- the primitive int -/
def k18 : Class := { plain "int" none with kind := .primitive 'I', accessFlags := 0x411 }
/-- [I -/
def k19 : Class := { plain "[I" (some 0) with kind := .array 18 .int, interfaces := #[13, 2], accessFlags := 1041 }

def heap : Heap := #[{ cls := 7, slots := #[.long 0, .int 1, .null, .int 0, .null, .int 0, .int 0], vm := .statics 7 },
  { cls := 8, slots := #[.int 0, .int 8, .int 0, .int 1], vm := .statics 8 },
  { cls := 11, slots := #[.null, .null, .null], vm := .statics 11 }]
def classes : Array Class := #[k0, k1, k2, k3, k4, k5, k6, k7, k8, k9, k10, k11, k12, k13, k14, k15, k16, k17, k18, k19]
def interned : List (Array UInt16 × Addr) := []
def slotsUsed : Nat := 14
def theMethod : MethodId := ⟨1, 1⟩
def args0 : Array Value := #[.int 5, .int 5, .int 5, .int 5, .int 5, .int 5]
def aboutOver (below : List Frame) : State where
  vm := { classes := classes, interned := interned.toArray }
  heap := heap
  slotsUsed := slotsUsed
  threads := #[{ frames := .invoking theMethod args0 :: below }]
def below0 : List Frame := [.native { method := ⟨0, 0⟩, args := #[] }]
def about1 : State := aboutOver below0
def p0 : Program := .bare "" "" ""
def e0 : Env := launch0.env 0 0 0
theorem w_frames : about1.frames = Frame.invoking theMethod args0 :: below0 := rfl
set_option maxRecDepth 65536 in
theorem w_args : argsFit about1.vm theMethod args0 = true := by decide +kernel
set_option maxRecDepth 65536 in
theorem w_heap : heapFits about1 = true := by decide +kernel
set_option maxRecDepth 65536 in
theorem w_runnable : about1.curStatus? = some .runnable := by decide +kernel
set_option maxRecDepth 65536 in
theorem w_alone : about1.alone = true := by decide +kernel
set_option maxRecDepth 65536 in
theorem w_named : about1.methodNamed? x = some theMethod := by decide +kernel
set_option maxRecDepth 65536 in
theorem w_hears : about1.hears theMethod below0 = true := by decide +kernel
set_option maxRecDepth 65536 in
theorem w_ripe : about1.ripe theMethod args0 below0 = true := by decide +kernel
theorem w_running : about1.status = .running := rfl
set_option maxRecDepth 65536 in
theorem w_room : about1.hasRoom e0.platform room_1 = true :=
  launch0.hasRoom_least _ room_1 (by decide +kernel) (by decide +kernel) (by decide +kernel) (by decide +kernel) (by decide +kernel) (by decide +kernel)
theorem allAtoms_all (ts : List Jvm.Cond) (a : Array Jvm.Value) (st : Jvm.State) : (allAtoms ts).before a st = ts.all (fun c => c.before a st) := by
  induction ts with
  | nil => rfl
  | cons c t ih =>
    show (Jvm.Cond.and c (allAtoms t)).before a st = _
    rw [Jvm.Cond.before_and, ih, List.all_cons]
def words1 : List Jvm.Cond := Jvm.Cond.code x code maxLocals ret :: tables_1
/-- a 'code' word, met by the world's own term for the bytes: nothing is compared byte by byte -/
theorem code_word {y : MethodName} {bytes : ByteArray} {mx : Nat} {rt : Option FieldType} {a : Array Value} {s : State} {m : MethodId} {meth : Method} {c : Code} (h1 : s.methodNamed? y = some m) (h2 : s.vm.method? m = some meth) (h3 : meth.code = some c) (h4 : c.code = bytes)
    (h5 : (c.maxLocals == mx && c.exceptionTable.isEmpty && decide (c.maxStack ≤ mostOperands) && decide (meth.sig.returnType = rt) && !meth.locks && decide (parseMethodDescriptor y.desc = some meth.sig)) = true) : (Jvm.Cond.code y bytes mx rt).before a s = true := by
  simp only [Bool.and_eq_true, beq_iff_eq, Bool.not_eq_true', decide_eq_true_eq] at h5
  obtain ⟨⟨⟨⟨⟨g1, g2⟩, g3⟩, g4⟩, g5⟩, g6⟩ := h5
  simp [Cond.before, Cond.holds, Cond.value, h1, h2, h3, h4, g1, g2, g3, g4, g5, g6]
def isCode : Jvm.Cond → Bool
  | .code _ _ _ _ => true
  | _ => false
theorem all_split {L : List Jvm.Cond} {P : Jvm.Cond → Bool} (h1 : L.all (fun c => isCode c || P c) = true) (h2 : ∀ c ∈ L.filter isCode, P c = true) : L.all P = true := by
  refine List.all_eq_true.mpr fun c hc => ?_
  have h := List.all_eq_true.mp h1 c hc
  rcases Bool.eq_false_or_eq_true (isCode c) with hi | hi
  · exact h2 c (List.mem_filter.mpr ⟨hc, hi⟩)
  · simpa [hi] using h
set_option maxRecDepth 65536 in
theorem w_c0 : (Jvm.Cond.code x code maxLocals ret).before args0 about1 = true := code_word (m := ⟨1, 1⟩) (meth := k1m1) (c := k1c1) (by decide +kernel) rfl rfl rfl (by decide +kernel)
set_option maxRecDepth 65536 in
theorem w_c1 : (Jvm.Cond.code ({ cls := "java/lang/String", name := "<init>", desc := "([C)V" } : Jvm.MethodName) jdk_42_method_3_code (2 : Nat) (Option.none : Option Jvm.ClassFile.FieldType)).before args0 about1 = true := code_word (m := ⟨7, 1⟩) (meth := k7m1) (c := k7c1) (by decide +kernel) rfl rfl rfl (by decide +kernel)
set_option maxRecDepth 65536 in
theorem w_c2 : (Jvm.Cond.code ({ cls := "java/lang/String", name := "<init>", desc := "([CIILjava/lang/Void;)V" } : Jvm.MethodName) jdk_42_method_149_code (6 : Nat) (Option.none : Option Jvm.ClassFile.FieldType)).before args0 about1 = true := code_word (m := ⟨7, 6⟩) (meth := k7m6) (c := k7c6) (by decide +kernel) rfl rfl rfl (by decide +kernel)
set_option maxRecDepth 65536 in
theorem w_c3 : (Jvm.Cond.code ({ cls := "java/lang/Object", name := "<init>", desc := "()V" } : Jvm.MethodName) object_method_1_code (1 : Nat) (Option.none : Option Jvm.ClassFile.FieldType)).before args0 about1 = true := code_word (m := ⟨0, 0⟩) (meth := k0m0) (c := k0c0) (by decide +kernel) rfl rfl rfl (by decide +kernel)
set_option maxRecDepth 65536 in
theorem w_c4 : (Jvm.Cond.code ({ cls := "java/lang/StringUTF16", name := "compress", desc := "([CII)[B" } : Jvm.MethodName) jdk_52_method_16_code (6 : Nat) (Option.some (Jvm.ClassFile.FieldType.array Jvm.ClassFile.FieldType.byte))).before args0 about1 = true := code_word (m := ⟨8, 8⟩) (meth := k8m8) (c := k8c8) (by decide +kernel) rfl rfl rfl (by decide +kernel)
set_option maxRecDepth 65536 in
theorem w_c5 : (Jvm.Cond.code ({ cls := "java/lang/StringUTF16", name := "compress", desc := "([CI[BII)I" } : Jvm.MethodName) jdk_52_method_21_code (7 : Nat) (Option.some Jvm.ClassFile.FieldType.int)).before args0 about1 = true := code_word (m := ⟨8, 9⟩) (meth := k8m9) (c := k8c9) (by decide +kernel) rfl rfl rfl (by decide +kernel)
set_option maxRecDepth 65536 in
theorem w_c6 : (Jvm.Cond.code ({ cls := "java/lang/StringUTF16", name := "coderFromArrayLen", desc := "([BI)B" } : Jvm.MethodName) jdk_52_method_15_code (2 : Nat) (Option.some Jvm.ClassFile.FieldType.byte)).before args0 about1 = true := code_word (m := ⟨8, 7⟩) (meth := k8m7) (c := k8c7) (by decide +kernel) rfl rfl rfl (by decide +kernel)
set_option maxRecDepth 65536 in
theorem w_c7 : (Jvm.Cond.code ({ cls := "com/example/vestline/vestline/Field", name := "<init>", desc := "(Ljava/lang/String;ILjava/lang/String;Ljava/lang/String;)V" } : Jvm.MethodName) prog_17_method_1_code (5 : Nat) (Option.none : Option Jvm.ClassFile.FieldType)).before args0 about1 = true := code_word (m := ⟨9, 0⟩) (meth := k9m0) (c := k9c0) (by decide +kernel) rfl rfl rfl (by decide +kernel)
set_option maxRecDepth 65536 in
theorem w_c8 : (Jvm.Cond.code ({ cls := "com/example/vestline/vestline/Field", name := "text", desc := "()Ljava/lang/String;" } : Jvm.MethodName) prog_17_method_2_code (1 : Nat) (Option.some (Jvm.ClassFile.FieldType.object "java/lang/String"))).before args0 about1 = true := code_word (m := ⟨9, 1⟩) (meth := k9m1) (c := k9c1) (by decide +kernel) rfl rfl rfl (by decide +kernel)
set_option maxRecDepth 65536 in
theorem w_c9 : (Jvm.Cond.code ({ cls := "java/lang/String", name := "isEmpty", desc := "()Z" } : Jvm.MethodName) jdk_42_method_55_code (1 : Nat) (Option.some Jvm.ClassFile.FieldType.boolean)).before args0 about1 = true := code_word (m := ⟨7, 3⟩) (meth := k7m3) (c := k7c3) (by decide +kernel) rfl rfl rfl (by decide +kernel)
set_option maxRecDepth 65536 in
theorem w_c10 : (Jvm.Cond.code ({ cls := "java/lang/String", name := "length", desc := "()I" } : Jvm.MethodName) jdk_42_method_54_code (1 : Nat) (Option.some Jvm.ClassFile.FieldType.int)).before args0 about1 = true := code_word (m := ⟨7, 2⟩) (meth := k7m2) (c := k7c2) (by decide +kernel) rfl rfl rfl (by decide +kernel)
set_option maxRecDepth 65536 in
theorem w_c11 : (Jvm.Cond.code ({ cls := "java/lang/String", name := "coder", desc := "()B" } : Jvm.MethodName) jdk_42_method_152_code (1 : Nat) (Option.some Jvm.ClassFile.FieldType.byte)).before args0 about1 = true := code_word (m := ⟨7, 7⟩) (meth := k7m7) (c := k7c7) (by decide +kernel) rfl rfl rfl (by decide +kernel)
set_option maxRecDepth 65536 in
theorem w_c12 : (Jvm.Cond.code ({ cls := "java/lang/String", name := "charAt", desc := "(I)C" } : Jvm.MethodName) jdk_42_method_56_code (2 : Nat) (Option.some Jvm.ClassFile.FieldType.char)).before args0 about1 = true := code_word (m := ⟨7, 4⟩) (meth := k7m4) (c := k7c4) (by decide +kernel) rfl rfl rfl (by decide +kernel)
set_option maxRecDepth 65536 in
theorem w_c13 : (Jvm.Cond.code ({ cls := "java/lang/String", name := "isLatin1", desc := "()Z" } : Jvm.MethodName) jdk_42_method_154_code (1 : Nat) (Option.some Jvm.ClassFile.FieldType.boolean)).before args0 about1 = true := code_word (m := ⟨7, 8⟩) (meth := k7m8) (c := k7c8) (by decide +kernel) rfl rfl rfl (by decide +kernel)
set_option maxRecDepth 65536 in
theorem w_c14 : (Jvm.Cond.code ({ cls := "java/lang/StringLatin1", name := "charAt", desc := "([BI)C" } : Jvm.MethodName) jdk_43_method_2_code (2 : Nat) (Option.some Jvm.ClassFile.FieldType.char)).before args0 about1 = true := code_word (m := ⟨10, 1⟩) (meth := k10m1) (c := k10c1) (by decide +kernel) rfl rfl rfl (by decide +kernel)
set_option maxRecDepth 65536 in
theorem w_c15 : (Jvm.Cond.code ({ cls := "java/lang/String", name := "checkIndex", desc := "(II)V" } : Jvm.MethodName) jdk_42_method_155_code (2 : Nat) (Option.none : Option Jvm.ClassFile.FieldType)).before args0 about1 = true := code_word (m := ⟨7, 9⟩) (meth := k7m9) (c := k7c9) (by decide +kernel) rfl rfl rfl (by decide +kernel)
set_option maxRecDepth 65536 in
theorem w_c16 : (Jvm.Cond.code ({ cls := "jdk/internal/util/Preconditions", name := "checkIndex", desc := "(IILjava/util/function/BiFunction;)I" } : Jvm.MethodName) jdk_41_method_11_code (3 : Nat) (Option.some Jvm.ClassFile.FieldType.int)).before args0 about1 = true := code_word (m := ⟨11, 1⟩) (meth := k11m1) (c := k11c1) (by decide +kernel) rfl rfl rfl (by decide +kernel)
set_option maxRecDepth 65536 in
theorem w_c17 : (Jvm.Cond.code ({ cls := "com/example/vestline/vestline/Field", name := "printed", desc := "()Ljava/lang/String;" } : Jvm.MethodName) prog_17_method_3_code (1 : Nat) (Option.some (Jvm.ClassFile.FieldType.object "java/lang/String"))).before args0 about1 = true := code_word (m := ⟨9, 2⟩) (meth := k9m2) (c := k9c2) (by decide +kernel) rfl rfl rfl (by decide +kernel)
set_option maxRecDepth 65536 in
theorem w_c18 : (Jvm.Cond.code ({ cls := "java/lang/String", name := "equals", desc := "(Ljava/lang/Object;)Z" } : Jvm.MethodName) jdk_42_method_66_code (3 : Nat) (Option.some Jvm.ClassFile.FieldType.boolean)).before args0 about1 = true := code_word (m := ⟨7, 5⟩) (meth := k7m5) (c := k7c5) (by decide +kernel) rfl rfl rfl (by decide +kernel)
set_option maxRecDepth 65536 in
theorem w_c19 : (Jvm.Cond.code ({ cls := "com/example/vestline/vestline/Field", name := "isEmpty", desc := "()Z" } : Jvm.MethodName) prog_17_method_4_code (1 : Nat) (Option.some Jvm.ClassFile.FieldType.boolean)).before args0 about1 = true := code_word (m := ⟨9, 3⟩) (meth := k9m3) (c := k9c3) (by decide +kernel) rfl rfl rfl (by decide +kernel)
set_option maxRecDepth 65536 in
theorem w_c20 : (Jvm.Cond.code ({ cls := "java/lang/StringUTF16", name := "toBytes", desc := "([CII)[B" } : Jvm.MethodName) jdk_52_method_14_code (5 : Nat) (Option.some (Jvm.ClassFile.FieldType.array Jvm.ClassFile.FieldType.byte))).before args0 about1 = true := code_word (m := ⟨8, 6⟩) (meth := k8m6) (c := k8c6) (by decide +kernel) rfl rfl rfl (by decide +kernel)
set_option maxRecDepth 65536 in
theorem w_c21 : (Jvm.Cond.code ({ cls := "java/lang/StringUTF16", name := "newBytesFor", desc := "(I)[B" } : Jvm.MethodName) jdk_52_method_2_code (1 : Nat) (Option.some (Jvm.ClassFile.FieldType.array Jvm.ClassFile.FieldType.byte))).before args0 about1 = true := code_word (m := ⟨8, 1⟩) (meth := k8m1) (c := k8c1) (by decide +kernel) rfl rfl rfl (by decide +kernel)
set_option maxRecDepth 65536 in
theorem w_c22 : (Jvm.Cond.code ({ cls := "java/lang/StringUTF16", name := "newBytesLength", desc := "(I)I" } : Jvm.MethodName) jdk_52_method_3_code (1 : Nat) (Option.some Jvm.ClassFile.FieldType.int)).before args0 about1 = true := code_word (m := ⟨8, 2⟩) (meth := k8m2) (c := k8c2) (by decide +kernel) rfl rfl rfl (by decide +kernel)
set_option maxRecDepth 65536 in
theorem w_c23 : (Jvm.Cond.code ({ cls := "java/lang/StringUTF16", name := "putChar", desc := "([BII)V" } : Jvm.MethodName) jdk_52_method_4_code (3 : Nat) (Option.none : Option Jvm.ClassFile.FieldType)).before args0 about1 = true := code_word (m := ⟨8, 3⟩) (meth := k8m3) (c := k8c3) (by decide +kernel) rfl rfl rfl (by decide +kernel)
set_option maxRecDepth 65536 in
theorem w_c24 : (Jvm.Cond.code ({ cls := "java/lang/StringUTF16", name := "getChar", desc := "([BI)C" } : Jvm.MethodName) jdk_52_method_5_code (2 : Nat) (Option.some Jvm.ClassFile.FieldType.char)).before args0 about1 = true := code_word (m := ⟨8, 4⟩) (meth := k8m4) (c := k8c4) (by decide +kernel) rfl rfl rfl (by decide +kernel)
set_option maxRecDepth 65536 in
theorem w_c25 : (Jvm.Cond.code ({ cls := "java/lang/StringUTF16", name := "charAt", desc := "([BI)C" } : Jvm.MethodName) jdk_52_method_83_code (2 : Nat) (Option.some Jvm.ClassFile.FieldType.char)).before args0 about1 = true := code_word (m := ⟨8, 10⟩) (meth := k8m10) (c := k8c10) (by decide +kernel) rfl rfl rfl (by decide +kernel)
set_option maxRecDepth 65536 in
theorem w_c26 : (Jvm.Cond.code ({ cls := "java/lang/StringUTF16", name := "checkIndex", desc := "(I[B)V" } : Jvm.MethodName) jdk_52_method_91_code (2 : Nat) (Option.none : Option Jvm.ClassFile.FieldType)).before args0 about1 = true := code_word (m := ⟨8, 11⟩) (meth := k8m11) (c := k8c11) (by decide +kernel) rfl rfl rfl (by decide +kernel)
set_option maxRecDepth 65536 in
theorem w_c27 : (Jvm.Cond.code ({ cls := "java/lang/StringUTF16", name := "length", desc := "([B)I" } : Jvm.MethodName) jdk_52_method_6_code (1 : Nat) (Option.some Jvm.ClassFile.FieldType.int)).before args0 about1 = true := code_word (m := ⟨8, 5⟩) (meth := k8m5) (c := k8c5) (by decide +kernel) rfl rfl rfl (by decide +kernel)
def codes1 : List Jvm.Cond := [Jvm.Cond.code x code maxLocals ret, Jvm.Cond.code ({ cls := "java/lang/String", name := "<init>", desc := "([C)V" } : Jvm.MethodName) jdk_42_method_3_code (2 : Nat) (Option.none : Option Jvm.ClassFile.FieldType), Jvm.Cond.code ({ cls := "java/lang/String", name := "<init>", desc := "([CIILjava/lang/Void;)V" } : Jvm.MethodName) jdk_42_method_149_code (6 : Nat) (Option.none : Option Jvm.ClassFile.FieldType), Jvm.Cond.code ({ cls := "java/lang/Object", name := "<init>", desc := "()V" } : Jvm.MethodName) object_method_1_code (1 : Nat) (Option.none : Option Jvm.ClassFile.FieldType), Jvm.Cond.code ({ cls := "java/lang/StringUTF16", name := "compress", desc := "([CII)[B" } : Jvm.MethodName) jdk_52_method_16_code (6 : Nat) (Option.some (Jvm.ClassFile.FieldType.array Jvm.ClassFile.FieldType.byte)), Jvm.Cond.code ({ cls := "java/lang/StringUTF16", name := "compress", desc := "([CI[BII)I" } : Jvm.MethodName) jdk_52_method_21_code (7 : Nat) (Option.some Jvm.ClassFile.FieldType.int), Jvm.Cond.code ({ cls := "java/lang/StringUTF16", name := "coderFromArrayLen", desc := "([BI)B" } : Jvm.MethodName) jdk_52_method_15_code (2 : Nat) (Option.some Jvm.ClassFile.FieldType.byte), Jvm.Cond.code ({ cls := "com/example/vestline/vestline/Field", name := "<init>", desc := "(Ljava/lang/String;ILjava/lang/String;Ljava/lang/String;)V" } : Jvm.MethodName) prog_17_method_1_code (5 : Nat) (Option.none : Option Jvm.ClassFile.FieldType), Jvm.Cond.code ({ cls := "com/example/vestline/vestline/Field", name := "text", desc := "()Ljava/lang/String;" } : Jvm.MethodName) prog_17_method_2_code (1 : Nat) (Option.some (Jvm.ClassFile.FieldType.object "java/lang/String")), Jvm.Cond.code ({ cls := "java/lang/String", name := "isEmpty", desc := "()Z" } : Jvm.MethodName) jdk_42_method_55_code (1 : Nat) (Option.some Jvm.ClassFile.FieldType.boolean), Jvm.Cond.code ({ cls := "java/lang/String", name := "length", desc := "()I" } : Jvm.MethodName) jdk_42_method_54_code (1 : Nat) (Option.some Jvm.ClassFile.FieldType.int), Jvm.Cond.code ({ cls := "java/lang/String", name := "coder", desc := "()B" } : Jvm.MethodName) jdk_42_method_152_code (1 : Nat) (Option.some Jvm.ClassFile.FieldType.byte), Jvm.Cond.code ({ cls := "java/lang/String", name := "charAt", desc := "(I)C" } : Jvm.MethodName) jdk_42_method_56_code (2 : Nat) (Option.some Jvm.ClassFile.FieldType.char), Jvm.Cond.code ({ cls := "java/lang/String", name := "isLatin1", desc := "()Z" } : Jvm.MethodName) jdk_42_method_154_code (1 : Nat) (Option.some Jvm.ClassFile.FieldType.boolean), Jvm.Cond.code ({ cls := "java/lang/StringLatin1", name := "charAt", desc := "([BI)C" } : Jvm.MethodName) jdk_43_method_2_code (2 : Nat) (Option.some Jvm.ClassFile.FieldType.char), Jvm.Cond.code ({ cls := "java/lang/String", name := "checkIndex", desc := "(II)V" } : Jvm.MethodName) jdk_42_method_155_code (2 : Nat) (Option.none : Option Jvm.ClassFile.FieldType), Jvm.Cond.code ({ cls := "jdk/internal/util/Preconditions", name := "checkIndex", desc := "(IILjava/util/function/BiFunction;)I" } : Jvm.MethodName) jdk_41_method_11_code (3 : Nat) (Option.some Jvm.ClassFile.FieldType.int), Jvm.Cond.code ({ cls := "com/example/vestline/vestline/Field", name := "printed", desc := "()Ljava/lang/String;" } : Jvm.MethodName) prog_17_method_3_code (1 : Nat) (Option.some (Jvm.ClassFile.FieldType.object "java/lang/String")), Jvm.Cond.code ({ cls := "java/lang/String", name := "equals", desc := "(Ljava/lang/Object;)Z" } : Jvm.MethodName) jdk_42_method_66_code (3 : Nat) (Option.some Jvm.ClassFile.FieldType.boolean), Jvm.Cond.code ({ cls := "com/example/vestline/vestline/Field", name := "isEmpty", desc := "()Z" } : Jvm.MethodName) prog_17_method_4_code (1 : Nat) (Option.some Jvm.ClassFile.FieldType.boolean), Jvm.Cond.code ({ cls := "java/lang/StringUTF16", name := "toBytes", desc := "([CII)[B" } : Jvm.MethodName) jdk_52_method_14_code (5 : Nat) (Option.some (Jvm.ClassFile.FieldType.array Jvm.ClassFile.FieldType.byte)), Jvm.Cond.code ({ cls := "java/lang/StringUTF16", name := "newBytesFor", desc := "(I)[B" } : Jvm.MethodName) jdk_52_method_2_code (1 : Nat) (Option.some (Jvm.ClassFile.FieldType.array Jvm.ClassFile.FieldType.byte)), Jvm.Cond.code ({ cls := "java/lang/StringUTF16", name := "newBytesLength", desc := "(I)I" } : Jvm.MethodName) jdk_52_method_3_code (1 : Nat) (Option.some Jvm.ClassFile.FieldType.int), Jvm.Cond.code ({ cls := "java/lang/StringUTF16", name := "putChar", desc := "([BII)V" } : Jvm.MethodName) jdk_52_method_4_code (3 : Nat) (Option.none : Option Jvm.ClassFile.FieldType), Jvm.Cond.code ({ cls := "java/lang/StringUTF16", name := "getChar", desc := "([BI)C" } : Jvm.MethodName) jdk_52_method_5_code (2 : Nat) (Option.some Jvm.ClassFile.FieldType.char), Jvm.Cond.code ({ cls := "java/lang/StringUTF16", name := "charAt", desc := "([BI)C" } : Jvm.MethodName) jdk_52_method_83_code (2 : Nat) (Option.some Jvm.ClassFile.FieldType.char), Jvm.Cond.code ({ cls := "java/lang/StringUTF16", name := "checkIndex", desc := "(I[B)V" } : Jvm.MethodName) jdk_52_method_91_code (2 : Nat) (Option.none : Option Jvm.ClassFile.FieldType), Jvm.Cond.code ({ cls := "java/lang/StringUTF16", name := "length", desc := "([B)I" } : Jvm.MethodName) jdk_52_method_6_code (1 : Nat) (Option.some Jvm.ClassFile.FieldType.int)]
set_option maxRecDepth 65536 in
theorem codes_eq : words1.filter isCode = codes1 := rfl
theorem w_codes : ∀ c ∈ words1.filter isCode, c.before args0 about1 = true := by
  rw [codes_eq]
  intro c hc
  simp only [codes1, List.mem_cons, List.not_mem_nil, or_false] at hc
  rcases hc with rfl | rfl | rfl | rfl | rfl | rfl | rfl | rfl | rfl | rfl | rfl | rfl | rfl | rfl | rfl | rfl | rfl | rfl | rfl | rfl | rfl | rfl | rfl | rfl | rfl | rfl | rfl | rfl
  · exact w_c0
  · exact w_c1
  · exact w_c2
  · exact w_c3
  · exact w_c4
  · exact w_c5
  · exact w_c6
  · exact w_c7
  · exact w_c8
  · exact w_c9
  · exact w_c10
  · exact w_c11
  · exact w_c12
  · exact w_c13
  · exact w_c14
  · exact w_c15
  · exact w_c16
  · exact w_c17
  · exact w_c18
  · exact w_c19
  · exact w_c20
  · exact w_c21
  · exact w_c22
  · exact w_c23
  · exact w_c24
  · exact w_c25
  · exact w_c26
  · exact w_c27
set_option maxRecDepth 65536 in
theorem w_t1 : (words1.take 24).all (fun c => isCode c || c.before args0 about1) = true := by decide +kernel
set_option maxRecDepth 65536 in
theorem w_t2 : ((words1.drop 24).take 24).all (fun c => isCode c || c.before args0 about1) = true := by decide +kernel
set_option maxRecDepth 65536 in
theorem w_t3 : (((words1.drop 24).drop 24).take 24).all (fun c => isCode c || c.before args0 about1) = true := by decide +kernel
set_option maxRecDepth 65536 in
theorem w_t4 : ((((words1.drop 24).drop 24).drop 24).take 24).all (fun c => isCode c || c.before args0 about1) = true := by decide +kernel
set_option maxRecDepth 65536 in
theorem w_t5 : (((((words1.drop 24).drop 24).drop 24).drop 24).take 24).all (fun c => isCode c || c.before args0 about1) = true := by decide +kernel
set_option maxRecDepth 65536 in
theorem w_t6 : (((((words1.drop 24).drop 24).drop 24).drop 24).drop 24).all (fun c => isCode c || c.before args0 about1) = true := by decide +kernel
theorem w_tables : (allAtoms (Jvm.Cond.code x code maxLocals ret :: tables_1)).before args0 about1 = true := by
  rw [allAtoms_all]
  show words1.all (fun c => c.before args0 about1) = true
  refine all_split ?_ w_codes
  rw [← List.take_append_drop 24 words1, List.all_append, w_t1, ← List.take_append_drop 24 (words1.drop 24), List.all_append, w_t2, ← List.take_append_drop 24 ((words1.drop 24).drop 24), List.all_append, w_t3, ← List.take_append_drop 24 (((words1.drop 24).drop 24).drop 24), List.all_append, w_t4, ← List.take_append_drop 24 ((((words1.drop 24).drop 24).drop 24).drop 24), List.all_append, w_t5, w_t6]
  rfl
set_option maxRecDepth 65536 in
theorem w_rest : rest_1_c.before args0 about1 = true := by decide +kernel
set_option maxRecDepth 65536 in
theorem w_case : (Jvm.Cond.and given_1 narrow_1).before args0 about1 = true := by decide +kernel
theorem w_applies : (headSpec (Jvm.Cond.code x code maxLocals ret :: tables_1) room_1).applies x e0.platform about1 = true :=
  (Spec.applies_iff w_frames).mpr ⟨w_running, w_runnable, w_alone, w_named, w_hears, w_ripe, w_room, w_tables⟩
theorem atStart : AtStart classFile x code maxLocals ret World_1 tables_1 room_1 Calls_1 rest_1 Pre_1 launch0 p0 e0 about1 theMethod args0 below0 :=
  ⟨lists_1, trivial, launch0.admits_env _ _ _, launch0.least_env, fairChoices_fair.cas, fairChoices_fair.clock, w_frames, w_args, w_heap, w_applies, trivial, w_rest, w_case⟩
end start1
theorem witness_1 : WitnessClaimed_1 := ⟨start1.p0, start1.e0, start1.about1, start1.theMethod, start1.args0, start1.below0, start1.atStart⟩
end Jvm.Pilot.@@N@@
