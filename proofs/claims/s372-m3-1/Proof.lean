import JvmDerived
import JvmDerived.Pilot.@@N@@Statement
import JvmDerived.Pilot.@@N@@Code
set_option linter.unusedVariables false
set_option linter.unusedSimpArgs false
namespace Jvm.Pilot.@@N@@
open Jvm Jvm.ClassFile Sem Op Lib Jvm.Free Jvm.Stand Jvm.LawKit Jvm.RoadKit Bundle Jvm.Pilot.@@N@@.Jvm.D
section Own
variable {p : Program} {l : Launch} {e : Env} {R : Room} {s : State} {m : MethodId} {args : Array Value} {below : List Frame} {meth : Method} {c : Code} {T T' : State} {cells slots cells' slots' : Nat} {Z : State} {a0 : Array Value} {h h' : Heap} {own : String} {ws ws' : List Addr} {V : Vm → Prop}
  {EN : State → Outcome → State → List Loc → Nat → Nat → Prop} {K N : Nat} {Q : Option Value → Vm → Heap → Prop} {g g' : JFrame}
/-- sizes as numbers -/
theorem natlt {a : Addr} {n : Nat} (h : a < n) : n > a := h
theorem adne {a b : Addr} (h : @LT.lt Nat _ a b ∨ @LT.lt Nat _ b a) : a ≠ b := fun q => by
  subst q; exact h.elim (Nat.lt_irrefl _) (Nat.lt_irrefl _)
/-- what is written lies in the cells ws or in cells made since -/
def Fx (ws : List Addr) (n : Nat) (L : List Loc) : Prop := ∀ y ∈ L, y.base ∈ ws ∨ n ≤ y.base
theorem keep_of {s' : State} {L : List Loc} (q : s.sameButNew s' L K N) (F : Fx ws s.heap.size L) : Keep s.heap s'.heap ws := by
  refine ⟨q.2.1, fun x c hc hx => ?_, fun x c hc => ?_⟩
  · obtain ⟨c', h1, h2, -, h4⟩ := q.2.2.2.2.2 x c hc
    have hb := (Array.getElem?_eq_some_iff.mp hc).1
    have hsl : c'.slots = c.slots := Array.ext_getElem? fun i => h4 i fun hm => (F _ hm).elim (fun r => hx r) (fun r => absurd r (Nat.not_le.mpr hb))
    have hcc : c' = c := by rw [h2, hsl]
    rw [← hcc]; exact h1
  · obtain ⟨c', h1, h2, h3, -⟩ := q.2.2.2.2.2 x c hc
    exact ⟨c', h1, by rw [h2], by rw [h2], h3⟩
/-- where a walk stands -/
def Hs (p : Program) (l : Launch) (e : Env) (R : Room) (s : State) (m : MethodId) (args : Array Value) (below : List Frame) (meth : Method) (c : Code) (Z : State) (own : String) (ws : List Addr) (V : Vm → Prop) (T : State) (h : Heap) (cells slots : Nat) : Prop :=
  ∃ (vm0 : Vm) (k0 : Nat) (locs : List Loc), p.tables.exec = Jvm.exec ∧ Stand p l e R (s.setVm vm0) m args below meth c T locs cells slots ∧ s.Since vm0 k0 ∧ k0 ≤ h.size ∧ Z.Warmed39 vm0 ∧ vm0.findClass own = some m.cls ∧ T.heap = h ∧ Fx ws s.heap.size locs ∧ V vm0 ∧ Ext Z.heap s.heap ∧ ∀ w ∈ ws, Z.heap.size ≤ w
theorem Hs.here (H : Hs p l e R s m args below meth c Z own ws V T h cells slots) : At T m c below := by
  obtain ⟨_, _, _, _, X, _⟩ := H; exact X.here
theorem Hs.ex (H : Hs p l e R s m args below meth c Z own ws V T h cells slots) : p.tables.exec = Jvm.exec := by
  obtain ⟨_, _, _, hx, _⟩ := H; exact hx
theorem Hs.keep (H : Hs p l e R s m args below meth c Z own ws V T h cells slots) : Keep s.heap h ws := by
  obtain ⟨vm0, k0, locs, hx, X, hS, hk, hZ, ho, rfl, F, -⟩ := H
  exact keep_of (s := s.setVm vm0) (s' := T.setVm (s.setVm vm0).vm) X.same F
theorem Hs.ge (H : Hs p l e R s m args below meth c Z own ws V T h cells slots) : s.heap.size ≤ h.size := H.keep.1
theorem Hs.old (H : Hs p l e R s m args below meth c Z own ws V T h cells slots) : Ext Z.heap h := by
  have K := H.keep
  obtain ⟨vm0, k0, locs, hx, X, hS, hk, hZ, ho, eT, F, hV, O, hw⟩ := H
  refine ⟨Nat.le_trans O.1 K.1, fun a cl q => K.2.1 a cl (O.2 a cl q) fun r => ?_⟩
  exact absurd (Array.getElem?_eq_some_iff.mp q).1 (Nat.not_lt.mpr (hw a r))
theorem Hs.more (H : Hs p l e R s m args below meth c Z own ws V T h cells slots) (hc : cells ≤ cells') (hn : slots ≤ slots') : Hs p l e R s m args below meth c Z own ws V T h cells' slots' := by
  obtain ⟨vm0, k0, locs, hx, X, r⟩ := H
  exact ⟨vm0, k0, locs, hx, X.mono hc hn, r⟩
theorem Hs.weak (H : Hs p l e R s m args below meth c Z own ws V T h cells slots) (q : ∀ w ∈ ws, w ∈ ws') (r : ∀ w ∈ ws', Z.heap.size ≤ w) : Hs p l e R s m args below meth c Z own ws' V T h cells slots := by
  obtain ⟨vm0, k0, locs, hx, X, hS, hk, hZ, ho, eT, F, hV, O, hw⟩ := H
  exact ⟨vm0, k0, locs, hx, X, hS, hk, hZ, ho, eT, fun y hy => (F y hy).imp (q _) id, hV, O, r⟩
theorem Hs.reV {V' : Vm → Prop} (H : Hs p l e R s m args below meth c Z own ws V T h cells slots) (q : ∀ vm, V vm → V' vm) : Hs p l e R s m args below meth c Z own ws V' T h cells slots := by
  obtain ⟨vm0, k0, locs, hx, X, hS, hk, hZ, ho, eT, F, hV, r⟩ := H
  exact ⟨vm0, k0, locs, hx, X, hS, hk, hZ, ho, eT, F, q _ hV, r⟩
/-- a predicate on the tables that a resolution leaves -/
def Stab (V : Vm → Prop) : Prop := ∀ (s : State) (vm1 : Vm), s.WarmedH vm1 → V s.vm → V vm1
theorem Hs.vm (H : Hs p l e R s m args below meth c Z own ws V T h cells slots) (q : Stab V) : V T.vm := by
  obtain ⟨vm0, k0, locs, hx, X, hS, hk, hZ, ho, eT, F, hV, O, hw⟩ := H
  exact q _ _ X.warmed hV
/-- it runs to its end, and Q holds there -/
def Rn (p : Program) (e : Env) (below : List Frame) (s : State) (EN : State → Outcome → State → List Loc → Nat → Nat → Prop) (ws : List Addr) (K N : Nat) (Q : Option Value → Vm → Heap → Prop) (T : State) (g : JFrame) : Prop :=
  ∃ s₂ o, Steps p.tables e below (T.setTop g) s₂ ∧ s₂.status = .running ∧ Ended s₂ below o ∧ ∃ v L, o = .returned v ∧ (Q v s₂.vm s₂.heap ∧ Fx ws s.heap.size L ∧ Keep s.heap s₂.heap ws) ∧ EN s o s₂ L K N
theorem Rn.pu (r : Rn p e below s EN ws K N Q T' g') (st : ∀ t, Steps p.tables e below (T'.setTop g') t → Steps p.tables e below (T.setTop g) t) : Rn p e below s EN ws K N Q T g := by
  obtain ⟨s₂, o, h1, h2⟩ := r; exact ⟨s₂, o, st _ h1, h2⟩
/-- how a walk may end -/
def Ends (EN : State → Outcome → State → List Loc → Nat → Nat → Prop) (s : State) (V : Vm → Prop) : Prop :=
  ∀ (vm0 : Vm) (k0 : Nat) (t : State) (v : Option Value) (L : List Loc) (K N : Nat), V vm0 → s.Since vm0 k0 → k0 ≤ t.heap.size → (s.setVm vm0).WarmedH t.vm → (s.setVm vm0).sameButNew ({ t with vm := (s.setVm vm0).vm } : State) L K N → EN s (.returned v) t L K N
theorem ends_N : Ends FrameEnd s (fun v => v = s.vm) := by
  intro vm0 k0 t v L K N hv hS hk hW hs
  subst hv
  exact ⟨⟨v, rfl⟩, hW, hs⟩
theorem ends_W : Ends ReturnedEndW s V := by
  intro vm0 k0 t v L K N hv hS hk hW hs
  obtain ⟨a, b, c'⟩ := hS.ended (U := t) hW hk hs
  exact ⟨⟨v, rfl⟩, a, b, c'⟩
theorem Hs.fin (H : Hs p l e R s m args below meth c Z own ws V T h cells slots) (hE : Ends EN s V) (hlk : meth.locks = false) {v : Option Value} (hv : meth.sig.returnType = none → v = none) (hc : cells ≤ K) (hn : slots ≤ N) (hws : ∀ w ∈ ws, w ∈ ws') (hQ : Q v T.vm h)
    (st : ∀ fs, (∀ (f : JFrame) (acts : List Action), f.method = m → f.locked = none → f.entered = [] → (doReturn e (T.setTop f) acts v).1 = T.setFrames fs) → Steps p.tables e below (T.setTop g) (T.setFrames fs)) : Rn p e below s EN ws' K N Q T g := by
  have KK := H.keep
  obtain ⟨vm0, k0, locs, hx, X, hS, hk, hZ, ho, rfl, F, hV, O, hw⟩ := H
  obtain ⟨fs, hr, hrun, hended, hW, hsame⟩ := X.leave (v := v) hv hlk
  refine ⟨_, _, st fs hr, hrun, hended, v, locs, rfl, ⟨hQ, fun y hy => (F y hy).imp (hws _) id, ⟨KK.1, fun x cl q r => KK.2.1 x cl q fun z => r (hws _ z), KK.2.2⟩⟩, hE vm0 k0 _ v locs K N hV hS hk hW (hsame.mono hc hn)⟩
theorem retI {pc : Nat} {Ls : Array Slot} {z : Int32} {rest : List Value} {locs : List Loc} (X : Stand p l e R s m args below meth c T locs cells slots) (hx : p.tables.exec = Jvm.exec) (hret : meth.sig.returnType = some .int) (hd : decode c.code pc = .ok (.ireturn, 1)) {fs : List Frame}
    (hl : ∀ (f : JFrame) (acts : List Action), f.method = m → f.locked = none → f.entered = [] → (doReturn e (T.setTop f) acts (some (.int z))).1 = T.setFrames fs) : Steps p.tables e below (T.setTop (mkF m pc Ls (.int z :: rest))) (T.setFrames fs) := by
  have hm' : T.vm.method? m = some meth := X.method'
  have hn : narrow .int (.int z) = .int z := rfl
  show Steps p.tables e below (T.setTop { method := m, pc := pc, locals := Ls, stack := _ :: rest, locked := none }) _
  jvm_step X.here [X.here.top, hx, hd, hm', hret, hn]
  first | (intro acts; rw [hl _ acts rfl rfl rfl]) | rw [hl _ _ rfl rfl rfl]
  exact Steps.refl _
theorem Hs.retI (H : Hs p l e R s m args below meth c Z own ws V T h cells slots) (hE : Ends EN s V) (hlk : meth.locks = false) (hret : meth.sig.returnType = some .int) {pc : Nat} {Ls : Array Slot} {z : Int32} {rest : List Value} (hd : decode c.code pc = .ok (.ireturn, 1)) (hc : cells ≤ K) (hn : slots ≤ N) (hws : ∀ w ∈ ws, w ∈ ws') (hQ : Q (some (.int z)) T.vm h) :
    Rn p e below s EN ws' K N Q T (mkF m pc Ls (.int z :: rest)) := by
  refine H.fin hE hlk (v := some (.int z)) (fun q => by rw [hret] at q; cases q) hc hn hws hQ fun fs hr => ?_
  obtain ⟨vm0, k0, locs, hx, X, -⟩ := H
  exact Jvm.Pilot.@@N@@.retI X hx hret hd hr
theorem Hs.retS (H : Hs p l e R s m args below meth c Z own ws V T h cells slots) (hE : Ends EN s V) (hlk : meth.locks = false) {t : FieldType} (hret : meth.sig.returnType = some t) (ht : t = .boolean ∨ t = .byte ∨ t = .char ∨ t = .short) {pc : Nat} {Ls : Array Slot} {z : Int32} {rest : List Value} (hd : decode c.code pc = .ok (.ireturn, 1)) (hc : cells ≤ K) (hn : slots ≤ N) (hws : ∀ w ∈ ws, w ∈ ws') (hQ : Q (some (.int (nar t z))) T.vm h) :
    Rn p e below s EN ws' K N Q T (mkF m pc Ls (.int z :: rest)) := by
  refine H.fin hE hlk (v := some (.int (nar t z))) (fun q => by rw [hret] at q; cases q) hc hn hws hQ fun fs hr => ?_
  obtain ⟨vm0, k0, locs, hx, X, -⟩ := H
  exact RoadKit.retN X hx hret ht hd hr
theorem Hs.retA (H : Hs p l e R s m args below meth c Z own ws V T h cells slots) (hE : Ends EN s V) (hlk : meth.locks = false) {t : FieldType} (hret : meth.sig.returnType = some t) {w : Value} (hnw : narrow t w = w) (hr1 : t.isReference = true) (hr2 : w.isRef = true) {pc : Nat} {Ls : Array Slot} {rest : List Value} (hd : decode c.code pc = .ok (.areturn, 1)) (hc : cells ≤ K) (hn : slots ≤ N) (hws : ∀ w ∈ ws, w ∈ ws') (hQ : Q (some w) T.vm h) :
    Rn p e below s EN ws' K N Q T (mkF m pc Ls (w :: rest)) := by
  refine H.fin hE hlk (v := some w) (fun q => by rw [hret] at q; cases q) hc hn hws hQ fun fs hr => ?_
  obtain ⟨vm0, k0, locs, hx, X, -⟩ := H
  exact retOut X hx hret hnw (Or.inr (Or.inr (Or.inr (Or.inr ⟨rfl, hr1, hr2⟩)))) hd hr
theorem Hs.retV (H : Hs p l e R s m args below meth c Z own ws V T h cells slots) (hE : Ends EN s V) (hlk : meth.locks = false) (hret : meth.sig.returnType = none) {pc : Nat} {Ls : Array Slot} (hd : decode c.code pc = .ok (.return_, 1)) (hc : cells ≤ K) (hn : slots ≤ N) (hws : ∀ w ∈ ws, w ∈ ws') (hQ : Q none T.vm h) :
    Rn p e below s EN ws' K N Q T (mkF m pc Ls []) := by
  refine H.fin hE hlk (v := none) (fun _ => rfl) hc hn hws hQ fun fs hr => ?_
  obtain ⟨vm0, k0, locs, hx, X, -⟩ := H
  exact X.returnOut hx hret hd hr
/-! contracts -/
def MetN (l : Launch) (Z : State) (y : MethodName) (bytes : ByteArray) (maxL : Nat) (ret : Option FieldType) (wl : List Jvm.Cond) (rm : Room) (as' : Array Value) (h : Heap) (ws : List Addr) (Q : Option Value → Heap → Prop) : Prop :=
  MetFree l y (head1 (Jvm.Cond.code y bytes maxL ret :: wl) rm) (fun a U => a = as' ∧ Z.Warmed39 U.vm ∧ U.heap = h) (fun _ _ _ _ _ => True)
    (fun _ U o U' => ∃ v L, o = .returned v ∧ (Q v U'.heap ∧ Fx ws h.size L ∧ Keep h U'.heap ws) ∧ FrameEnd U o U' L rm.cells rm.slots)
def MetW (l : Launch) (Z : State) (y : MethodName) (bytes : ByteArray) (maxL : Nat) (ret : Option FieldType) (wl : List Jvm.Cond) (rm : Room) (as' : Array Value) (h : Heap) (ws : List Addr) (J : Vm → Prop) (Q : Option Value → Vm → Heap → Prop) : Prop :=
  MetFree l y (head1 (Jvm.Cond.code y bytes maxL ret :: wl) rm) (fun a U => a = as' ∧ Z.Warmed39 U.vm ∧ U.heap = h ∧ J U.vm) (fun _ _ _ _ _ => True)
    (fun _ U o U' => ∃ v L, o = .returned v ∧ (Q v U'.vm U'.heap ∧ Fx ws h.size L ∧ Keep h U'.heap ws) ∧ ReturnedEndW U o U' L rm.cells rm.slots)
variable {y : MethodName} {bytes : ByteArray} {maxL : Nat} {ret' : Option FieldType} {wl : List Jvm.Cond} {rm : Room} {as' : Array Value} {QN : Option Value → Heap → Prop} {J : Vm → Prop}
theorem MetN.mk (hx : plainFor y = true) {Ls : Array Slot} (hef : ∀ m, entryFrame m as' maxL = mkF m 0 Ls []) (O : Ext Z.heap h) 
    (body : ∀ (p : Program) (e : Env) (s : State) (m : MethodId) (below : List Frame) (meth : Method) (c : Code) (T : State), p.tables.exec = Jvm.exec → c.code = bytes → c.maxLocals = maxL → meth.sig.returnType = ret' → meth.locks = false → meth.name = y.name → s.heap = h →
      Hs p l e rm s m as' below meth c Z y.cls [] (fun v => v = s.vm) T h 0 0 → Rn p e below s FrameEnd ws rm.cells rm.slots (fun v _ h' => QN v h') T (mkF m 0 Ls [])) :
    MetN l Z y bytes maxL ret' wl rm as' h ws QN := by
  refine MetFree.of_bodySF hx hisR ?_
  intro p e s m args below meth c s₁ Bd hml0 hP hK
  obtain ⟨rfl, hZ, hh⟩ := hP
  have X0 : Stand p l e rm s m args below meth c s₁ [] 0 0 := Stand.of_body Bd
  have e0 : s₁.heap = h := by rw [← hh, Bd.state]; rfl
  obtain ⟨s₂, o, h1, h2, h3, v, L, h4, ⟨h5, h6, h7⟩, h8⟩ := body p e s m below meth c s₁ Bd.exec Bd.bytes hml0 Bd.returns Bd.notSynchronized (name_of_methodNamed Bd.named Bd.method).1 hh
    ⟨s.vm, 0, [], Bd.exec, X0, (State.WarmedH.refl s).since _, Nat.zero_le _, hZ, findClass_of_methodNamed Bd.named, e0, (fun y hy => nomatch hy), rfl, (by rw [hh]; exact O), (fun y hy => nomatch hy)⟩
  subst hh
  exact ⟨s₂, o, castTop (hef m) h1, h2, h3, v, L, h4, ⟨h5, h6, h7⟩, h8⟩
theorem MetW.mk (hx : plainFor y = true) {Ls : Array Slot} (hef : ∀ m, entryFrame m as' maxL = mkF m 0 Ls []) (O : Ext Z.heap h) 
    (body : ∀ (p : Program) (e : Env) (s : State) (m : MethodId) (below : List Frame) (meth : Method) (c : Code) (T : State), p.tables.exec = Jvm.exec → c.code = bytes → c.maxLocals = maxL → meth.sig.returnType = ret' → meth.locks = false → meth.name = y.name → s.heap = h →
      Hs p l e rm s m as' below meth c Z y.cls [] J T h 0 0 → Rn p e below s ReturnedEndW ws rm.cells rm.slots Q T (mkF m 0 Ls [])) :
    MetW l Z y bytes maxL ret' wl rm as' h ws J Q := by
  refine MetFree.of_bodySF hx hisR ?_
  intro p e s m args below meth c s₁ Bd hml0 hP hK
  obtain ⟨rfl, hZ, hh, hJ⟩ := hP
  have X0 : Stand p l e rm s m args below meth c s₁ [] 0 0 := Stand.of_body Bd
  have e0 : s₁.heap = h := by rw [← hh, Bd.state]; rfl
  obtain ⟨s₂, o, h1, h2, h3, v, L, h4, ⟨h5, h6, h7⟩, h8⟩ := body p e s m below meth c s₁ Bd.exec Bd.bytes hml0 Bd.returns Bd.notSynchronized (name_of_methodNamed Bd.named Bd.method).1 hh
    ⟨s.vm, 0, [], Bd.exec, X0, (State.WarmedH.refl s).since _, Nat.zero_le _, hZ, findClass_of_methodNamed Bd.named, e0, (fun y hy => nomatch hy), hJ, (by rw [hh]; exact O), (fun y hy => nomatch hy)⟩
  subst hh
  exact ⟨s₂, o, castTop (hef m) h1, h2, h3, v, L, h4, ⟨h5, h6, h7⟩, h8⟩
/-- who pays a call -/
def PayN (l : Launch) (R : Room) (p : Program) (e : Env) (below : List Frame) (args : Array Value) (Z : State) (y : MethodName) (W : Nat) (as' : Array Value) (h : Heap) (kc ks : Nat) (ws : List Addr) (Q : Option Value → Heap → Prop) : Prop :=
  ∀ s : State, Z.Warmed39 s.vm → Back l R p e below s args y 3 W (fun A a => a = as' ∧ A.U.heap = h ∧ A.cells + kc ≤ R.cells ∧ A.slots + ks ≤ R.slots)
    (fun A _ v B => ∃ L, (Q v B.U.heap ∧ Fx ws h.size L ∧ Keep h B.U.heap ws) ∧ B.locs = A.locs ++ L ∧ B.cells = A.cells + kc ∧ B.slots = A.slots + ks)
def PayW (l : Launch) (R : Room) (p : Program) (e : Env) (below : List Frame) (args : Array Value) (Z : State) (y : MethodName) (W : Nat) (as' : Array Value) (h : Heap) (kc ks : Nat) (ws : List Addr) (J : Vm → Prop) (Q : Option Value → Vm → Heap → Prop) : Prop :=
  ∀ s : State, Z.Warmed39 s.vm → BackS l R p e below s args y 3 W (fun A a => a = as' ∧ A.U.heap = h ∧ A.cells + kc ≤ R.cells ∧ A.slots + ks ≤ R.slots ∧ J A.U.vm)
    (fun A _ v B => ∃ L, (Q v B.U.vm B.U.heap ∧ Fx ws h.size L ∧ Keep h B.U.heap ws) ∧ B.locs = A.locs ++ L ∧ B.cells = A.cells + kc ∧ B.slots = A.slots + ks)
theorem MetN.pay {W : Nat} (M : MetN l Z y bytes maxL ret' [] rm as' h ws QN) (wc : (Jvm.Cond.code y bytes maxL ret').before a0 Z = true) (wz : (Jvm.Cond.initialized y.cls).before a0 Z = true) (hf : rm.frames + 1 ≤ R.frames) (hl : W + (maxL + 11) + rm.locals ≤ R.locals) :
    PayN l R p e below args Z y W as' h rm.cells rm.slots ws QN := fun s hZ => backOf (Q := fun v h' L => QN v h' ∧ Fx ws h.size L ∧ Keep h h' ws) M hZ wc wz hf hl
theorem MetW.pay {W : Nat} (M : MetW l Z y bytes maxL ret' [] rm as' h ws J Q) (wc : (Jvm.Cond.code y bytes maxL ret').before a0 Z = true) (wz : (Jvm.Cond.initialized y.cls).before a0 Z = true) (hf : rm.frames + 1 ≤ R.frames) (hl : W + (maxL + 11) + rm.locals ≤ R.locals) :
    PayW l R p e below args Z y W as' h rm.cells rm.slots ws J Q := fun s hZ =>
  BackS.of_freeW (bytes := bytes) (maxL := maxL) (ret := ret') (E := fun _ _ o t L k n => k = rm.cells ∧ n = rm.slots ∧ ∃ v, o = .returned v ∧ (Q v t.vm t.heap ∧ Fx ws h.size L ∧ Keep h t.heap ws)) M hf hl
    (fun m meth c A a Y hp => have hU : Z.Warmed39 A.U.vm := wtrans hZ Y.warmed
      ⟨by show (Jvm.Cond.and _ .tt).before a A.U = true; rw [Cond.before_and, mv hU wc]; rfl, mv hU wc, mv hU wz, hp.2.2.1, hp.2.2.2.1⟩)
    (fun m meth c A a g mk Y hp => ⟨hp.1, wtrans hZ Y.warmed, hp.2.1, hp.2.2.2.2⟩) (fun _ _ _ _ _ _ _ _ _ => trivial)
    (fun _ _ _ _ ⟨v, L, h1, h2, h3⟩ => ⟨L, _, _, h3, rfl, rfl, v, h1, h2⟩)
    (fun m meth c A a g mk v t L k n Y hp _ _ ⟨e1, e2, v', e3, e4⟩ => by cases e3; subst e1 e2; exact ⟨L, e4, rfl, rfl, rfl⟩)
theorem fx_app {L L' : List Loc} {n n' : Nat} (F : Fx ws n L) (F' : Fx ws' n' L') (q : ∀ w ∈ ws', w ∈ ws ∨ n ≤ w) (r : n ≤ n') : Fx ws n (L ++ L') := fun y hy =>
  (List.mem_append.mp hy).elim (F y) fun z => (F' y z).elim (q _) fun u => Or.inr (Nat.le_trans r u)
/-- invokestatic, by its contract -/
theorem Hs.callS (H : Hs p l e R s m args below meth c Z own ws V T h cells slots) {index : Nat} (w1 : (Jvm.Cond.methodLink own index y).before a0 Z = true) (w2 : (Jvm.Cond.static y).before a0 Z = true) (w3 : (Jvm.Cond.initialized y.cls).before a0 Z = true) (w4 : (Jvm.Cond.code y bytes maxL ret').before a0 Z = true)
    (hy : y.cls ≠ "java/lang/invoke/MethodHandle" ∧ y.cls ≠ "java/lang/invoke/VarHandle") {W kc ks : Nat} (P : PayN l R p e below args Z y W as' h kc ks ws' QN) (hg : g.method = m) (hsize : g.locals.size = c.maxLocals) {argsL rest : List Value} (hlen : ∀ sig, parseMethodDescriptor y.desc = some sig → argsL.length = sig.parameters.length)
    (hst : g.stack = argsL.reverse ++ rest) (ha : argsL.toArray = as') (hW : 2 * g.monitorRoom + (rest.map fun v => v.category).sum ≤ W) (hd : decode c.code g.pc = .ok (.invokestatic index, 3)) (hc : cells + kc ≤ R.cells) (hl : slots + ks ≤ R.slots) (hws : ∀ w ∈ ws', w ∈ ws ∨ s.heap.size ≤ w) :
    ∃ v T' h', Hs p l e R s m args below meth c Z own ws V T' h' (cells + kc) (slots + ks) ∧ QN v h' ∧ Keep h h' ws' ∧ ∀ t, Steps p.tables e below (T'.setTop { g with pc := g.pc + 3, stack := v.toList ++ rest }) t → Steps p.tables e below (T.setTop g) t := by
  have ge := H.ge
  obtain ⟨vm0, k0, locs, hx, X, hS, hk, hZ, ho, eT, F, hV, O, hw⟩ := H
  obtain ⟨v, vm1, ⟨U, L', c', s'⟩, hW1, X', ⟨L, ⟨q1, q2, q3⟩, rfl, rfl, rfl⟩, st⟩ := Jvm.LawKit.callS X hx ho (mvT (s := s.setVm vm0) hZ w1) (mvT (s := s.setVm vm0) hZ w2) (mvT (s := s.setVm vm0) hZ w3) (mvT (s := s.setVm vm0) hZ w4) hy (P (s.setVm vm0) hZ) hg hsize hlen hst hW hd (fun _ _ => ⟨ha, eT, hc, hl⟩)
  exact ⟨v, U, U.heap, ⟨vm0, k0, _, hx, X', hS, Nat.le_trans hk q3.1, hZ, ho, rfl, fx_app F q2 hws ge, hV, O, hw⟩, q1, q3, st⟩
theorem Hs.callSW (H : Hs p l e R s m args below meth c Z own ws V T h cells slots) {index : Nat} (w1 : (Jvm.Cond.methodLink own index y).before a0 Z = true) (w2 : (Jvm.Cond.static y).before a0 Z = true) (w3 : (Jvm.Cond.initialized y.cls).before a0 Z = true) (w4 : (Jvm.Cond.code y bytes maxL ret').before a0 Z = true)
    (hy : y.cls ≠ "java/lang/invoke/MethodHandle" ∧ y.cls ≠ "java/lang/invoke/VarHandle") {W kc ks : Nat} (P : PayW l R p e below args Z y W as' h kc ks ws' J Q) (hg : g.method = m) (hsize : g.locals.size = c.maxLocals) {argsL rest : List Value} (hlen : ∀ sig, parseMethodDescriptor y.desc = some sig → argsL.length = sig.parameters.length)
    (hst : g.stack = argsL.reverse ++ rest) (ha : argsL.toArray = as') (hW : 2 * g.monitorRoom + (rest.map fun v => v.category).sum ≤ W) (hd : decode c.code g.pc = .ok (.invokestatic index, 3)) (hc : cells + kc ≤ R.cells) (hl : slots + ks ≤ R.slots) (hws : ∀ w ∈ ws', w ∈ ws ∨ s.heap.size ≤ w)
    (hJ : ∀ (U : State) (vm1 : Vm), V U.vm → U.WarmedH vm1 → J vm1) :
    ∃ v T' h', Hs p l e R s m args below meth c Z own ws (fun v => v = T'.vm) T' h' (cells + kc) (slots + ks) ∧ Q v T'.vm h' ∧ Keep h h' ws' ∧ ∀ t, Steps p.tables e below (T'.setTop { g with pc := g.pc + 3, stack := v.toList ++ rest }) t → Steps p.tables e below (T.setTop g) t := by
  have ge := H.ge
  obtain ⟨vm0, k0, locs, hx, X, hS, hk, hZ, ho, eT, F, hV, O, hw⟩ := H
  obtain ⟨v, vm1, ⟨U, L', c', s'⟩, hW1, X', hS', hgr, ⟨L, ⟨q1, q2, q3⟩, rfl, rfl, rfl⟩, st⟩ := callSS X hx ho (mvT (s := s.setVm vm0) hZ w1) (mvT (s := s.setVm vm0) hZ w2) (mvT (s := s.setVm vm0) hZ w3) (mvT (s := s.setVm vm0) hZ w4) hy (P (s.setVm vm0) hZ) hg hsize hlen hst hW hd (fun vm1 hw1 => ⟨ha, eT, hc, hl, hJ _ _ hV hw1⟩)
  obtain ⟨r1, r2, r3, r4⟩ := rebS hS (by rw [← eT] at hk; exact hk) X' hS' hgr hZ ho
  exact ⟨v, U, U.heap, ⟨U.vm, _, _, hx, r1, r2, Nat.le_refl _, r3, r4, rfl, fx_app F q2 hws ge, rfl, O, hw⟩, q1, q3, fun t k => st.trans k⟩
/-- invokevirtual, by its contract -/
theorem Hs.callV (H : Hs p l e R s m args below meth c Z own ws V T h cells slots) {index : Nat} {C : String} (w1 : (Jvm.Cond.methodLink own index y).before a0 Z = true) (w2 : (Jvm.Cond.declares y).before a0 Z = true) (w3 : (Jvm.Cond.selects C y y).before a0 Z = true) (w4 : (Jvm.Cond.instanceMethod y).before a0 Z = true)
    (hy : y.cls ≠ "java/lang/invoke/MethodHandle" ∧ y.cls ≠ "java/lang/invoke/VarHandle") {W kc ks : Nat} (P : PayN l R p e below args Z y W as' h kc ks ws' QN) {b : Addr} (E : Exa Z h b C) (hg : g.method = m) (hsize : g.locals.size = c.maxLocals) {argsL rest : List Value} (hlen : ∀ sig, parseMethodDescriptor y.desc = some sig → argsL.length = sig.parameters.length)
    (hst : g.stack = argsL.reverse ++ .ref b :: rest) (ha : (Value.ref b :: argsL).toArray = as') (hW : 2 * g.monitorRoom + (rest.map fun v => v.category).sum ≤ W) (hd : decode c.code g.pc = .ok (.invokevirtual index, 3)) (hc : cells + kc ≤ R.cells) (hl : slots + ks ≤ R.slots) (hws : ∀ w ∈ ws', w ∈ ws ∨ s.heap.size ≤ w) :
    ∃ v T' h', Hs p l e R s m args below meth c Z own ws V T' h' (cells + kc) (slots + ks) ∧ QN v h' ∧ Keep h h' ws' ∧ ∀ t, Steps p.tables e below (T'.setTop { g with pc := g.pc + 3, stack := v.toList ++ rest }) t → Steps p.tables e below (T.setTop g) t := by
  have ge := H.ge
  obtain ⟨vm0, k0, locs, hx, X, hS, hk, hZ, ho, eT, F, hV, O, hw⟩ := H
  obtain ⟨cB, kB, i1, i2, i3⟩ := isOf (s := s.setVm vm0) hZ eT E
  obtain ⟨v, vm1, ⟨U, L', c', s'⟩, hW1, X', ⟨L, ⟨q1, q2, q3⟩, rfl, rfl, rfl⟩, st⟩ := X.virtualBack hx ho (mvT (s := s.setVm vm0) hZ w1) (mvT (s := s.setVm vm0) hZ w2) (notFace_of_selects (args := #[]) (mvT (s := s.setVm vm0) hZ w3)) (mvT (s := s.setVm vm0) hZ w3) (mvT (s := s.setVm vm0) hZ w4) hy (P (s.setVm vm0) hZ) i1 i3 hg hsize (Steps.refl _) hlen hst hW hd (fun _ _ => ⟨ha, eT, hc, hl⟩)
  exact ⟨v, U, U.heap, ⟨vm0, k0, _, hx, X', hS, Nat.le_trans hk q3.1, hZ, ho, rfl, fx_app F q2 hws ge, hV, O, hw⟩, q1, q3, fun t k => st.trans k⟩
theorem Hs.callVW (H : Hs p l e R s m args below meth c Z own ws V T h cells slots) {index : Nat} {C : String} (w1 : (Jvm.Cond.methodLink own index y).before a0 Z = true) (w2 : (Jvm.Cond.declares y).before a0 Z = true) (w3 : (Jvm.Cond.selects C y y).before a0 Z = true) (w4 : (Jvm.Cond.instanceMethod y).before a0 Z = true)
    (hy : y.cls ≠ "java/lang/invoke/MethodHandle" ∧ y.cls ≠ "java/lang/invoke/VarHandle") {W kc ks : Nat} (P : PayW l R p e below args Z y W as' h kc ks ws' J Q) {b : Addr} (E : Exa Z h b C) (hg : g.method = m) (hsize : g.locals.size = c.maxLocals) {argsL rest : List Value} (hlen : ∀ sig, parseMethodDescriptor y.desc = some sig → argsL.length = sig.parameters.length)
    (hst : g.stack = argsL.reverse ++ .ref b :: rest) (ha : (Value.ref b :: argsL).toArray = as') (hW : 2 * g.monitorRoom + (rest.map fun v => v.category).sum ≤ W) (hd : decode c.code g.pc = .ok (.invokevirtual index, 3)) (hc : cells + kc ≤ R.cells) (hl : slots + ks ≤ R.slots) (hws : ∀ w ∈ ws', w ∈ ws ∨ s.heap.size ≤ w)
    (hJ : ∀ (U : State) (vm1 : Vm), V U.vm → U.WarmedH vm1 → J vm1) :
    ∃ v T' h', Hs p l e R s m args below meth c Z own ws (fun v => v = T'.vm) T' h' (cells + kc) (slots + ks) ∧ Q v T'.vm h' ∧ Keep h h' ws' ∧ ∀ t, Steps p.tables e below (T'.setTop { g with pc := g.pc + 3, stack := v.toList ++ rest }) t → Steps p.tables e below (T.setTop g) t := by
  have ge := H.ge
  obtain ⟨vm0, k0, locs, hx, X, hS, hk, hZ, ho, eT, F, hV, O, hw⟩ := H
  obtain ⟨cB, kB, i1, i2, i3⟩ := isOf (s := s.setVm vm0) hZ eT E
  obtain ⟨v, vm1, ⟨U, L', c', s'⟩, hW1, X', hS', hgr, ⟨L, ⟨q1, q2, q3⟩, rfl, rfl, rfl⟩, st⟩ := X.virtualBackS hx ho (mvT (s := s.setVm vm0) hZ w1) (mvT (s := s.setVm vm0) hZ w2) (notFace_of_selects (args := #[]) (mvT (s := s.setVm vm0) hZ w3)) (mvT (s := s.setVm vm0) hZ w3) (mvT (s := s.setVm vm0) hZ w4) hy (P (s.setVm vm0) hZ) i1 i3 hg hsize (Steps.refl _) hlen hst hW hd (fun vm1 hw1 => ⟨ha, eT, hc, hl, hJ _ _ hV hw1⟩)
  obtain ⟨r1, r2, r3, r4⟩ := rebS hS (by rw [← eT] at hk; exact hk) X' hS' hgr hZ ho
  exact ⟨v, U, U.heap, ⟨U.vm, _, _, hx, r1, r2, Nat.le_refl _, r3, r4, rfl, fx_app F q2 hws ge, rfl, O, hw⟩, q1, q3, fun t k => st.trans k⟩
/-- a constructor, by its contract -/
theorem Hs.callI (H : Hs p l e R s m args below meth c Z own ws V T h cells slots) {index : Nat} (hy1 : y.name = "<init>") (w1 : (Jvm.Cond.methodLink own index y).before a0 Z = true) (w2 : (Jvm.Cond.instanceMethod y).before a0 Z = true) (w3 : (Jvm.Cond.code y bytes maxL none).before a0 Z = true)
    (hy : y.cls ≠ "java/lang/invoke/MethodHandle" ∧ y.cls ≠ "java/lang/invoke/VarHandle") {W kc ks : Nat} (P : PayN l R p e below args Z y W as' h kc ks ws' QN) (hg : g.method = m) (hsize : g.locals.size = c.maxLocals) {b : Addr} {argsL rest : List Value} (hlen : ∀ sig, parseMethodDescriptor y.desc = some sig → argsL.length = sig.parameters.length)
    (hst : g.stack = argsL.reverse ++ .ref b :: rest) (ha : (Value.ref b :: argsL).toArray = as') (hW : 2 * g.monitorRoom + (rest.map fun v => v.category).sum ≤ W) (hd : decode c.code g.pc = .ok (.invokespecial index, 3)) (hc : cells + kc ≤ R.cells) (hl : slots + ks ≤ R.slots) (hws : ∀ w ∈ ws', w ∈ ws ∨ s.heap.size ≤ w) :
    ∃ v T' h', Hs p l e R s m args below meth c Z own ws V T' h' (cells + kc) (slots + ks) ∧ QN v h' ∧ Keep h h' ws' ∧ ∀ t, Steps p.tables e below (T'.setTop { g with pc := g.pc + 3, stack := v.toList ++ rest }) t → Steps p.tables e below (T.setTop g) t := by
  have ge := H.ge
  obtain ⟨vm0, k0, locs, hx, X, hS, hk, hZ, ho, eT, F, hV, O, hw⟩ := H
  obtain ⟨v, vm1, ⟨U, L', c', s'⟩, hW1, X', ⟨L, ⟨q1, q2, q3⟩, rfl, rfl, rfl⟩, st⟩ := X.specialBack hx hy1 ho (mvT (s := s.setVm vm0) hZ w1) (mvT (s := s.setVm vm0) hZ w2) (mvT (s := s.setVm vm0) hZ w3) hy (P (s.setVm vm0) hZ) hg hsize (Steps.refl _) hlen hst hW hd (fun _ _ => ⟨ha, eT, hc, hl⟩)
  exact ⟨v, U, U.heap, ⟨vm0, k0, _, hx, X', hS, Nat.le_trans hk q3.1, hZ, ho, rfl, fx_app F q2 hws ge, hV, O, hw⟩, q1, q3, fun t k => st.trans k⟩
theorem Hs.callIW (H : Hs p l e R s m args below meth c Z own ws V T h cells slots) {index : Nat} (hy1 : y.name = "<init>") (w1 : (Jvm.Cond.methodLink own index y).before a0 Z = true) (w2 : (Jvm.Cond.instanceMethod y).before a0 Z = true) (w3 : (Jvm.Cond.code y bytes maxL none).before a0 Z = true)
    (hy : y.cls ≠ "java/lang/invoke/MethodHandle" ∧ y.cls ≠ "java/lang/invoke/VarHandle") {W kc ks : Nat} (P : PayW l R p e below args Z y W as' h kc ks ws' J Q) (hg : g.method = m) (hsize : g.locals.size = c.maxLocals) {b : Addr} {argsL rest : List Value} (hlen : ∀ sig, parseMethodDescriptor y.desc = some sig → argsL.length = sig.parameters.length)
    (hst : g.stack = argsL.reverse ++ .ref b :: rest) (ha : (Value.ref b :: argsL).toArray = as') (hW : 2 * g.monitorRoom + (rest.map fun v => v.category).sum ≤ W) (hd : decode c.code g.pc = .ok (.invokespecial index, 3)) (hc : cells + kc ≤ R.cells) (hl : slots + ks ≤ R.slots) (hws : ∀ w ∈ ws', w ∈ ws ∨ s.heap.size ≤ w)
    (hJ : ∀ (U : State) (vm1 : Vm), V U.vm → U.WarmedH vm1 → J vm1) :
    ∃ v T' h', Hs p l e R s m args below meth c Z own ws (fun v => v = T'.vm) T' h' (cells + kc) (slots + ks) ∧ Q v T'.vm h' ∧ Keep h h' ws' ∧ ∀ t, Steps p.tables e below (T'.setTop { g with pc := g.pc + 3, stack := v.toList ++ rest }) t → Steps p.tables e below (T.setTop g) t := by
  have ge := H.ge
  obtain ⟨vm0, k0, locs, hx, X, hS, hk, hZ, ho, eT, F, hV, O, hw⟩ := H
  obtain ⟨v, vm1, ⟨U, L', c', s'⟩, hW1, X', hS', hgr, ⟨L, ⟨q1, q2, q3⟩, rfl, rfl, rfl⟩, st⟩ := X.specialBackS hx hy1 ho (mvT (s := s.setVm vm0) hZ w1) (mvT (s := s.setVm vm0) hZ w2) (mvT (s := s.setVm vm0) hZ w3) hy (P (s.setVm vm0) hZ) hg hsize (Steps.refl _) hlen hst hW hd (fun vm1 hw1 => ⟨ha, eT, hc, hl, hJ _ _ hV hw1⟩)
  obtain ⟨r1, r2, r3, r4⟩ := rebS hS (by rw [← eT] at hk; exact hk) X' hS' hgr hZ ho
  exact ⟨v, U, U.heap, ⟨U.vm, _, _, hx, r1, r2, Nat.le_refl _, r3, r4, rfl, fx_app F q2 hws ge, rfl, O, hw⟩, q1, q3, fun t k => st.trans k⟩
/-- a payer that books no more than kc cells and ks slots -/
def PayM (l : Launch) (R : Room) (p : Program) (e : Env) (below : List Frame) (args : Array Value) (Z : State) (y : MethodName) (W : Nat) (as' : Array Value) (h : Heap) (kc ks : Nat) (ws : List Addr) (Q : Option Value → Heap → Prop) : Prop :=
  ∃ kc' ks', kc' ≤ kc ∧ ks' ≤ ks ∧ PayN l R p e below args Z y W as' h kc' ks' ws Q
theorem Hs.callIm (H : Hs p l e R s m args below meth c Z own ws V T h cells slots) {index : Nat} (hy1 : y.name = "<init>") (w1 : (Jvm.Cond.methodLink own index y).before a0 Z = true) (w2 : (Jvm.Cond.instanceMethod y).before a0 Z = true) (w3 : (Jvm.Cond.code y bytes maxL none).before a0 Z = true)
    (hy : y.cls ≠ "java/lang/invoke/MethodHandle" ∧ y.cls ≠ "java/lang/invoke/VarHandle") {W kc ks : Nat} (P : PayM l R p e below args Z y W as' h kc ks ws' QN) (hg : g.method = m) (hsize : g.locals.size = c.maxLocals) {b : Addr} {argsL rest : List Value} (hlen : ∀ sig, parseMethodDescriptor y.desc = some sig → argsL.length = sig.parameters.length)
    (hst : g.stack = argsL.reverse ++ .ref b :: rest) (ha : (Value.ref b :: argsL).toArray = as') (hW : 2 * g.monitorRoom + (rest.map fun v => v.category).sum ≤ W) (hd : decode c.code g.pc = .ok (.invokespecial index, 3)) (hc : cells + kc ≤ R.cells) (hl : slots + ks ≤ R.slots) (hws : ∀ w ∈ ws', w ∈ ws ∨ s.heap.size ≤ w) :
    ∃ v T' h', Hs p l e R s m args below meth c Z own ws V T' h' (cells + kc) (slots + ks) ∧ QN v h' ∧ Keep h h' ws' ∧ ∀ t, Steps p.tables e below (T'.setTop { g with pc := g.pc + 3, stack := v.toList ++ rest }) t → Steps p.tables e below (T.setTop g) t := by
  obtain ⟨kc', ks', q1, q2, P'⟩ := P
  obtain ⟨v, T', h', H', r⟩ := H.callI hy1 w1 w2 w3 hy P' hg hsize hlen hst ha hW hd (by omega) (by omega) hws
  exact ⟨v, T', h', H'.more (by omega) (by omega), r⟩
/-! heap steps -/
theorem ext_keep (E : Ext h h') : Keep h h' [] := (Keep.refl h []).ext E
theorem Hs.newO (H : Hs p l e R s m args below meth c Z own ws V T h cells slots) {C : String} {index n : Nat} (w : (Jvm.Cond.classLink own index C).before a0 Z = true) (wi : (Jvm.Cond.instantiable C n).before a0 Z = true) (wz : (Jvm.Cond.initialized C).before a0 Z = true) (hg : g.method = m) (hd : decode c.code g.pc = .ok (.new index, 3)) (hc : cells + 1 ≤ R.cells) (hl : slots + n ≤ R.slots) :
    ∃ (a : Addr) (T' : State) (h' : Heap), @Eq Nat a h.size ∧ Hs p l e R s m args below meth c Z own ws V T' h' (cells + 1) (slots + n) ∧ Keep h h' [] ∧ Exa Z h' a C ∧ (∀ {O nm d : String} {ty : FieldType}, Laid Z a0 C O nm d → parseFieldDescriptor d = some ty → Fld Z h' a O nm d (defaultValue ty)) ∧
      ∀ t, Steps p.tables e below (T'.setTop { g with pc := g.pc + 3, stack := .ref a :: g.stack }) t → Steps p.tables e below (T.setTop g) t := by
  obtain ⟨vm0, k0, locs, hx, X, hS, hk, hZ, ho, eT, r⟩ := H
  obtain ⟨T', h', X', e', E, A, D, -, st⟩ := RoadKit.newO X hx (s := s.setVm vm0) hZ ho w wi wz eT hg hd hc hl
  exact ⟨_, T', h', rfl, ⟨vm0, k0, locs, hx, X', hS, Nat.le_trans hk E.1, hZ, ho, e', r⟩, ext_keep E, A, D, st⟩
theorem Hs.newP (H : Hs p l e R s m args below meth c Z own ws V T h cells slots) {aty : ArrayType} (w : (Jvm.Cond.arrayClass (newarray.typeOf aty)).before a0 Z = true) (hg : g.method = m) (hd : decode c.code g.pc = .ok (.newarray aty, 2)) {n : Int32} {rest : List Value} (hs : g.stack = .int n :: rest) (hn : ¬ n < 0) {cap : Nat} (hcap : n.toNatClampNeg ≤ cap) (hb : cap * 8 ≤ 536870912) (hc : cells + 1 ≤ R.cells) (hl : slots + cap ≤ R.slots) :
    ∃ (a : Addr) (kA : ClassId) (T' : State) (h' : Heap), @Eq Nat a h.size ∧ Hs p l e R s m args below meth c Z own ws V T' h' (cells + 1) (slots + cap) ∧ Keep h h' [] ∧ Arv Z h' a kA (newarray.typeOf aty) n [] (defaultValue (newarray.typeOf aty)) ∧
      ∀ t, Steps p.tables e below (T'.setTop { g with pc := g.pc + 2, stack := .ref a :: rest }) t → Steps p.tables e below (T.setTop g) t := by
  obtain ⟨vm0, k0, locs, hx, X, hS, hk, hZ, ho, eT, r⟩ := H
  obtain ⟨T', h', cA, X', e', E, A, st⟩ := RoadKit.newP X hx (s := s.setVm vm0) hZ w eT hg hd hs hn hcap hb hc hl
  exact ⟨_, cA, T', h', rfl, ⟨vm0, k0, locs, hx, X', hS, Nat.le_trans hk E.1, hZ, ho, e', r⟩, ext_keep E, Arv.new A hn, st⟩
theorem arv_snoc {a : Addr} {kA : ClassId} {ty : FieldType} {z j : Int32} {vs : List Value} {dv v : Value} (F : Arv Z h a kA ty z vs dv) (hi : j.toNatClampNeg = vs.length) (hv : fits ty v = true) (W : Wr h h' a j.toNatClampNeg v) : Arv Z h' a kA ty z (vs ++ [v]) dv := by
  have F2 : Arv Z h a kA ty z (vs ++ [dv]) dv := F.pad (pad_rep vs dv 1)
  obtain ⟨cl, A, q1, S, q3, HH, G⟩ := F2
  have := Arv.set A q1 S q3 HH G hv W vs.length hi (by simp)
  simpa using this
/-- castore at the next place -/
theorem Hs.stC (H : Hs p l e R s m args below meth c Z own ws V T h cells slots) {a : Addr} {kA : ClassId} {z j x : Int32} {vs : List Value} {dv : Value} (F : Arv Z h a kA .char z vs dv) (hj : ¬ j < 0 ∧ j < z) (hi : j.toNatClampNeg = vs.length) (ga : a ∈ ws ∨ s.heap.size ≤ a) (hg : g.method = m) {rest : List Value} (hs : g.stack = .int x :: .int j :: .ref a :: rest) (hd : decode c.code g.pc = .ok (.castore, 1)) :
    ∃ (T' : State) (h' : Heap), Hs p l e R s m args below meth c Z own ws V T' h' cells slots ∧ Keep h h' [a] ∧ Arv Z h' a kA .char z (vs ++ [.int (nar .char x)]) dv ∧
      ∀ t, Steps p.tables e below (T'.setTop { g with pc := g.pc + 1, stack := rest }) t → Steps p.tables e below (T.setTop g) t := by
  obtain ⟨vm0, k0, locs, hx, X, hS, hk, hZ, ho, eT, F0, r⟩ := H
  have FF := F
  obtain ⟨cl, A, q1, S, q3, HH, G⟩ := F
  obtain ⟨T', h', X', e', W, st⟩ := RoadKit.stC X hx (s := s.setVm vm0) hZ eT A (inb_of S hj) hg hs hd
  exact ⟨T', h', ⟨vm0, k0, _, hx, X', hS, by rw [W.size]; exact hk, hZ, ho, e', fun y hy => (List.mem_append.mp hy).elim (F0 y) (fun q => by cases List.mem_singleton.mp q; exact ga), r⟩, Keep.of_wr W, arv_snoc FF hi (fits_nar_char _) W, st⟩
/-- castore at a known place -/
theorem Hs.stCi (H : Hs p l e R s m args below meth c Z own ws V T h cells slots) {a : Addr} {kA : ClassId} {z j x : Int32} {vs : List Value} {dv : Value} (F : Arv Z h a kA .char z vs dv) (hj : ¬ j < 0 ∧ j < z) {i : Nat} (hi : j.toNatClampNeg = i) (hl : i < vs.length) (ga : a ∈ ws ∨ s.heap.size ≤ a) (hg : g.method = m) {rest : List Value} (hs : g.stack = .int x :: .int j :: .ref a :: rest) (hd : decode c.code g.pc = .ok (.castore, 1)) :
    ∃ (T' : State) (h' : Heap), Hs p l e R s m args below meth c Z own ws V T' h' cells slots ∧ Keep h h' [a] ∧ Arv Z h' a kA .char z (vs.set i (.int (nar .char x))) dv ∧
      ∀ t, Steps p.tables e below (T'.setTop { g with pc := g.pc + 1, stack := rest }) t → Steps p.tables e below (T.setTop g) t := by
  obtain ⟨vm0, k0, locs, hx, X, hS, hk, hZ, ho, eT, F0, r⟩ := H
  obtain ⟨cl, A, q1, S, q3, HH, G⟩ := F
  obtain ⟨T', h', X', e', W, st⟩ := RoadKit.stC X hx (s := s.setVm vm0) hZ eT A (inb_of S hj) hg hs hd
  exact ⟨T', h', ⟨vm0, k0, _, hx, X', hS, by rw [W.size]; exact hk, hZ, ho, e', fun y hy => (List.mem_append.mp hy).elim (F0 y) (fun q => by cases List.mem_singleton.mp q; exact ga), r⟩, Keep.of_wr W, Arv.set A q1 S q3 HH G (fits_nar_char _) W i hi hl, st⟩
/-- bastore at the next place -/
theorem Hs.stB (H : Hs p l e R s m args below meth c Z own ws V T h cells slots) {a : Addr} {kA : ClassId} {z j x : Int32} {vs : List Value} {dv : Value} (F : Arv Z h a kA .byte z vs dv) (hj : ¬ j < 0 ∧ j < z) (hi : j.toNatClampNeg = vs.length) (ga : a ∈ ws ∨ s.heap.size ≤ a) (hg : g.method = m) {rest : List Value} (hs : g.stack = .int x :: .int j :: .ref a :: rest) (hd : decode c.code g.pc = .ok (.bastore, 1)) :
    ∃ (T' : State) (h' : Heap), Hs p l e R s m args below meth c Z own ws V T' h' cells slots ∧ Keep h h' [a] ∧ Arv Z h' a kA .byte z (vs ++ [.int (nar .byte x)]) dv ∧
      ∀ t, Steps p.tables e below (T'.setTop { g with pc := g.pc + 1, stack := rest }) t → Steps p.tables e below (T.setTop g) t := by
  obtain ⟨vm0, k0, locs, hx, X, hS, hk, hZ, ho, eT, F0, r⟩ := H
  have FF := F
  obtain ⟨cl, A, q1, S, q3, HH, G⟩ := F
  obtain ⟨T', h', X', e', W, st⟩ := RoadKit.stB X hx (s := s.setVm vm0) hZ eT A (inb_of S hj) hg hs hd
  exact ⟨T', h', ⟨vm0, k0, _, hx, X', hS, by rw [W.size]; exact hk, hZ, ho, e', fun y hy => (List.mem_append.mp hy).elim (F0 y) (fun q => by cases List.mem_singleton.mp q; exact ga), r⟩, Keep.of_wr W, arv_snoc FF hi (fits_nar_byte _) W, st⟩
theorem Hs.getF (H : Hs p l e R s m args below meth c Z own ws V T h cells slots) {R0 O n d host : String} {index : Nat} (w : (Jvm.Cond.fieldLink own index R0 n d).before a0 Z = true ∨ (Jvm.Cond.fieldLinkNest own index R0 n d host).before a0 Z = true) (via : Via Z R0 O n d)
    {a : Addr} {v : Value} (F : Fld Z h a O n d v) (hg : g.method = m) {rest : List Value} (hs : g.stack = .ref a :: rest) (hd : decode c.code g.pc = .ok (.getfield index, 3)) :
    ∃ T', Hs p l e R s m args below meth c Z own ws V T' h cells slots ∧ ∀ t, Steps p.tables e below (T'.setTop { g with pc := g.pc + 3, stack := v :: rest }) t → Steps p.tables e below (T.setTop g) t := by
  obtain ⟨vm0, k0, locs, hx, X, hS, hk, hZ, ho, eT, r⟩ := H
  obtain ⟨T', X', e', st⟩ := RoadKit.getF X hx (s := s.setVm vm0) hZ ho w via eT F hg hs hd
  exact ⟨T', ⟨vm0, k0, locs, hx, X', hS, hk, hZ, ho, e', r⟩, st⟩
theorem Hs.getS (H : Hs p l e R s m args below meth c Z own ws V T h cells slots) {R0 O n d host : String} {index : Nat} (w : (Jvm.Cond.fieldLink own index R0 n d).before a0 Z = true ∨ (Jvm.Cond.fieldLinkNest own index R0 n d host).before a0 Z = true) (via : Via Z R0 O n d)
    {v : Value} (F : Sta Z h O n d v) (hg : g.method = m) (hd : decode c.code g.pc = .ok (.getstatic index, 3)) :
    ∃ T', Hs p l e R s m args below meth c Z own ws V T' h cells slots ∧ ∀ t, Steps p.tables e below (T'.setTop { g with pc := g.pc + 3, stack := v :: g.stack }) t → Steps p.tables e below (T.setTop g) t := by
  obtain ⟨vm0, k0, locs, hx, X, hS, hk, hZ, ho, eT, r⟩ := H
  obtain ⟨T', X', e', st⟩ := RoadKit.getS2 X hx (s := s.setVm vm0) hZ ho w via eT F hg hd
  exact ⟨T', ⟨vm0, k0, locs, hx, X', hS, hk, hZ, ho, e', r⟩, st⟩
theorem Hs.putF (H : Hs p l e R s m args below meth c Z own ws V T h cells slots) {R0 O n d host C : String} {index kk : Nat} {ty : FieldType} (w : (Jvm.Cond.fieldLink own index R0 n d).before a0 Z = true ∨ (Jvm.Cond.fieldLinkNest own index R0 n d host).before a0 Z = true) (via : Via Z R0 O n d)
    {a : Addr} {v old : Value} (F : Fld Z h a O n d old) (E : Exa Z h a C) (L : (Jvm.Cond.lays C O n d).before a0 Z = true ∨ ((Jvm.Cond.laysFinal C O n d).before a0 Z = true ∧ own = O ∧ meth.name = "<init>")) (wi : (Jvm.Cond.instantiable C kk).before a0 Z = true)
    (hty : parseFieldDescriptor d = some ty) (hn : narrow ty v = v) (hf : fits ty v = true) (ga : a ∈ ws ∨ s.heap.size ≤ a) (hg : g.method = m) {rest : List Value} (hs : g.stack = v :: .ref a :: rest) (hd : decode c.code g.pc = .ok (.putfield index, 3)) :
    ∃ (T' : State) (h' : Heap), Hs p l e R s m args below meth c Z own ws V T' h' cells slots ∧ Keep h h' [a] ∧ Wr h h' a (RoadKit.slotOf Z O n d) v ∧ ∀ t, Steps p.tables e below (T'.setTop { g with pc := g.pc + 3, stack := rest }) t → Steps p.tables e below (T.setTop g) t := by
  obtain ⟨vm0, k0, locs, hx, X, hS, hk, hZ, ho, eT, F0, r⟩ := H
  obtain ⟨T', h', X', e', W, st⟩ := RoadKit.putF X hx (s := s.setVm vm0) hZ ho w via eT F E L wi hty hn hf hg hs hd
  exact ⟨T', h', ⟨vm0, k0, _, hx, X', hS, by rw [W.size]; exact hk, hZ, ho, e', fun y hy => (List.mem_append.mp hy).elim (F0 y) (fun q => by cases List.mem_singleton.mp q; exact ga), r⟩, Keep.of_wr W, W, st⟩
theorem Hs.initO (H : Hs p l e R s m args below meth c Z own ws V T h cells slots) {idx : Nat} (w1 : (Jvm.Cond.methodLink own idx Lib.objectInit).before a0 Z = true) (w2 : (Jvm.Cond.instanceMethod Lib.objectInit).before a0 Z = true) (w3 : (Jvm.Cond.code Lib.objectInit ⟨#[0xb1]⟩ 1 none).before a0 Z = true)
    (hg : g.method = m) (hsize : g.locals.size = c.maxLocals) {a : Addr} {rest : List Value} (hs : g.stack = .ref a :: rest) (hd : decode c.code g.pc = .ok (.invokespecial idx, 3)) (hf : 1 ≤ R.frames) {W : Nat} (hW : 2 * g.monitorRoom + (rest.map fun v => v.category).sum ≤ W) (hl : W + 12 ≤ R.locals) :
    ∃ T', Hs p l e R s m args below meth c Z own ws V T' h cells slots ∧ ∀ t, Steps p.tables e below (T'.setTop { g with pc := g.pc + 3, stack := rest }) t → Steps p.tables e below (T.setTop g) t := by
  obtain ⟨vm0, k0, locs, hx, X, hS, hk, hZ, ho, eT, r⟩ := H
  obtain ⟨T', X', e', st⟩ := RoadKit.initO X hx (s := s.setVm vm0) hZ ho w1 w2 w3 eT hg hsize hs hd hf hW hl
  exact ⟨T', ⟨vm0, k0, locs, hx, X', hS, hk, hZ, ho, e', r⟩, st⟩
/-- ldc of a String whose text isn't asked -/
theorem Hs.ldcS (H : Hs p l e R s m args below meth c Z own ws (fun _ => True) T h cells slots) {text : String} {index : Nat} (w : (Jvm.Cond.stringLink own index text).before a0 Z = true) (wS : ∀ a ∈ Bundle.stringAtoms, a.before a0 Z = true) (hg : g.method = m) (hd : decode c.code g.pc = .ok (.ldc index, 2)) {n : Nat} (hn : 4 * text.toList.length ≤ n) (hbig : n ≤ 536870912) (hc : cells + 2 ≤ R.cells) (hl : slots + (n + 4) ≤ R.slots) :
    ∃ (a : Addr) (T' : State) (h' : Heap), Hs p l e R s m args below meth c Z own ws (fun _ => True) T' h' (cells + 2) (slots + (n + 4)) ∧ Keep h h' [] ∧ ∀ t, Steps p.tables e below (T'.setTop { g with pc := g.pc + 2, stack := .ref a :: g.stack }) t → Steps p.tables e below (T.setTop g) t := by
  obtain ⟨vm0, k0, locs, hx, X, hS, hk, hZ, ho, eT, F0, hV, r⟩ := H
  obtain ⟨a, T', h', k1, X', e', E, hS', hk', hZ', ho', st⟩ := RoadKit.ldcS X hx hZ ho w wS eT hS hk hg hd hn hbig hc hl
  exact ⟨a, T', h', ⟨_, k1, locs, hx, X', hS', hk', hZ', ho', e', F0, trivial, r⟩, ext_keep E, st⟩
theorem Hs.ldcI (H : Hs p l e R s m args below meth c Z own ws V T h cells slots) {index : Nat} {n : Int32} (w : (Jvm.Cond.constant own index n).before a0 Z = true) (hg : g.method = m) (hd : decode c.code g.pc = .ok (.ldc index, 2)) :
    ∀ t, Steps p.tables e below (T.setTop { g with pc := g.pc + 2, stack := .int n :: g.stack }) t → Steps p.tables e below (T.setTop g) t := by
  obtain ⟨vm0, k0, locs, hx, X, hS, hk, hZ, ho, eT, r⟩ := H
  exact X.ldcInt hx ho (mvT (s := s.setVm vm0) hZ w) hg hd
theorem Hs.castY (H : Hs p l e R s m args below meth c Z own ws V T h cells slots) {KK : String} {index : Nat} (w : (Jvm.Cond.classLink own index KK).before a0 Z = true) {a : Addr} (F : Ins Z h a KK true) (hg : g.method = m) {rest : List Value} (hs : g.stack = .ref a :: rest) (hd : decode c.code g.pc = .ok (.checkcast index, 3)) :
    ∃ T', Hs p l e R s m args below meth c Z own ws V T' h cells slots ∧ ∀ t, Steps p.tables e below (T'.setTop { g with pc := g.pc + 3 }) t → Steps p.tables e below (T.setTop g) t := by
  obtain ⟨vm0, k0, locs, hx, X, hS, hk, hZ, ho, eT, r⟩ := H
  obtain ⟨T', X', e', st⟩ := RoadKit.castY X hx (s := s.setVm vm0) hZ ho w eT F hg hs hd
  exact ⟨T', ⟨vm0, k0, locs, hx, X', hS, hk, hZ, ho, e', r⟩, st⟩
theorem Hs.instY (H : Hs p l e R s m args below meth c Z own ws V T h cells slots) {KK : String} {index : Nat} (w : (Jvm.Cond.classLink own index KK).before a0 Z = true) {a : Addr} (F : Ins Z h a KK true) (hg : g.method = m) {rest : List Value} (hs : g.stack = .ref a :: rest) (hd : decode c.code g.pc = .ok (.instanceof index, 3)) :
    ∃ T', Hs p l e R s m args below meth c Z own ws V T' h cells slots ∧ ∀ t, Steps p.tables e below (T'.setTop { g with pc := g.pc + 3, stack := .int 1 :: rest }) t → Steps p.tables e below (T.setTop g) t := by
  obtain ⟨vm0, k0, locs, hx, X, hS, hk, hZ, ho, eT, r⟩ := H
  obtain ⟨T', X', e', st⟩ := RoadKit.instY X hx (s := s.setVm vm0) hZ ho w eT F hg hs hd
  exact ⟨T', ⟨vm0, k0, locs, hx, X', hS, hk, hZ, ho, e', r⟩, st⟩
theorem Hs.instNo (H : Hs p l e R s m args below meth c Z own ws V T h cells slots) {C KK : String} {index : Nat} (w : (Jvm.Cond.classLink own index KK).before a0 Z = true) {a : Addr} (E : Exa Z h a C) (F : ∃ c t, Z.vm.findClass C = some c ∧ Z.vm.findClass KK = some t ∧ Z.vm.assignable c t = false) (hg : g.method = m) {rest : List Value} (hs : g.stack = .ref a :: rest) (hd : decode c.code g.pc = .ok (.instanceof index, 3)) :
    ∃ T', Hs p l e R s m args below meth c Z own ws V T' h cells slots ∧ ∀ t, Steps p.tables e below (T'.setTop { g with pc := g.pc + 3, stack := .int 0 :: rest }) t → Steps p.tables e below (T.setTop g) t := by
  obtain ⟨vm0, k0, locs, hx, X, hS, hk, hZ, ho, eT, r⟩ := H
  obtain ⟨T', X', e', st⟩ := RoadKit.instNo X hx (s := s.setVm vm0) hZ (a0 := a0) ho w eT E F hg hs hd
  exact ⟨T', ⟨vm0, k0, locs, hx, X', hS, hk, hZ, ho, e', r⟩, st⟩
/-! arrays read -/
theorem Hs.alen (H : Hs p l e R s m args below meth c Z own ws V T h cells slots) {a : Addr} {kA : ClassId} {ty : FieldType} {z : Int32} {vs : List Value} {dv : Value} (F : Arv Z h a kA ty z vs dv) (hg : g.method = m) {rest : List Value} (hs : g.stack = .ref a :: rest) (hd : decode c.code g.pc = .ok (.arraylength, 1)) :
    ∀ t, Steps p.tables e below (T.setTop { g with pc := g.pc + 1, stack := .int z :: rest }) t → Steps p.tables e below (T.setTop g) t := by
  obtain ⟨vm0, k0, locs, hx, X, hS, hk, hZ, ho, eT, r⟩ := H
  obtain ⟨cl, A, q1, S, q3, HH, G⟩ := F
  intro t k
  refine X.arraylength hx (by rw [eT]; exact A.1) (State.isArrayOf_alike (T := s.setVm vm0) (State.Warmed39.alike (s := Z) hZ) A.2.1) hg hs hd t ?_
  rw [len_of S q3]; exact k
theorem Hs.aald (H : Hs p l e R s m args below meth c Z own ws V T h cells slots) {a : Addr} {kA : ClassId} {ty : FieldType} {z j : Int32} {vs : List Value} {dv v : Value} (F : Arv Z h a kA ty z vs dv) (hty : ty.isReference = true) (hj : ¬ j < 0 ∧ j < z) (hv : vs.getD j.toNatClampNeg dv = v) (hg : g.method = m) {rest : List Value} (hs : g.stack = .int j :: .ref a :: rest) (hd : decode c.code g.pc = .ok (.aaload, 1)) :
    ∀ t, Steps p.tables e below (T.setTop { g with pc := g.pc + 1, stack := v :: rest }) t → Steps p.tables e below (T.setTop g) t := by
  obtain ⟨vm0, k0, locs, hx, X, hS, hk, hZ, ho, eT, r⟩ := H
  obtain ⟨cl, A, q1, S, q3, HH, G⟩ := F
  intro t k
  exact X.aaload hx (by rw [eT]; exact A.1) (State.isArrayOf_alike (T := s.setVm vm0) (State.Warmed39.alike (s := Z) hZ) A.2.1) hty A.2.2 (inb_of S hj) (HH.at (inb_of S hj) hv) hg hs hd t k
theorem Hs.cald (H : Hs p l e R s m args below meth c Z own ws V T h cells slots) {a : Addr} {kA : ClassId} {z j : Int32} {vs : List Value} {dv v : Value} (F : Arv Z h a kA .char z vs dv) (hj : ¬ j < 0 ∧ j < z) (hv : vs.getD j.toNatClampNeg dv = v) (hg : g.method = m) {rest : List Value} (hs : g.stack = .int j :: .ref a :: rest) (hd : decode c.code g.pc = .ok (.caload, 1)) :
    ∀ t, Steps p.tables e below (T.setTop { g with pc := g.pc + 1, stack := v :: rest }) t → Steps p.tables e below (T.setTop g) t := by
  obtain ⟨vm0, k0, locs, hx, X, hS, hk, hZ, ho, eT, r⟩ := H
  obtain ⟨cl, A, q1, S, q3, HH, G⟩ := F
  intro t k
  exact X.caload hx (by rw [eT]; exact A.1) (State.isArrayOf_alike (T := s.setVm vm0) (State.Warmed39.alike (s := Z) hZ) A.2.1) A.2.2 (inb_of S hj) (HH.at (inb_of S hj) hv) hg hs hd t k
theorem Hs.bald (H : Hs p l e R s m args below meth c Z own ws V T h cells slots) {a : Addr} {kA : ClassId} {z j : Int32} {vs : List Value} {dv v : Value} (F : Arv Z h a kA .byte z vs dv) (hj : ¬ j < 0 ∧ j < z) (hv : vs.getD j.toNatClampNeg dv = v) (hg : g.method = m) {rest : List Value} (hs : g.stack = .int j :: .ref a :: rest) (hd : decode c.code g.pc = .ok (.baload, 1)) :
    ∀ t, Steps p.tables e below (T.setTop { g with pc := g.pc + 1, stack := v :: rest }) t → Steps p.tables e below (T.setTop g) t := by
  obtain ⟨vm0, k0, locs, hx, X, hS, hk, hZ, ho, eT, r⟩ := H
  obtain ⟨cl, A, q1, S, q3, HH, G⟩ := F
  intro t k
  exact X.baloadBytes hx (by rw [eT]; exact A.1) (State.isArrayOf_alike (T := s.setVm vm0) (State.Warmed39.alike (s := Z) hZ) A.2.1) A.2.2 (inb_of S hj) (HH.at (inb_of S hj) hv) hg hs hd t k
/-- an array's clone() -/
theorem Hs.clone (H : Hs p l e R s m args below meth c Z own ws V T h cells slots) {ad : String} {index : Nat} (w1 : (Jvm.Cond.methodLink own index ⟨ad, "clone", "()Ljava/lang/Object;"⟩).before a0 Z = true) (w2 : (Jvm.Cond.sameMethod ad "java/lang/Object" "clone" "()Ljava/lang/Object;").before a0 Z = true) (w3 : (Jvm.Cond.native ⟨"java/lang/Object", "clone", "()Ljava/lang/Object;"⟩).before a0 Z = true)
    (w4 : (Jvm.Cond.instanceMethod ⟨"java/lang/Object", "clone", "()Ljava/lang/Object;"⟩).before a0 Z = true) (w5 : (Jvm.Cond.selects ad ⟨ad, "clone", "()Ljava/lang/Object;"⟩ ⟨"java/lang/Object", "clone", "()Ljava/lang/Object;"⟩).before a0 Z = true) (w6 : (Jvm.Cond.castable ad "java/lang/Cloneable").before a0 Z = true)
    {a : Addr} {kA : ClassId} {ty : FieldType} {z : Int32} {vs : List Value} {dv : Value} (F : Arv Z h a kA ty z vs dv) (E : Exa Z h a ad) (hg : g.method = m) (hsize : g.locals.size = c.maxLocals) {rest : List Value} (hst : g.stack = .ref a :: rest) (hd : decode c.code g.pc = .ok (.invokevirtual index, 3))
    (hf : 1 ≤ R.frames) {W cap : Nat} (hW : 2 * g.monitorRoom + (rest.map fun v => v.category).sum ≤ W) (hl : W + 14 ≤ R.locals) (hcap : z.toNatClampNeg ≤ cap) (hc : cells + 1 ≤ R.cells) (hsl : slots + cap ≤ R.slots) :
    ∃ (b : Addr) (T' : State) (h' : Heap), @Eq Nat b h.size ∧ Hs p l e R s m args below meth c Z own ws V T' h' (cells + 1) (slots + cap) ∧ Keep h h' [] ∧ Arv Z h' b kA ty z vs dv ∧ Exa Z h' b ad ∧
      ∀ t, Steps p.tables e below (T'.setTop { g with pc := g.pc + 3, stack := .ref b :: rest }) t → Steps p.tables e below (T.setTop g) t := by
  obtain ⟨vm0, k0, locs, hx, X, hS, hk, hZ, ho, eT, r⟩ := H
  obtain ⟨T', h', X', e', Ex, A, E', st⟩ := cloneH X hx (s := s.setVm vm0) hZ ho w1 w2 w3 w4 w5 w6 eT F.arh E hg hsize hst hd hf hW hl hcap hc hsl
  exact ⟨_, T', h', rfl, ⟨vm0, k0, locs, hx, X', hS, Nat.le_trans hk Ex.1, hZ, ho, e', r⟩, ext_keep Ex, A, E', st⟩
theorem iremH (H : Hs p l e R s m args below meth c Z own ws V T h cells slots) (hx : p.tables.exec = Jvm.exec) (hg : g.method = m) {x y : Int32} {rest : List Value} {target : State} (hd : decode c.code g.pc = .ok (.irem, 1)) (hs : g.stack = .int y :: .int x :: rest) (hy : y ≠ 0)
    (hr : Steps p.tables e below (T.setTop { g with pc := g.pc + 1, stack := .int (x % y) :: rest }) target) : Steps p.tables e below (T.setTop g) target := by
  obtain ⟨vm0, k0, locs, hx', X, -⟩ := H
  exact iremM X hx hg hd hs hy hr
theorem Hs.instNull (H : Hs p l e R s m args below meth c Z own ws V T h cells slots) {index : Nat} (hg : g.method = m) {rest : List Value} (hs : g.stack = .null :: rest) (hd : decode c.code g.pc = .ok (.instanceof index, 3)) :
    ∀ t, Steps p.tables e below (T.setTop { g with pc := g.pc + 3, stack := .int 0 :: rest }) t → Steps p.tables e below (T.setTop g) t := by
  obtain ⟨vm0, k0, locs, hx, X, r⟩ := H
  exact Jvm.Stand.instanceofNull X hx hg hs hd
/-- no object of the class C is one of the class K -/
theorem not_sub {C K : String} {n : Nat} (w : (Jvm.Cond.superclass C "java/lang/Object").before a0 Z = true) (w0 : (Jvm.Cond.noSuperclass "java/lang/Object").before a0 Z = true) (wk : (Jvm.Cond.instantiable K n).before a0 Z = true) (n1 : C ≠ K) (n2 : "java/lang/Object" ≠ K) :
    ∃ c t, Z.vm.findClass C = some c ∧ Z.vm.findClass K = some t ∧ Z.vm.assignable c t = false := by
  obtain ⟨c, h0⟩ := found_sup w
  obtain ⟨p, k, kp, h1, h2, h3, h4, h5, -, h7⟩ := Cond.superclass_spec h0 w
  obtain ⟨t, k', g0, g2, g5, g6, -, -⟩ := Cond.instantiable_spec wk
  obtain ⟨c', k'', r1, r2, r3, -, -⟩ := Cond.noSuperclass_spec w0
  cases h1.symm.trans r1
  have ne := ids_ne h0 g0 n1
  have ne2 := ids_ne r1 g0 n2
  have g7 : k'.isInterface = false := by cases q : k'.isInterface <;> simp [q] at g6 ⊢
  have n3 : ∀ fuel, Z.vm.isSubclassAux fuel c t = false := fun fuel => by
    cases fuel with
    | zero => rfl
    | succ f => cases f with
      | zero => simp [Vm.isSubclassAux, ne, h2, h4]
      | succ f => simp [Vm.isSubclassAux, ne, ne2, h2, h4, r2, r3]
  refine ⟨c, t, h0, g0, ?_⟩
  show Z.vm.assignableAux (255 + 1) c t = false
  simp [Vm.assignableAux, ne, h2, g2, h5, g5, g7, Vm.isSubclass, n3]
/-! branches -/
theorem z_eq_t {x : Int32} (q : x = 0) : ifCond.holds .eq x = true := (if0 _ _).trans (teq q).1
theorem z_eq_f {x : Int32} (q : ¬ x = 0) : ifCond.holds .eq x = false := (if0 _ _).trans (feq q).1
theorem z_ne_f {x : Int32} (q : x = 0) : ifCond.holds .ne x = false := (if0 _ _).trans (teq q).2
theorem z_ne_t {x : Int32} (q : ¬ x = 0) : ifCond.holds .ne x = true := (if0 _ _).trans (feq q).2
theorem z_lt_t {x : Int32} (q : x < 0) : ifCond.holds .lt x = true := (if0 _ _).trans (tlt q).1
theorem z_lt_f {x : Int32} (q : ¬ x < 0) : ifCond.holds .lt x = false := (if0 _ _).trans (flt q).1
theorem z_ge_f {x : Int32} (q : x < 0) : ifCond.holds .ge x = false := (if0 _ _).trans (tlt q).2.1
theorem z_ge_t {x : Int32} (q : ¬ x < 0) : ifCond.holds .ge x = true := (if0 _ _).trans (flt q).2.1
theorem z_gt_t {x : Int32} (q : 0 < x) : ifCond.holds .gt x = true := (if0 _ _).trans (tlt q).2.2.1
theorem z_gt_f {x : Int32} (q : ¬ 0 < x) : ifCond.holds .gt x = false := (if0 _ _).trans (flt q).2.2.1
theorem z_le_f {x : Int32} (q : 0 < x) : ifCond.holds .le x = false := (if0 _ _).trans (tlt q).2.2.2
theorem z_le_t {x : Int32} (q : ¬ 0 < x) : ifCond.holds .le x = true := (if0 _ _).trans (flt q).2.2.2
theorem c_eq_t {x y : Int32} (q : x = y) : if_icmp.holds .eq x y = true := (teq q).1
theorem c_eq_f {x y : Int32} (q : ¬ x = y) : if_icmp.holds .eq x y = false := (feq q).1
theorem c_ne_f {x y : Int32} (q : x = y) : if_icmp.holds .ne x y = false := (teq q).2
theorem c_ne_t {x y : Int32} (q : ¬ x = y) : if_icmp.holds .ne x y = true := (feq q).2
theorem c_lt_t {x y : Int32} (q : x < y) : if_icmp.holds .lt x y = true := (tlt q).1
theorem c_lt_f {x y : Int32} (q : ¬ x < y) : if_icmp.holds .lt x y = false := (flt q).1
theorem c_ge_f {x y : Int32} (q : x < y) : if_icmp.holds .ge x y = false := (tlt q).2.1
theorem c_ge_t {x y : Int32} (q : ¬ x < y) : if_icmp.holds .ge x y = true := (flt q).2.1
theorem c_gt_t {x y : Int32} (q : y < x) : if_icmp.holds .gt x y = true := (tlt q).2.2.1
theorem c_gt_f {x y : Int32} (q : ¬ y < x) : if_icmp.holds .gt x y = false := (flt q).2.2.1
theorem c_le_f {x y : Int32} (q : y < x) : if_icmp.holds .le x y = false := (tlt q).2.2.2
theorem c_le_t {x y : Int32} (q : ¬ y < x) : if_icmp.holds .le x y = true := (flt q).2.2.2
theorem ac_eq_t {x y : Value} (q : x = y) : XT.acmp .eq x y = true := decide_eq_true q
theorem ac_eq_f {x y : Value} (q : ¬ x = y) : XT.acmp .eq x y = false := decide_eq_false q
theorem ac_ne_t {x y : Value} (q : ¬ x = y) : XT.acmp .ne x y = true := decide_eq_true q
theorem ac_ne_f {x y : Value} (q : x = y) : XT.acmp .ne x y = false := decide_eq_false fun r => r q
theorem ref_ne {a b : Addr} (q : ¬ a = b) : ¬ Value.ref a = Value.ref b := fun r => q (Value.ref.inj r)
end Own
end Jvm.Pilot.@@N@@
/- laws to paste: Road.backArv, Road.eqW, Road.lenW, Road.chN (cut by pick.py; bodies as the Statement names them) -/
namespace Jvm.Pilot.@@N@@
namespace StrChars
open Jvm Sem ClassFile Op Lib Jvm.Stand Jvm.Free.XT Jvm.Free.ALB Jvm.Free.JM Jvm.Free
open Jvm.Lib.Cold (StaticIs)
/-- a char array whose places are chars -/
def Ch (a : Addr) (A : Cell) (U : State) : Prop := Arr .char a A U ∧ Typed .char A
theorem Ch.mv {a : Addr} {A : Cell} {U U' : State} (h : Ch a A U) (hal : U.vm.Alike U'.vm) (hh : U'.heap = U.heap) : Ch a A U' := ⟨h.1.mv hal hh, h.2⟩
theorem Ch.keep {a : Addr} {A : Cell} {U U' : State} (h : Ch a A U) (hal : U.vm.Alike U'.vm) (hk : U'.heap[a]? = some A) : Ch a A U' := ⟨h.1.keep hal hk, h.2⟩
/-- what place i of a char[]'s cell holds -/
def cv (A : Cell) (i : Nat) : Int32 := match A.slots[i]? with | some (.int x) => x | _ => 0
theorem Ch.get {a : Addr} {A : Cell} {U : State} (h : Ch a A U) {i : Nat} (hi : i < A.slots.size) : A.slots[i]? = some (.int (cv A i)) := by
  have e := Array.getElem?_eq_getElem hi
  have f := h.2 i _ e
  unfold cv; rw [e]
  generalize A.slots[i] = v at f
  cases v <;> simp [fits] at f ⊢
/-- the byte that i2b leaves of a char -/
def lo8 (x : Int32) : Int32 := x.toInt8.toInt32
theorem fits_lo8 (y : Int32) : fits .byte (.int (lo8 y)) = true := by
  have h1 := y.toInt8.le_toInt
  have h2 := y.toInt8.toInt_lt
  simp only [lo8, fits, Bool.and_eq_true, decide_eq_true_eq, Int32.le_iff_toInt_le, Int8.toInt_toInt32, show (-128 : Int32).toInt = -128 from by decide, show (127 : Int32).toInt = 127 from by decide]
  omega
/-- A' is A but that each place j of lo .. hi - 1 holds f j -/
def Laid (A A' : Cell) (lo hi : Nat) (f : Nat → Value) : Prop := A'.cls = A.cls ∧ A'.vm = A.vm ∧ A'.slots.size = A.slots.size ∧ ∀ i, A'.slots[i]? = if lo ≤ i ∧ i < hi then some (f i) else A.slots[i]?
theorem Laid.zero (A : Cell) (lo : Nat) (f : Nat → Value) : Laid A A lo (lo + 0) f := ⟨rfl, rfl, rfl, fun i => by rw [if_neg (by omega)]⟩
theorem Laid.step {A Ak : Cell} {lo k : Nat} {f : Nat → Value} {v : Value} (h : Laid A Ak lo k f) (hlo : lo ≤ k) (hk : k < Ak.slots.size) (hv : v = f k) : Laid A (Ak.setSlot k v) lo (k + 1) f := by
  refine ⟨h.1, h.2.1, by simpa [Cell.setSlot] using h.2.2.1, fun i => ?_⟩
  by_cases e : k = i
  · subst e; rw [Cell.slots_setSlot_self v hk, if_pos (by omega), hv]
  · rw [Cell.slots_setSlot_ne v e, h.2.2.2 i]
    by_cases q : lo ≤ i ∧ i < k
    · rw [if_pos q, if_pos (by omega)]
    · rw [if_neg q, if_neg (by omega)]
def U16 : String := "java/lang/StringUTF16"
namespace Cmp5
def yN : MethodName := ⟨"java/lang/StringUTF16", "compress", "([CI[BII)I"⟩
abbrev yB : ByteArray := jdk_52_method_21_code
theorem d0 : decode yB 0 = .ok (.iconst 0, 1) := by decide +kernel
theorem d1 : decode yB 1 = .ok (.istore 5, 2) := by decide +kernel
theorem d3 : decode yB 3 = .ok (.iload 5, 2) := by decide +kernel
theorem d5 : decode yB 5 = .ok (.iload 4, 2) := by decide +kernel
theorem d7 : decode yB 7 = .ok (.if_icmp (.ge) 37, 3) := by decide +kernel
theorem d10 : decode yB 10 = .ok (.aload_n 0, 1) := by decide +kernel
theorem d11 : decode yB 11 = .ok (.iload_n 1, 1) := by decide +kernel
theorem d12 : decode yB 12 = .ok (.caload, 1) := by decide +kernel
theorem d13 : decode yB 13 = .ok (.istore 6, 2) := by decide +kernel
theorem d15 : decode yB 15 = .ok (.iload 6, 2) := by decide +kernel
theorem d17 : decode yB 17 = .ok (.sipush 255, 3) := by decide +kernel
theorem d20 : decode yB 20 = .ok (.if_icmp (.le) 6, 3) := by decide +kernel
theorem d26 : decode yB 26 = .ok (.aload_n 2, 1) := by decide +kernel
theorem d27 : decode yB 27 = .ok (.iload_n 3, 1) := by decide +kernel
theorem d28 : decode yB 28 = .ok (.iload 6, 2) := by decide +kernel
theorem d30 : decode yB 30 = .ok (.i2b, 1) := by decide +kernel
theorem d31 : decode yB 31 = .ok (.bastore, 1) := by decide +kernel
theorem d32 : decode yB 32 = .ok (.iinc 1 1, 3) := by decide +kernel
theorem d35 : decode yB 35 = .ok (.iinc 3 1, 3) := by decide +kernel
theorem d38 : decode yB 38 = .ok (.iinc 5 1, 3) := by decide +kernel
theorem d41 : decode yB 41 = .ok (.goto (-38), 3) := by decide +kernel
theorem d44 : decode yB 44 = .ok (.iload 4, 2) := by decide +kernel
theorem d46 : decode yB 46 = .ok (.ireturn, 1) := by decide +kernel
def site : List Cond := []
def tab : Cond := tabOf yN yB 7 (some .int) site
def P (b : Addr) (A : Cell) (d : Addr) (B : Cell) (o q len : Nat) (args : Array Value) (s : State) : Prop := args = #[.ref b, .int (Int32.ofNat o), .ref d, .int (Int32.ofNat q), .int (Int32.ofNat len)] ∧ Ch b A s ∧ Arr .byte d B s ∧ b ≠ d ∧ o + len ≤ A.slots.size ∧ q + len ≤ B.slots.size ∧ ∀ i, i < len → ¬ 255 < cv A (o + i)
def E (b : Addr) (A : Cell) (d : Addr) (B : Cell) (o q len : Nat) (r : Option Value) (s u : State) : Prop := r = some (.int (Int32.ofNat len)) ∧ ∃ B', Put d B' s u ∧ Laid B B' q (q + len) (fun j => Value.int (lo8 (cv A (o + (j - q)))))
/-- no char of the range above 255: len; the places written hold each char's low byte -/
theorem law (l : Launch) (b : Addr) (A : Cell) (d : Addr) (B : Cell) (o q len : Nat) : Law l yN 5 5 0 0 yB 7 (some .int) site (P b A d B o q len) (E b A d B o q len) (copyLocs d q len) 0 0 := by
  refine Law.of_walk (plainFor_of_name (by decide +kernel)) (by decide +kernel) (by decide +kernel) (by decide) (fun _ _ h => by rw [h.1]; rfl) (fun _ U U' hal hh h => ⟨h.1, h.2.1.mv hal hh, h.2.2.1.mv hal hh, h.2.2.2⟩) (fun r U U' V V' h1 hal h2 h => ⟨h.1, h.2.elim fun B' q => ⟨B', q.1.mv h1 h2, q.2⟩⟩) ?_
  intro p e s m args below meth c s₁ X0 hexec hbytes hml hret hlk hnm hown hh0 W hP
  obtain ⟨rfl, hA, hB, hne, l1, l2, hp⟩ := hP
  have c1 : Steps p.tables e below (s₁.setTop (entryFrame m #[.ref b, .int (Int32.ofNat o), .ref d, .int (Int32.ofNat q), .int (Int32.ofNat len)] 7)) (s₁.setTop (mkF m 0 #[.val (.ref b), .val (.int (Int32.ofNat o)), .val (.ref d), .val (.int (Int32.ofNat q)), .val (.int (Int32.ofNat len)), .unset, .unset] [])) := entry rfl
  have hA0 := hA.1.mv X0.warmed.alike hh0
  have hB0 := hB.mv X0.warmed.alike hh0
  have a31 := hA.1.2.2.2
  have c2 : Steps p.tables e below (s₁.setTop (entryFrame m #[.ref b, .int (Int32.ofNat o), .ref d, .int (Int32.ofNat q), .int (Int32.ofNat len)] 7)) (s₁.setTop (mkF m 3 #[.val (.ref b), .val (.int (Int32.ofNat o)), .val (.ref d), .val (.int (Int32.ofNat q)), .val (.int (Int32.ofNat len)), .val (.int 0), .unset] [])) := c1.trans (by
    refine iconstV X0.here hexec rfl 0 (hb hbytes d0) (by decide) ?_
    refine XS.istore X0.here hexec rfl (hb hbytes d1) rfl rfl ?_
    exact Steps.refl _)
  have loop : ∀ (r i : Nat), i + r = len → ∀ (z : Slot), (z = .unset ∨ ∃ w, z = .val w ∧ w.category = 1) → ∀ (Tl : State) (Bk : Cell), Stand p l e { frames := 0, locals := 0, cells := 0, slots := 0 } s m #[.ref b, .int (Int32.ofNat o), .ref d, .int (Int32.ofNat q), .int (Int32.ofNat len)] below meth c Tl ([] ++ copyLocs d q i) 0 0 → Put d Bk s₁ Tl → Laid B Bk q (q + i) (fun j => Value.int (lo8 (cv A (o + (j - q))))) →
      Steps p.tables e below (s₁.setTop (entryFrame m #[.ref b, .int (Int32.ofNat o), .ref d, .int (Int32.ofNat q), .int (Int32.ofNat len)] 7)) (Tl.setTop (mkF m 3 #[.val (.ref b), .val (.int (Int32.ofNat (o + i))), .val (.ref d), .val (.int (Int32.ofNat (q + i))), .val (.int (Int32.ofNat len)), .val (.int (Int32.ofNat i)), z] [])) → ∃ (T' : State) (B' : Cell) (z' : Slot), Stand p l e { frames := 0, locals := 0, cells := 0, slots := 0 } s m #[.ref b, .int (Int32.ofNat o), .ref d, .int (Int32.ofNat q), .int (Int32.ofNat len)] below meth c T' ([] ++ copyLocs d q len) 0 0 ∧ Put d B' s₁ T' ∧ Laid B B' q (q + len) (fun j => Value.int (lo8 (cv A (o + (j - q))))) ∧
      Steps p.tables e below (s₁.setTop (entryFrame m #[.ref b, .int (Int32.ofNat o), .ref d, .int (Int32.ofNat q), .int (Int32.ofNat len)] 7)) (T'.setTop (mkF m 3 #[.val (.ref b), .val (.int (Int32.ofNat (o + len))), .val (.ref d), .val (.int (Int32.ofNat (q + len))), .val (.int (Int32.ofNat len)), .val (.int (Int32.ofNat len)), z'] [])) := by
    intro r
    induction r with
    | zero =>
      intro i hi z hz Tl Bk Xl pl fl cl
      have hil : i = len := by omega
      rw [hil] at Xl fl cl
      exact ⟨Tl, Bk, z, Xl, pl, fl, cl⟩
    | succ r ih =>
      intro i hi z hz Tl Bk Xl pl fl cl
      have all := X0.warmed.alike.symm.trans Xl.warmed.alike
      have hAl := hA0.keep all (pl.other hne hA0.1)
      have hBk := hB0.like all pl.1 fl.1 fl.2.1 fl.2.2.1
      have hlt : q + i < Bk.slots.size := by rw [fl.2.2.1]; omega
      have c3 : Steps p.tables e below (s₁.setTop (entryFrame m #[.ref b, .int (Int32.ofNat o), .ref d, .int (Int32.ofNat q), .int (Int32.ofNat len)] 7)) (Tl.setTop (mkF m 12 #[.val (.ref b), .val (.int (Int32.ofNat (o + i))), .val (.ref d), .val (.int (Int32.ofNat (q + i))), .val (.int (Int32.ofNat len)), .val (.int (Int32.ofNat i)), z] [.int (Int32.ofNat (o + i)), .ref b])) := cl.trans (by
        refine XS.iload Xl.here hexec rfl (hb hbytes d3) rfl ?_
        refine XS.iload Xl.here hexec rfl (hb hbytes d5) rfl ?_
        refine XS.icmpNo Xl.here hexec rfl (hb hbytes d7) rfl (ii_ge_f (lt32 (by omega) (by omega))) ?_
        refine XS.aloadN Xl.here hexec rfl (hb hbytes d10) rfl rfl ?_
        refine XS.iloadN Xl.here hexec rfl (hb hbytes d11) rfl ?_
        exact Steps.refl _)
      have c4 : Steps p.tables e below (s₁.setTop (entryFrame m #[.ref b, .int (Int32.ofNat o), .ref d, .int (Int32.ofNat q), .int (Int32.ofNat len)] 7)) (Tl.setTop (mkF m 13 #[.val (.ref b), .val (.int (Int32.ofNat (o + i))), .val (.ref d), .val (.int (Int32.ofNat (q + i))), .val (.int (Int32.ofNat len)), .val (.int (Int32.ofNat i)), z] [.int (cv A (o + i))])) := c3.trans (by
        refine Xl.aget hexec hAl rfl (hA.get (i := o + i) (by omega)) rfl rfl (hb hbytes d12) ?_
        exact Steps.refl _)
      have c5 : Steps p.tables e below (s₁.setTop (entryFrame m #[.ref b, .int (Int32.ofNat o), .ref d, .int (Int32.ofNat q), .int (Int32.ofNat len)] 7)) (Tl.setTop (mkF m 15 #[.val (.ref b), .val (.int (Int32.ofNat (o + i))), .val (.ref d), .val (.int (Int32.ofNat (q + i))), .val (.int (Int32.ofNat len)), .val (.int (Int32.ofNat i)), .val (.int (cv A (o + i)))] [])) := c4.trans (by
        refine XS.istoreS Xl.here hexec rfl (hb hbytes d13) rfl rfl hz ?_
        exact Steps.refl _)
      have c6 : Steps p.tables e below (s₁.setTop (entryFrame m #[.ref b, .int (Int32.ofNat o), .ref d, .int (Int32.ofNat q), .int (Int32.ofNat len)] 7)) (Tl.setTop (mkF m 31 #[.val (.ref b), .val (.int (Int32.ofNat (o + i))), .val (.ref d), .val (.int (Int32.ofNat (q + i))), .val (.int (Int32.ofNat len)), .val (.int (Int32.ofNat i)), .val (.int (cv A (o + i)))] [.int (lo8 (cv A (o + i))), .int (Int32.ofNat (q + i)), .ref d])) := c5.trans (by
        refine XS.iload Xl.here hexec rfl (hb hbytes d15) rfl ?_
        refine sipushV Xl.here hexec rfl 255 (hb hbytes d17) (by decide) ?_
        refine XS.icmpYes Xl.here hexec rfl (pc0 := 20) rfl (hb hbytes d20) rfl (ii_le_t (hp i (by omega))) (by decide) rfl ?_
        refine XS.aloadN Xl.here hexec rfl (hb hbytes d26) rfl rfl ?_
        refine XS.iloadN Xl.here hexec rfl (hb hbytes d27) rfl ?_
        refine XS.iload Xl.here hexec rfl (hb hbytes d28) rfl ?_
        refine i2b Xl.here hexec rfl (hb hbytes d30) rfl ?_
        exact Steps.refl _)
      obtain ⟨T7, X7, p7, st7⟩ := Xl.aput hexec hBk rfl hlt rfl (fits_lo8 (cv A (o + i))) (g := (mkF m 31 #[.val (.ref b), .val (.int (Int32.ofNat (o + i))), .val (.ref d), .val (.int (Int32.ofNat (q + i))), .val (.int (Int32.ofNat len)), .val (.int (Int32.ofNat i)), .val (.int (cv A (o + i)))] [.int (lo8 (cv A (o + i))), .int (Int32.ofNat (q + i)), .ref d])) rfl (rest := []) rfl (hb hbytes d31)
      have c8 : Steps p.tables e below (s₁.setTop (entryFrame m #[.ref b, .int (Int32.ofNat o), .ref d, .int (Int32.ofNat q), .int (Int32.ofNat len)] 7)) (T7.setTop (mkF m 32 #[.val (.ref b), .val (.int (Int32.ofNat (o + i))), .val (.ref d), .val (.int (Int32.ofNat (q + i))), .val (.int (Int32.ofNat len)), .val (.int (Int32.ofNat i)), .val (.int (cv A (o + i)))] [])) := c6.trans (st7 _ (Steps.refl _))
      have c9 : Steps p.tables e below (s₁.setTop (entryFrame m #[.ref b, .int (Int32.ofNat o), .ref d, .int (Int32.ofNat q), .int (Int32.ofNat len)] 7)) (T7.setTop (mkF m 3 #[.val (.ref b), .val (.int (Int32.ofNat (o + i) + 1)), .val (.ref d), .val (.int (Int32.ofNat (q + i) + 1)), .val (.int (Int32.ofNat len)), .val (.int (Int32.ofNat i + 1)), .val (.int (cv A (o + i)))] [])) := c8.trans (by
        refine iincV X7.here hexec rfl 1 (hb hbytes d32) (by decide) rfl rfl ?_
        refine iincV X7.here hexec rfl 1 (hb hbytes d35) (by decide) rfl rfl ?_
        refine iincV X7.here hexec rfl 1 (hb hbytes d38) (by decide) rfl rfl ?_
        refine XS.goto X7.here hexec rfl (pc0 := 41) rfl (hb hbytes d41) (by decide) rfl ?_
        exact Steps.refl _)
      have c10 : Steps p.tables e below (s₁.setTop (entryFrame m #[.ref b, .int (Int32.ofNat o), .ref d, .int (Int32.ofNat q), .int (Int32.ofNat len)] 7)) (T7.setTop (mkF m 3 #[.val (.ref b), .val (.int (Int32.ofNat (o + (i + 1)))), .val (.ref d), .val (.int (Int32.ofNat (q + (i + 1)))), .val (.int (Int32.ofNat len)), .val (.int (Int32.ofNat (i + 1))), .val (.int (cv A (o + i)))] [])) := by
        have := c9
        rw [succ32, succ32, succ32] at this
        exact this
      exact ih (i + 1) (by omega) _ (Or.inr ⟨_, rfl, rfl⟩) T7 _ (by rw [copyLocs_step, ← List.append_assoc]; exact X7) (pl.trans p7) (fl.step (by omega) hlt (by simp)) c10
  obtain ⟨T9, B9, z9, X9, p9, f9, g9⟩ := loop len 0 (by omega) .unset (Or.inl rfl) s₁ B (by simpa [copyLocs] using X0) ⟨hB0.1, fun _ _ => rfl, rfl⟩ (Laid.zero _ _ _) c2
  have c11 : Steps p.tables e below (s₁.setTop (entryFrame m #[.ref b, .int (Int32.ofNat o), .ref d, .int (Int32.ofNat q), .int (Int32.ofNat len)] 7)) (T9.setTop (mkF m 46 #[.val (.ref b), .val (.int (Int32.ofNat (o + len))), .val (.ref d), .val (.int (Int32.ofNat (q + len))), .val (.int (Int32.ofNat len)), .val (.int (Int32.ofNat len)), z9] [.int (Int32.ofNat len)])) := g9.trans (by
    refine XS.iload X9.here hexec rfl (hb hbytes d3) rfl ?_
    refine XS.iload X9.here hexec rfl (hb hbytes d5) rfl ?_
    refine XS.icmpYes X9.here hexec rfl (pc0 := 7) rfl (hb hbytes d7) rfl (ii_ge_t (nlt32 (by omega) (Nat.le_refl _))) (by decide) rfl ?_
    refine XS.iload X9.here hexec rfl (hb hbytes d44) rfl ?_
    exact Steps.refl _)
  exact ⟨T9, some (.int (Int32.ofNat len)), _, _, _, X9, by simp, rfl, rfl, (fun h => by cases h), ⟨rfl, B9, p9.from hh0, f9⟩, fun fs hl => c11.trans (X9.ireturnOut hexec hret rfl (Or.inl rfl) (hb hbytes d46) hl)⟩
end Cmp5
namespace Cmp3
def yN : MethodName := ⟨"java/lang/StringUTF16", "compress", "([CII)[B"⟩
abbrev yB : ByteArray := jdk_52_method_16_code
theorem d0 : decode yB 0 = .ok (.iload_n 2, 1) := by decide +kernel
theorem d1 : decode yB 1 = .ok (.newarray .byte, 2) := by decide +kernel
theorem d3 : decode yB 3 = .ok (.astore_n 3, 1) := by decide +kernel
theorem d4 : decode yB 4 = .ok (.aload_n 0, 1) := by decide +kernel
theorem d5 : decode yB 5 = .ok (.iload_n 1, 1) := by decide +kernel
theorem d6 : decode yB 6 = .ok (.aload_n 3, 1) := by decide +kernel
theorem d7 : decode yB 7 = .ok (.iconst 0, 1) := by decide +kernel
theorem d8 : decode yB 8 = .ok (.iload_n 2, 1) := by decide +kernel
theorem d9 : decode yB 9 = .ok (.invokestatic 115, 3) := by decide +kernel
theorem d12 : decode yB 12 = .ok (.istore 4, 2) := by decide +kernel
theorem d14 : decode yB 14 = .ok (.iload 4, 2) := by decide +kernel
theorem d16 : decode yB 16 = .ok (.iload_n 2, 1) := by decide +kernel
theorem d17 : decode yB 17 = .ok (.if_icmp (.eq) 40, 3) := by decide +kernel
theorem d57 : decode yB 57 = .ok (.aload_n 3, 1) := by decide +kernel
theorem d58 : decode yB 58 = .ok (.areturn, 1) := by decide +kernel
def site : List Cond := [.arrayClass .byte, Cmp5.tab] ++ staticW U16 115 Cmp5.yN
def tab : Cond := tabOf yN yB 6 (some (.array .byte)) site
def P (b : Addr) (A : Cell) (o len : Nat) (args : Array Value) (s : State) : Prop := args = #[.ref b, .int (Int32.ofNat o), .int (Int32.ofNat len)] ∧ Ch b A s ∧ o + len ≤ A.slots.size ∧ len ≤ 536870912 ∧ ∀ i, i < len → ¬ 255 < cv A (o + i)
def E (b : Addr) (A : Cell) (o len : Nat) (r : Option Value) (s u : State) : Prop := NewArr .byte "[B" len (fun j => .int (lo8 (cv A (o + j)))) r s u ∧ u.heap.size = s.heap.size + 1
/-- no char of the range above 255: a new byte[] of their low bytes -/
theorem law (l : Launch) (b : Addr) (A : Cell) (o len : Nat) : Law l yN 3 3 1 18 yB 6 (some (.array .byte)) site (P b A o len) (E b A o len) [] 1 len := by
  refine Law.of_walk (plainFor_of_name (by decide +kernel)) (by decide +kernel) (by decide +kernel) (by decide) (fun _ _ h => by rw [h.1]; rfl) (fun _ U U' hal hh h => ⟨h.1, h.2.1.mv hal hh, h.2.2⟩) (fun r U U' V V' h1 hal h2 h => ⟨NewArr.mv r U U' V V' h1 hal h2 h.1, by rw [h1, h2]; exact h.2⟩) ?_
  intro p e s m args below meth c s₁ X0 hexec hbytes hml hret hlk hnm hown hh0 W hP
  obtain ⟨rfl, hA, l1, l2, hp⟩ := hP
  have a31 := hA.1.2.2.2
  have c1 : Steps p.tables e below (s₁.setTop (entryFrame m #[.ref b, .int (Int32.ofNat o), .int (Int32.ofNat len)] 6)) (s₁.setTop (mkF m 0 #[.val (.ref b), .val (.int (Int32.ofNat o)), .val (.int (Int32.ofNat len)), .unset, .unset, .unset] [])) := entry rfl
  have c2 : Steps p.tables e below (s₁.setTop (entryFrame m #[.ref b, .int (Int32.ofNat o), .int (Int32.ofNat len)] 6)) (s₁.setTop (mkF m 1 #[.val (.ref b), .val (.int (Int32.ofNat o)), .val (.int (Int32.ofNat len)), .unset, .unset, .unset] [.int (Int32.ofNat len)])) := c1.trans (by
    refine XS.iloadN X0.here hexec rfl (hb hbytes d0) rfl ?_
    exact Steps.refl _)
  obtain ⟨T3, B3, X3, ba3, bs3, bv3, bh3, bf3, st3⟩ := X0.anew hexec (atype := .byte) (wk W (.arrayClass .byte)) rfl (by show len * 1 ≤ _; omega) (by omega) (g := (mkF m 1 #[.val (.ref b), .val (.int (Int32.ofNat o)), .val (.int (Int32.ofNat len)), .unset, .unset, .unset] [.int (Int32.ofNat len)])) rfl (hb hbytes d1) (rest := []) rfl (Nat.le_refl _) (by show 0 + len ≤ len; omega)
  rw [hh0] at ba3 st3
  have kp3 : XT.Kept s T3 := (XT.Kept.of_eq hh0).push bh3
  have hA3 := hA.keep X3.warmed.alike (kp3 _ _ hA.1.1)
  have hne : b ≠ s.heap.size := hA.1.ne
  have c4 : Steps p.tables e below (s₁.setTop (entryFrame m #[.ref b, .int (Int32.ofNat o), .int (Int32.ofNat len)] 6)) (T3.setTop (mkF m 3 #[.val (.ref b), .val (.int (Int32.ofNat o)), .val (.int (Int32.ofNat len)), .unset, .unset, .unset] [.ref s.heap.size])) := c2.trans (st3 _ (Steps.refl _))
  have c5 : Steps p.tables e below (s₁.setTop (entryFrame m #[.ref b, .int (Int32.ofNat o), .int (Int32.ofNat len)] 6)) (T3.setTop (mkF m 9 #[.val (.ref b), .val (.int (Int32.ofNat o)), .val (.int (Int32.ofNat len)), .val (.ref s.heap.size), .unset, .unset] [.int (Int32.ofNat len), .int 0, .ref s.heap.size, .int (Int32.ofNat o), .ref b])) := c4.trans (by
    refine XS.astoreN X3.here hexec rfl (hb hbytes d3) rfl rfl rfl ?_
    refine XS.aloadN X3.here hexec rfl (hb hbytes d4) rfl rfl ?_
    refine XS.iloadN X3.here hexec rfl (hb hbytes d5) rfl ?_
    refine XS.aloadN X3.here hexec rfl (hb hbytes d6) rfl rfl ?_
    refine iconstV X3.here hexec rfl 0 (hb hbytes d7) (by decide) ?_
    refine XS.iloadN X3.here hexec rfl (hb hbytes d8) rfl ?_
    exact Steps.refl _)
  obtain ⟨v6, T6, X6, E6, g6⟩ := X3.callS hexec (Cmp5.law l b A s.heap.size B3 o 0 len) hown (wks W (staticW U16 115 Cmp5.yN)) (wk W Cmp5.tab) (W := 0) (Nat.le_of_ble_eq_true rfl) (Nat.le_of_ble_eq_true rfl) (Nat.le_refl _) (by show 0 + len + 0 ≤ len; omega) (g := (mkF m 9 #[.val (.ref b), .val (.int (Int32.ofNat o)), .val (.int (Int32.ofNat len)), .val (.ref s.heap.size), .unset, .unset] [.int (Int32.ofNat len), .int (Int32.ofNat 0), .ref s.heap.size, .int (Int32.ofNat o), .ref b])) rfl (by rw [hml]; rfl) c5 (argsL := [.ref b, .int (Int32.ofNat o), .ref s.heap.size, .int (Int32.ofNat 0), .int (Int32.ofNat len)]) (rest := []) rfl rfl (by show 2 * 0 + 0 ≤ _; decide) (hb hbytes d9) (⟨rfl, hA3, ba3, hne, l1, by rw [bs3]; simp, hp⟩)
  obtain ⟨rfl, B6, p6, f6⟩ := E6
  have c7 : Steps p.tables e below (s₁.setTop (entryFrame m #[.ref b, .int (Int32.ofNat o), .int (Int32.ofNat len)] 6)) (T6.setTop (mkF m 12 #[.val (.ref b), .val (.int (Int32.ofNat o)), .val (.int (Int32.ofNat len)), .val (.ref s.heap.size), .unset, .unset] [.int (Int32.ofNat len)])) := g6
  have c8 : Steps p.tables e below (s₁.setTop (entryFrame m #[.ref b, .int (Int32.ofNat o), .int (Int32.ofNat len)] 6)) (T6.setTop (mkF m 58 #[.val (.ref b), .val (.int (Int32.ofNat o)), .val (.int (Int32.ofNat len)), .val (.ref s.heap.size), .val (.int (Int32.ofNat len)), .unset] [.ref s.heap.size])) := c7.trans (by
    refine XS.istore X6.here hexec rfl (hb hbytes d12) rfl rfl ?_
    refine XS.iload X6.here hexec rfl (hb hbytes d14) rfl ?_
    refine XS.iloadN X6.here hexec rfl (hb hbytes d16) rfl ?_
    refine XS.icmpYes X6.here hexec rfl (pc0 := 17) rfl (hb hbytes d17) rfl (ii_eq_t rfl) (by decide) rfl ?_
    refine XS.aloadN X6.here hexec rfl (hb hbytes d57) rfl rfl ?_
    exact Steps.refl _)
  have X8 := X6.wide (L' := []) (cells' := 1) (slots' := len) (fun x hx hlt => by
    simp only [List.nil_append, copyLocs, List.mem_map, List.mem_range] at hx
    obtain ⟨i, -, rfl⟩ := hx
    exact absurd hlt (Nat.lt_irrefl _)) (Nat.le_refl _) (by omega)
  exact ⟨T6, some (.ref s.heap.size), _, _, _, X8, rfl, rfl, rfl, (fun h => by cases h), ⟨⟨rfl, B6, ba3.like (X3.warmed.alike.symm.trans X6.warmed.alike) p6.1 f6.1 f6.2.1 f6.2.2.1, f6.2.1.trans bv3, by rw [X6.warmed.alike.findClass, f6.1]; exact bf3, by rw [f6.2.2.1, bs3]; simp, fun j hj => by rw [f6.2.2.2 j, if_pos (by omega)]; rfl, kp3.put p6 (Nat.le_refl _)⟩, by rw [p6.2.2, bh3, hh0]; simp⟩, fun fs hl => c8.trans (X8.areturnOut hexec rfl hret rfl (hb hbytes d58) hl)⟩
end Cmp3
namespace CodL
def yN : MethodName := ⟨"java/lang/StringUTF16", "coderFromArrayLen", "([BI)B"⟩
abbrev yB : ByteArray := jdk_52_method_15_code
theorem d0 : decode yB 0 = .ok (.iload_n 1, 1) := by decide +kernel
theorem d1 : decode yB 1 = .ok (.aload_n 0, 1) := by decide +kernel
theorem d2 : decode yB 2 = .ok (.arraylength, 1) := by decide +kernel
theorem d3 : decode yB 3 = .ok (.isub, 1) := by decide +kernel
theorem d4 : decode yB 4 = .ok (.bipush 31, 2) := by decide +kernel
theorem d6 : decode yB 6 = .ok (.iushr, 1) := by decide +kernel
theorem d7 : decode yB 7 = .ok (.i2b, 1) := by decide +kernel
theorem d8 : decode yB 8 = .ok (.ireturn, 1) := by decide +kernel
def site : List Cond := []
def tab : Cond := tabOf yN yB 2 (some .byte) site
def P (d : Addr) (B : Cell) (args : Array Value) (s : State) : Prop := args = #[.ref d, .int (Int32.ofNat B.slots.size)] ∧ Arr .byte d B s
def E (r : Option Value) (s u : State) : Prop := XT.PureE (some (.int 0)) r s u
/-- an array as long as the number of chars: LATIN1 -/
theorem law (l : Launch) (d : Addr) (B : Cell) : Law l yN 2 2 0 0 yB 2 (some .byte) site (P d B) E [] 0 0 := by
  refine Law.of_walk (plainFor_of_name (by decide +kernel)) (by decide +kernel) (by decide +kernel) (by decide) (fun _ _ h => by rw [h.1]; rfl) (fun _ U U' hal hh h => ⟨h.1, h.2.mv hal hh⟩) (fun r U U' V V' h1 hal h2 h => XT.PureE.mv r U U' V V' h1 hal h2 h) ?_
  intro p e s m args below meth c s₁ X0 hexec hbytes hml hret hlk hnm hown hh0 W hP
  obtain ⟨rfl, hB⟩ := hP
  have hB0 := hB.mv X0.warmed.alike hh0
  have c1 : Steps p.tables e below (s₁.setTop (entryFrame m #[.ref d, .int (Int32.ofNat B.slots.size)] 2)) (s₁.setTop (mkF m 0 #[.val (.ref d), .val (.int (Int32.ofNat B.slots.size))] [])) := entry rfl
  have c2 : Steps p.tables e below (s₁.setTop (entryFrame m #[.ref d, .int (Int32.ofNat B.slots.size)] 2)) (s₁.setTop (mkF m 2 #[.val (.ref d), .val (.int (Int32.ofNat B.slots.size))] [.ref d, .int (Int32.ofNat B.slots.size)])) := c1.trans (by
    refine XS.iloadN X0.here hexec rfl (hb hbytes d0) rfl ?_
    refine XS.aloadN X0.here hexec rfl (hb hbytes d1) rfl rfl ?_
    exact Steps.refl _)
  have c3 : Steps p.tables e below (s₁.setTop (entryFrame m #[.ref d, .int (Int32.ofNat B.slots.size)] 2)) (s₁.setTop (mkF m 8 #[.val (.ref d), .val (.int (Int32.ofNat B.slots.size))] [.int (lo8 (ushr (Int32.ofNat B.slots.size - Int32.ofNat B.slots.size) 31))])) := c2.trans (by
    refine X0.alen hexec hB0 rfl rfl (hb hbytes d2) ?_
    refine XS.isub X0.here hexec rfl (hb hbytes d3) rfl ?_
    refine bipushV X0.here hexec rfl 31 (hb hbytes d4) (by decide) ?_
    refine iushr X0.here hexec rfl (hb hbytes d6) rfl ?_
    refine i2b X0.here hexec rfl (hb hbytes d7) rfl ?_
    exact Steps.refl _)
  have e0 : lo8 (ushr (Int32.ofNat B.slots.size - Int32.ofNat B.slots.size) 31) = 0 := by rw [Int32.sub_self]; decide
  rw [e0] at c3
  exact ⟨s₁, some (.int 0), _, _, _, X0, rfl, rfl, rfl, (fun h => by cases h), ⟨rfl, hh0⟩, fun fs hl => c3.trans (X0.ireturnOut hexec hret rfl (Or.inr (Or.inr (Or.inl rfl))) (hb hbytes d8) hl)⟩
end CodL
/-- the String at a is Latin-1 over a new byte[] (the heap's one new cell): the low bytes of the len chars of A from o on; every cell but a is kept -/
def Got (a : Addr) (D : Cell) (fV fC : Field) (A : Cell) (o len : Nat) (r : Option Value) (s u : State) : Prop := r = none ∧ ∃ D' V : Cell, Blank "java/lang/String" a D' u ∧ Same D D' [fV.slot, fC.slot] ∧ D'.slots[fV.slot]? = some (.ref s.heap.size) ∧ D'.slots[fC.slot]? = some (.int 0) ∧ Arr .byte s.heap.size V u ∧ V.vm = .none ∧ u.vm.findClass "[B" = some V.cls ∧ V.slots.size = len ∧ (∀ j, j < len → V.slots[j]? = some (.int (lo8 (cv A (o + j))))) ∧ (∀ (y : Addr) (c : Cell), y ≠ a → s.heap[y]? = some c → u.heap[y]? = some c) ∧ u.heap.size = s.heap.size + 1
theorem Got.mv {a : Addr} {D A : Cell} {fV fC : Field} {o len : Nat} : ∀ r (U U' V V' : State), U'.heap = U.heap → V.vm.Alike V'.vm → V'.heap = V.heap → Got a D fV fC A o len r U V → Got a D fV fC A o len r U' V' :=
  fun r U U' V V' h1 hal h2 ⟨e0, D', X, a1, a2, a3, a4, a5, a6, a7, a8, a9, a10, a11⟩ => ⟨e0, D', X, a1.mv hal h2, a2, by rw [h1]; exact a3, a4, by rw [h1]; exact a5.mv hal h2, a6, by rw [hal.findClass]; exact a7, a8, a9, by rw [h1, h2]; exact a10, by rw [h1, h2]; exact a11⟩
namespace New4
def yN : MethodName := ⟨"java/lang/String", "<init>", "([CIILjava/lang/Void;)V"⟩
abbrev yB : ByteArray := jdk_42_method_149_code
theorem d0 : decode yB 0 = .ok (.aload_n 0, 1) := by decide +kernel
theorem d1 : decode yB 1 = .ok (.invokespecial 1, 3) := by decide +kernel
theorem d4 : decode yB 4 = .ok (.iload_n 3, 1) := by decide +kernel
theorem d5 : decode yB 5 = .ok (.ifCond (.ne) 22, 3) := by decide +kernel
theorem d27 : decode yB 27 = .ok (.getstatic 38, 3) := by decide +kernel
theorem d30 : decode yB 30 = .ok (.ifCond (.eq) 28, 3) := by decide +kernel
theorem d33 : decode yB 33 = .ok (.aload_n 1, 1) := by decide +kernel
theorem d34 : decode yB 34 = .ok (.iload_n 2, 1) := by decide +kernel
theorem d35 : decode yB 35 = .ok (.iload_n 3, 1) := by decide +kernel
theorem d36 : decode yB 36 = .ok (.invokestatic 177, 3) := by decide +kernel
theorem d39 : decode yB 39 = .ok (.astore 5, 2) := by decide +kernel
theorem d41 : decode yB 41 = .ok (.aload_n 0, 1) := by decide +kernel
theorem d42 : decode yB 42 = .ok (.aload 5, 2) := by decide +kernel
theorem d44 : decode yB 44 = .ok (.iload_n 3, 1) := by decide +kernel
theorem d45 : decode yB 45 = .ok (.invokestatic 47, 3) := by decide +kernel
theorem d48 : decode yB 48 = .ok (.putfield 15, 3) := by decide +kernel
theorem d51 : decode yB 51 = .ok (.aload_n 0, 1) := by decide +kernel
theorem d52 : decode yB 52 = .ok (.aload 5, 2) := by decide +kernel
theorem d54 : decode yB 54 = .ok (.putfield 9, 3) := by decide +kernel
theorem d57 : decode yB 57 = .ok (.return_, 1) := by decide +kernel
def site : List Cond := [.fieldLink "java/lang/String" 38 "java/lang/String" "COMPACT_STRINGS" "Z", Cmp3.tab, CodL.tab, .laysFinal "java/lang/String" "java/lang/String" "value" "[B", .fieldLink "java/lang/String" 9 "java/lang/String" "value" "[B", .laysFinal "java/lang/String" "java/lang/String" "coder" "B", .fieldLink "java/lang/String" 15 "java/lang/String" "coder" "B"] ++ objW "java/lang/String" 1 ++ staticW "java/lang/String" 177 Cmp3.yN ++ staticW "java/lang/String" 47 CodL.yN
def tab : Cond := tabOf yN yB 6 none site
def P (a : Addr) (D : Cell) (fV fC : Field) (b : Addr) (A : Cell) (z : Int32) (o len : Nat) (args : Array Value) (s : State) : Prop := args = #[.ref a, .ref b, .int (Int32.ofNat o), .int (Int32.ofNat len), .null] ∧ Blank "java/lang/String" a D s ∧ Found "java/lang/String" "value" "[B" fV s ∧ Found "java/lang/String" "coder" "B" fC s ∧ Ch b A s ∧ StaticIs s "java/lang/String" "COMPACT_STRINGS" "Z" (.int z) ∧ ¬ z = 0 ∧ 0 < len ∧ o + len ≤ A.slots.size ∧ len ≤ 536870912 ∧ ∀ i, i < len → ¬ 255 < cv A (o + i)
def E (a : Addr) (D : Cell) (fV fC : Field) (A : Cell) (o len : Nat) (r : Option Value) (s u : State) : Prop := Got a D fV fC A o len r s u
/-- len > 0, no char of the range above 255: a Latin-1 String of their low bytes -/
theorem law (l : Launch) (a : Addr) (D : Cell) (fV fC : Field) (b : Addr) (A : Cell) (z : Int32) (o len : Nat) : Law l yN 5 4 2 35 yB 6 none site (P a D fV fC b A z o len) (E a D fV fC A o len) [⟨a, fC.slot⟩, ⟨a, fV.slot⟩] 1 len := by
  refine Law.of_walk (plainFor_of_name (by decide +kernel)) (by decide +kernel) (by decide +kernel) (by decide) (fun _ _ h => by rw [h.1]; rfl) (fun _ U U' hal hh h => ⟨h.1, h.2.1.mv hal hh, h.2.2.1.al hal, h.2.2.2.1.al hal, h.2.2.2.2.1.mv hal hh, h.2.2.2.2.2.1.there hal hh, h.2.2.2.2.2.2⟩) (fun r U U' V V' h1 hal h2 h => Got.mv r U U' V V' h1 hal h2 h) ?_
  intro p e s m args below meth c s₁ X0 hexec hbytes hml hret hlk hnm hown hh0 W hP
  obtain ⟨rfl, hB, f1, f2, hA, s1, hz, l0, l1, l2, hp⟩ := hP
  have a31 := hA.1.2.2.2
  have c1 : Steps p.tables e below (s₁.setTop (entryFrame m #[.ref a, .ref b, .int (Int32.ofNat o), .int (Int32.ofNat len), .null] 6)) (s₁.setTop (mkF m 0 #[.val (.ref a), .val (.ref b), .val (.int (Int32.ofNat o)), .val (.int (Int32.ofNat len)), .val .null, .unset] [])) := entry rfl
  have c2 : Steps p.tables e below (s₁.setTop (entryFrame m #[.ref a, .ref b, .int (Int32.ofNat o), .int (Int32.ofNat len), .null] 6)) (s₁.setTop (mkF m 1 #[.val (.ref a), .val (.ref b), .val (.int (Int32.ofNat o)), .val (.int (Int32.ofNat len)), .val .null, .unset] [.ref a])) := c1.trans (by
    refine XS.aloadN X0.here hexec rfl (hb hbytes d0) rfl rfl ?_
    exact Steps.refl _)
  obtain ⟨T3, X3, q3, st3⟩ := X0.oinit hexec hown (wks W (objW "java/lang/String" 1)) (g := (mkF m 1 #[.val (.ref a), .val (.ref b), .val (.int (Int32.ofNat o)), .val (.int (Int32.ofNat len)), .val .null, .unset] [.ref a])) rfl (by rw [hml]; rfl) (rest := []) rfl (hb hbytes d1) (W := 0) (by show 2 * 0 + 0 ≤ _; decide) (Nat.le_of_ble_eq_true rfl) (Nat.le_of_ble_eq_true rfl)
  have hh3 := q3.trans hh0
  have c4 : Steps p.tables e below (s₁.setTop (entryFrame m #[.ref a, .ref b, .int (Int32.ofNat o), .int (Int32.ofNat len), .null] 6)) (T3.setTop (mkF m 27 #[.val (.ref a), .val (.ref b), .val (.int (Int32.ofNat o)), .val (.int (Int32.ofNat len)), .val .null, .unset] [])) := (c2.trans (st3 _ (Steps.refl _))).trans (by
    refine XS.iloadN X3.here hexec rfl (hb hbytes d4) rfl ?_
    refine XS.ifYes X3.here hexec rfl (pc0 := 5) rfl (hb hbytes d5) rfl (i0_ne_t (nz32 (by omega) l0)) (by decide) rfl ?_
    exact Steps.refl _)
  obtain ⟨T5, X5, q5, st5⟩ := X3.sget hexec hown (wk W (.fieldLink "java/lang/String" 38 "java/lang/String" "COMPACT_STRINGS" "Z")) s1 (fun _ _ h => by rw [hh3]; exact h) (g := (mkF m 27 #[.val (.ref a), .val (.ref b), .val (.int (Int32.ofNat o)), .val (.int (Int32.ofNat len)), .val .null, .unset] [])) rfl (hb hbytes d27)
  have hh5 := q5.trans hh3
  have c6 : Steps p.tables e below (s₁.setTop (entryFrame m #[.ref a, .ref b, .int (Int32.ofNat o), .int (Int32.ofNat len), .null] 6)) (T5.setTop (mkF m 30 #[.val (.ref a), .val (.ref b), .val (.int (Int32.ofNat o)), .val (.int (Int32.ofNat len)), .val .null, .unset] [.int z])) := c4.trans (st5 _ (Steps.refl _))
  have c7 : Steps p.tables e below (s₁.setTop (entryFrame m #[.ref a, .ref b, .int (Int32.ofNat o), .int (Int32.ofNat len), .null] 6)) (T5.setTop (mkF m 36 #[.val (.ref a), .val (.ref b), .val (.int (Int32.ofNat o)), .val (.int (Int32.ofNat len)), .val .null, .unset] [.int (Int32.ofNat len), .int (Int32.ofNat o), .ref b])) := c6.trans (by
    refine XS.ifNo X5.here hexec rfl (hb hbytes d30) rfl (i0_eq_f hz) ?_
    refine XS.aloadN X5.here hexec rfl (hb hbytes d33) rfl rfl ?_
    refine XS.iloadN X5.here hexec rfl (hb hbytes d34) rfl ?_
    refine XS.iloadN X5.here hexec rfl (hb hbytes d35) rfl ?_
    exact Steps.refl _)
  obtain ⟨v8, T8, X8, E8, g8⟩ := X5.callS hexec (Cmp3.law l b A o len) hown (wks W (staticW "java/lang/String" 177 Cmp3.yN)) (wk W Cmp3.tab) (W := 0) (Nat.le_of_ble_eq_true rfl) (Nat.le_of_ble_eq_true rfl) (Nat.le_refl _) (by show 0 + len ≤ len; omega) (g := (mkF m 36 #[.val (.ref a), .val (.ref b), .val (.int (Int32.ofNat o)), .val (.int (Int32.ofNat len)), .val .null, .unset] [.int (Int32.ofNat len), .int (Int32.ofNat o), .ref b])) rfl (by rw [hml]; rfl) c7 (argsL := [.ref b, .int (Int32.ofNat o), .int (Int32.ofNat len)]) (rest := []) rfl rfl (by show 2 * 0 + 0 ≤ _; decide) (hb hbytes d36) (⟨rfl, hA.mv X5.warmed.alike hh5, l1, l2, hp⟩)
  obtain ⟨e8, z8⟩ := E8
  obtain ⟨rfl, N, n1, n2, n3, n4, n5, n6⟩ := NewArr.mv _ T5 s _ _ hh5.symm (Vm.Alike.refl _) rfl e8
  rw [hh5] at z8
  have hB1 := hB.keep X8.warmed.alike (n6 _ _ hB.1)
  have hne : s.heap.size ≠ a := (Nat.ne_of_lt (Array.getElem?_eq_some_iff.mp hB.1).1).symm
  have c9 : Steps p.tables e below (s₁.setTop (entryFrame m #[.ref a, .ref b, .int (Int32.ofNat o), .int (Int32.ofNat len), .null] 6)) (T8.setTop (mkF m 39 #[.val (.ref a), .val (.ref b), .val (.int (Int32.ofNat o)), .val (.int (Int32.ofNat len)), .val .null, .unset] [.ref s.heap.size])) := g8
  have c10 : Steps p.tables e below (s₁.setTop (entryFrame m #[.ref a, .ref b, .int (Int32.ofNat o), .int (Int32.ofNat len), .null] 6)) (T8.setTop (mkF m 45 #[.val (.ref a), .val (.ref b), .val (.int (Int32.ofNat o)), .val (.int (Int32.ofNat len)), .val .null, .val (.ref s.heap.size)] [.int (Int32.ofNat N.slots.size), .ref s.heap.size, .ref a])) := by
    have hc : Steps p.tables e below (s₁.setTop (entryFrame m #[.ref a, .ref b, .int (Int32.ofNat o), .int (Int32.ofNat len), .null] 6)) (T8.setTop (mkF m 45 #[.val (.ref a), .val (.ref b), .val (.int (Int32.ofNat o)), .val (.int (Int32.ofNat len)), .val .null, .val (.ref s.heap.size)] [.int (Int32.ofNat len), .ref s.heap.size, .ref a])) := c9.trans (by
      refine XS.astore X8.here hexec rfl (hb hbytes d39) rfl rfl rfl ?_
      refine XS.aloadN X8.here hexec rfl (hb hbytes d41) rfl rfl ?_
      refine XS.aload X8.here hexec rfl (hb hbytes d42) rfl rfl ?_
      refine XS.iloadN X8.here hexec rfl (hb hbytes d44) rfl ?_
      exact Steps.refl _)
    rw [n4]; exact hc
  obtain ⟨v11, T11, X11, E11, g11⟩ := X8.callS hexec (CodL.law l s.heap.size N) hown (wks W (staticW "java/lang/String" 47 CodL.yN)) (wk W CodL.tab) (W := 1) (Nat.le_of_ble_eq_true rfl) (Nat.le_of_ble_eq_true rfl) (Nat.le_refl _) (by show 0 + len + 0 ≤ len; omega) (g := (mkF m 45 #[.val (.ref a), .val (.ref b), .val (.int (Int32.ofNat o)), .val (.int (Int32.ofNat len)), .val .null, .val (.ref s.heap.size)] [.int (Int32.ofNat N.slots.size), .ref s.heap.size, .ref a])) rfl (by rw [hml]; rfl) c10 (argsL := [.ref s.heap.size, .int (Int32.ofNat N.slots.size)]) (rest := [.ref a]) rfl rfl (by show 2 * 0 + (1 + 0) ≤ _; decide) (hb hbytes d45) (⟨rfl, n1⟩)
  obtain ⟨rfl, q11⟩ := E11
  have hB11 := hB1.mv (X8.warmed.alike.symm.trans X11.warmed.alike) q11
  have c12 : Steps p.tables e below (s₁.setTop (entryFrame m #[.ref a, .ref b, .int (Int32.ofNat o), .int (Int32.ofNat len), .null] 6)) (T11.setTop (mkF m 48 #[.val (.ref a), .val (.ref b), .val (.int (Int32.ofNat o)), .val (.int (Int32.ofNat len)), .val .null, .val (.ref s.heap.size)] [.int 0, .ref a])) := g11
  obtain ⟨T13, X13, p13, bl13, sl13, st13⟩ := X11.finit hexec hown (wk W (.fieldLink "java/lang/String" 15 "java/lang/String" "coder" "B")) (Or.inr ⟨_, (wk W (.laysFinal "java/lang/String" "java/lang/String" "coder" "B"))⟩) (Or.inl ⟨rfl, hnm⟩) f2 (Or.inl rfl) hB11 (t := .byte) (by decide +kernel) rfl (g := (mkF m 48 #[.val (.ref a), .val (.ref b), .val (.int (Int32.ofNat o)), .val (.int (Int32.ofNat len)), .val .null, .val (.ref s.heap.size)] [.int 0, .ref a])) rfl (rest := []) rfl (hb hbytes d48)
  have c14 : Steps p.tables e below (s₁.setTop (entryFrame m #[.ref a, .ref b, .int (Int32.ofNat o), .int (Int32.ofNat len), .null] 6)) (T13.setTop (mkF m 54 #[.val (.ref a), .val (.ref b), .val (.int (Int32.ofNat o)), .val (.int (Int32.ofNat len)), .val .null, .val (.ref s.heap.size)] [.ref s.heap.size, .ref a])) := (c12.trans (st13 _ (Steps.refl _))).trans (by
    refine XS.aloadN X13.here hexec rfl (hb hbytes d51) rfl rfl ?_
    refine XS.aload X13.here hexec rfl (hb hbytes d52) rfl rfl ?_
    exact Steps.refl _)
  obtain ⟨T15, X15, p15, bl15, sl15, st15⟩ := X13.finit hexec hown (wk W (.fieldLink "java/lang/String" 9 "java/lang/String" "value" "[B")) (Or.inr ⟨_, (wk W (.laysFinal "java/lang/String" "java/lang/String" "value" "[B"))⟩) (Or.inl ⟨rfl, hnm⟩) f1 (Or.inl rfl) bl13 (t := (.array .byte)) (by decide +kernel) rfl (g := (mkF m 54 #[.val (.ref a), .val (.ref b), .val (.int (Int32.ofNat o)), .val (.int (Int32.ofNat len)), .val .null, .val (.ref s.heap.size)] [.ref s.heap.size, .ref a])) rfl (rest := []) rfl (hb hbytes d54)
  have c16 : Steps p.tables e below (s₁.setTop (entryFrame m #[.ref a, .ref b, .int (Int32.ofNat o), .int (Int32.ofNat len), .null] 6)) (T15.setTop (mkF m 57 #[.val (.ref a), .val (.ref b), .val (.int (Int32.ofNat o)), .val (.int (Int32.ofNat len)), .val .null, .val (.ref s.heap.size)] [])) := c14.trans (st15 _ (Steps.refl _))
  have ap := apart (Or.inr ⟨_, (wk W (.laysFinal "java/lang/String" "java/lang/String" "value" "[B"))⟩) (Or.inr ⟨_, (wk W (.laysFinal "java/lang/String" "java/lang/String" "coder" "B"))⟩) f1 f2 (t₁ := .array .byte) (t₂ := .byte) (by decide +kernel) (by decide +kernel) (by decide)
  have al := X8.warmed.alike.symm.trans X15.warmed.alike
  have n7 : T11.heap[s.heap.size]? = some N := by rw [q11]; exact n1.1
  exact ⟨T15, none, _, _, _, X15, by simp, rfl, by omega, (fun _ => rfl), ⟨rfl, _, N, bl15, ((Same.refl D _).set _ (by simp)).set _ (by simp), sl15, (Cell.slots_setSlot_ne _ ap).trans sl13, n1.keep al (p15.other hne (p13.other hne n7)), n2, by rw [al.findClass]; exact n3, n4, n5, fun y c h1 h2 => p15.other h1 (p13.other h1 (by rw [q11]; exact n6 y c h2)), by rw [p15.2.2, p13.2.2, q11]; exact z8⟩, fun fs hl => c16.trans (X15.returnOut hexec hret (hb hbytes d57) hl)⟩
end New4
namespace New1
def yN : MethodName := ⟨"java/lang/String", "<init>", "([C)V"⟩
abbrev yB : ByteArray := jdk_42_method_3_code
theorem d0 : decode yB 0 = .ok (.aload_n 0, 1) := by decide +kernel
theorem d1 : decode yB 1 = .ok (.aload_n 1, 1) := by decide +kernel
theorem d2 : decode yB 2 = .ok (.iconst 0, 1) := by decide +kernel
theorem d3 : decode yB 3 = .ok (.aload_n 1, 1) := by decide +kernel
theorem d4 : decode yB 4 = .ok (.arraylength, 1) := by decide +kernel
theorem d5 : decode yB 5 = .ok (.aconst_null, 1) := by decide +kernel
theorem d6 : decode yB 6 = .ok (.invokespecial 27, 3) := by decide +kernel
theorem d9 : decode yB 9 = .ok (.return_, 1) := by decide +kernel
def site : List Cond := [New4.tab] ++ initW "java/lang/String" 27 New4.yN
def tab : Cond := tabOf yN yB 2 none site
def P (a : Addr) (D : Cell) (fV fC : Field) (b : Addr) (A : Cell) (z : Int32) (args : Array Value) (s : State) : Prop := args = #[.ref a, .ref b] ∧ Blank "java/lang/String" a D s ∧ Found "java/lang/String" "value" "[B" fV s ∧ Found "java/lang/String" "coder" "B" fC s ∧ Ch b A s ∧ StaticIs s "java/lang/String" "COMPACT_STRINGS" "Z" (.int z) ∧ ¬ z = 0 ∧ 0 < A.slots.size ∧ A.slots.size ≤ 536870912 ∧ ∀ i, i < A.slots.size → ¬ 255 < cv A i
def E (a : Addr) (D : Cell) (fV fC : Field) (A : Cell) (r : Option Value) (s u : State) : Prop := Got a D fV fC A 0 A.slots.size r s u
/-- new String(chars), not empty, no char above 255: a Latin-1 String of their low bytes -/
theorem law (l : Launch) (a : Addr) (D : Cell) (fV fC : Field) (b : Addr) (A : Cell) (z : Int32) : Law l yN 2 1 3 52 yB 2 none site (P a D fV fC b A z) (E a D fV fC A) [⟨a, fC.slot⟩, ⟨a, fV.slot⟩] 1 A.slots.size := by
  refine Law.of_walk (plainFor_of_name (by decide +kernel)) (by decide +kernel) (by decide +kernel) (by decide) (fun _ _ h => by rw [h.1]; rfl) (fun _ U U' hal hh h => ⟨h.1, h.2.1.mv hal hh, h.2.2.1.al hal, h.2.2.2.1.al hal, h.2.2.2.2.1.mv hal hh, h.2.2.2.2.2.1.there hal hh, h.2.2.2.2.2.2⟩) (fun r U U' V V' h1 hal h2 h => Got.mv r U U' V V' h1 hal h2 h) ?_
  intro p e s m args below meth c s₁ X0 hexec hbytes hml hret hlk hnm hown hh0 W hP
  obtain ⟨rfl, hB, f1, f2, hA, s1, hz, l0, l2, hp⟩ := hP
  have c1 : Steps p.tables e below (s₁.setTop (entryFrame m #[.ref a, .ref b] 2)) (s₁.setTop (mkF m 0 #[.val (.ref a), .val (.ref b)] [])) := entry rfl
  have c2 : Steps p.tables e below (s₁.setTop (entryFrame m #[.ref a, .ref b] 2)) (s₁.setTop (mkF m 6 #[.val (.ref a), .val (.ref b)] [.null, .int (Int32.ofNat A.slots.size), .int 0, .ref b, .ref a])) := c1.trans (by
    refine XS.aloadN X0.here hexec rfl (hb hbytes d0) rfl rfl ?_
    refine XS.aloadN X0.here hexec rfl (hb hbytes d1) rfl rfl ?_
    refine iconstV X0.here hexec rfl 0 (hb hbytes d2) (by decide) ?_
    refine XS.aloadN X0.here hexec rfl (hb hbytes d3) rfl rfl ?_
    refine X0.alen hexec (hA.1.mv X0.warmed.alike hh0) rfl rfl (hb hbytes d4) ?_
    refine XS.aconstNull X0.here hexec rfl (hb hbytes d5) ?_
    exact Steps.refl _)
  obtain ⟨v3, T3, X3, E3, g3⟩ := X0.callN hexec (New4.law l a D fV fC b A z 0 A.slots.size) rfl hown (wks W (initW "java/lang/String" 27 New4.yN)) (W New4.tab (by simp only [site, List.mem_cons, List.mem_append, true_or, or_true])) (W := 0) (Nat.le_of_ble_eq_true rfl) (Nat.le_of_ble_eq_true rfl) (Nat.le_refl _) (by show 0 + A.slots.size ≤ A.slots.size; omega) (g := (mkF m 6 #[.val (.ref a), .val (.ref b)] [.null, .int (Int32.ofNat A.slots.size), .int (Int32.ofNat 0), .ref b, .ref a])) rfl (by rw [hml]; rfl) c2 (argsL := [.ref b, .int (Int32.ofNat 0), .int (Int32.ofNat A.slots.size), .null]) (rest := []) rfl rfl (by show 2 * 0 + 0 ≤ _; decide) (hb hbytes d6) (⟨rfl, hB.mv X0.warmed.alike hh0, f1.al X0.warmed.alike, f2.al X0.warmed.alike, hA.mv X0.warmed.alike hh0, s1.there X0.warmed.alike hh0, hz, l0, by omega, l2, fun i hi => by rw [Nat.zero_add]; exact hp i hi⟩)
  have e0 := Got.mv _ s₁ s _ _ hh0.symm (Vm.Alike.refl _) rfl E3
  obtain rfl := e0.1
  have c4 : Steps p.tables e below (s₁.setTop (entryFrame m #[.ref a, .ref b] 2)) (T3.setTop (mkF m 9 #[.val (.ref a), .val (.ref b)] [])) := g3
  exact ⟨T3, none, _, _, _, X3, by simp, rfl, by omega, (fun _ => rfl), e0, fun fs hl => c4.trans (X3.returnOut hexec hret (hb hbytes d9) hl)⟩
theorem pays {l : Launch} {R : Room} {p : Program} {e : Env} {below : List Frame} {s : State} {sargs : Array Value} {len W : Nat} (a : Addr) (D : Cell) (fV fC : Field) (b : Addr) (A : Cell) (z : Int32) (htab : tab.before sargs s = true) (hfr : 4 ≤ R.frames) (hlo : W + 65 ≤ R.locals) :
    Back l R p e below s sargs yN len W (fun A₁ a₁ => A₁.cells + 1 ≤ R.cells ∧ A₁.slots + A.slots.size ≤ R.slots ∧ P a D fV fC b A z a₁ A₁.U) (fun A₁ _ v₁ B₁ => E a D fV fC A v₁ A₁.U B₁.U ∧ B₁.locs = A₁.locs ++ [⟨a, fC.slot⟩, ⟨a, fV.slot⟩] ∧ B₁.cells = A₁.cells + 1 ∧ B₁.slots = A₁.slots + A.slots.size) :=
  (law l a D fV fC b A z).pays htab hfr (by omega)
end New1
/-- the byte, read back as charAt reads it, is the char -/
theorem lo8_mask {x : Int32} (h0 : ¬ x < 0) (h1 : ¬ 255 < x) : lo8 x &&& 255 = x := by
  have t : ∀ k : Fin 256, lo8 (Int32.ofNat k.val) &&& 255 = Int32.ofNat k.val := by decide +kernel
  rw [Int32.lt_iff_toInt_lt] at h0 h1
  have e0 : (0 : Int32).toInt = 0 := rfl
  have e1 : (255 : Int32).toInt = 255 := rfl
  obtain ⟨k, hk⟩ : ∃ k : Nat, x.toInt = k := ⟨x.toInt.toNat, by omega⟩
  have hx : x = Int32.ofNat k := Int32.toInt_inj.mp (by rw [hk, Int32.toInt_ofNat_small (by omega)])
  rw [hx]
  exact t ⟨k, by omega⟩
end StrChars
namespace StrChars.Road
open Jvm Sem ClassFile Op Lib Jvm.Stand Jvm.Free Jvm.Free.XT
open Jvm.Lib.Cold (StaticIs)
abbrev ST : String := "java/lang/String"
/-- every table word that New1's law asks, flat -/
abbrev words : List Jvm.Cond := [.code New1.yN New1.yB 2 none, .initialized ST, .methodLink ST 27 New4.yN, .instanceMethod New4.yN,
  .code New4.yN New4.yB 6 none, .fieldLink ST 38 ST "COMPACT_STRINGS" "Z", .laysFinal ST ST "value" "[B", .fieldLink ST 9 ST "value" "[B", .laysFinal ST ST "coder" "B", .fieldLink ST 15 ST "coder" "B",
  .methodLink ST 1 Lib.objectInit, .instanceMethod Lib.objectInit, .code Lib.objectInit ⟨#[0xb1]⟩ 1 none, .methodLink ST 177 Cmp3.yN, .static Cmp3.yN, .methodLink ST 47 CodL.yN, .static CodL.yN,
  .code Cmp3.yN Cmp3.yB 6 (some (.array .byte)), .initialized U16, .arrayClass .byte, .methodLink U16 115 Cmp5.yN, .static Cmp5.yN, .code Cmp5.yN Cmp5.yB 7 (some .int), .code CodL.yN CodL.yB 2 (some .byte)]
theorem tab_of {a : Array Value} {s : State} (h : ∀ w ∈ words, w.before a s = true) : New1.tab.before a s = true := by
  have h5 : Cmp5.tab.before a s = true := unparts (wk h (.code Cmp5.yN Cmp5.yB 7 (some .int))) (wks h (.initialized Cmp5.yN.cls :: Cmp5.site))
  have hc : CodL.tab.before a s = true := unparts (wk h (.code CodL.yN CodL.yB 2 (some .byte))) (wks h (.initialized CodL.yN.cls :: CodL.site))
  have q5 : ∀ w ∈ Cmp5.tab :: words, w.before a s = true := fun w hw => (List.mem_cons.mp hw).elim (fun e => e ▸ h5) (h w)
  have h3 : Cmp3.tab.before a s = true := unparts (wk q5 (.code Cmp3.yN Cmp3.yB 6 (some (.array .byte)))) (wks q5 (.initialized Cmp3.yN.cls :: Cmp3.site))
  have q3 : ∀ w ∈ Cmp3.tab :: CodL.tab :: words, w.before a s = true := fun w hw => (List.mem_cons.mp hw).elim (fun e => e ▸ h3) fun hw => (List.mem_cons.mp hw).elim (fun e => e ▸ hc) (h w)
  have h4 : New4.tab.before a s = true := unparts (wk q3 (.code New4.yN New4.yB 6 none)) (wks q3 (.initialized New4.yN.cls :: New4.site))
  have q4 : ∀ w ∈ New4.tab :: words, w.before a s = true := fun w hw => (List.mem_cons.mp hw).elim (fun e => e ▸ h4) (h w)
  exact unparts (wk q4 (.code New1.yN New1.yB 2 none)) (wks q4 (.initialized New1.yN.cls :: New1.site))
/-- the words ride from the start Z to the walk's own state -/
theorem moved {Z s : State} {a0 args : Array Value} (hZ : Z.Warmed39 s.vm) (hw : ∀ d ∈ words, d.before a0 Z = true) : ∀ d ∈ words, d.before args s = true := fun d hd => by
  have q := hw d hd
  have t : ∀ d ∈ words, d = .arrayClass .byte ∨ (d.onTables && d.keepsFace) = true := by decide +kernel
  rcases t d hd with rfl | t
  · exact RoadKit.mvA hZ q
  · exact RoadKit.mv hZ q t
/-- WHAT COMES BACK, over the tables of the start Z: h the heap at the call, h' behind it -/
def Q (Z : State) (x : Addr) (A : Cell) (h : Heap) (v : Option Value) (h' : Heap) (L : List Loc) : Prop := v = none ∧ (∀ y ∈ L, y.base = x) ∧ RoadKit.Keep h h' [x] ∧ h'.size = h.size + 1 ∧ RoadKit.Exa Z h' x ST ∧ RoadKit.Fld Z h' x ST "value" "[B" (.ref h.size) ∧ RoadKit.Fld Z h' x ST "coder" "B" (.int 0) ∧
  (∃ V : Cell, RoadKit.Arr Z h' h.size V .byte ∧ V.vm = .none ∧ Z.vm.findClass "[B" = some V.cls ∧ V.slots.size = A.slots.size ∧ ∀ j, j < A.slots.size → V.slots[j]? = some (.int (lo8 (cv A j)))) ∧
  ∀ (O n d : String) (w : Value), RoadKit.Fld Z h x O n d w → RoadKit.slotOf Z O n d ≠ RoadKit.slotOf Z ST "value" "[B" → RoadKit.slotOf Z O n d ≠ RoadKit.slotOf Z ST "coder" "B" → RoadKit.Fld Z h' x O n d w
/-- **new String(chars) AT A CALL, IN THE ROAD'S FORM**: for specialBack behind newO: x the fresh String, b the char[] with the cell A -/
theorem back {p : Program} {l : Launch} {e : Env} {R : Room} {s : State} {args : Array Value} {below : List Frame} {len W : Nat} {Z : State} {a0 : Array Value} {h : Heap} (hZ : Z.Warmed39 s.vm) (hw : ∀ d ∈ words, d.before a0 Z = true) {kI : Nat} (wi : (Jvm.Cond.instantiable ST kI).before a0 Z = true)
    {x b : Addr} {A : Cell} {z : Int32} {v0 c0 : Value} (E : RoadKit.Exa Z h x ST) (V : RoadKit.Fld Z h x ST "value" "[B" v0) (C : RoadKit.Fld Z h x ST "coder" "B" c0) (K : RoadKit.Arr Z h b A .char) (hty : Typed .char A) (S : RoadKit.Sta Z h ST "COMPACT_STRINGS" "Z" (.int z)) (hz : ¬ z = 0)
    (l0 : 0 < A.slots.size) (l2 : A.slots.size ≤ 536870912) (hp : ∀ i, i < A.slots.size → ¬ 255 < cv A i) (hfr : 4 ≤ R.frames) (hlo : W + 65 ≤ R.locals) :
    Back l R p e below s args New1.yN len W (fun P a => a = #[.ref x, .ref b] ∧ P.U.heap = h ∧ P.cells + 1 ≤ R.cells ∧ P.slots + A.slots.size ≤ R.slots)
      (fun P _ v B => ∃ L, Q Z x A h v B.U.heap L ∧ B.locs = P.locs ++ L ∧ B.cells = P.cells + 1 ∧ B.slots = P.slots + A.slots.size) := by
  intro m meth c P g ig mk a X hg hsize hdg hW hn hp'
  obtain ⟨rfl, rfl, r1, r2⟩ := hp'
  have al : Z.vm.Alike P.U.vm := hZ.alike.trans X.warmed.alike
  obtain ⟨D, cfV, kV, iV, fV, hD, gV, stV, knV, obV, asV, slV⟩ := id V
  obtain ⟨D', cfC, kC, iC, fC, hD', gC, stC, -, -, asC, slC⟩ := id C
  cases hD.symm.trans hD'
  obtain ⟨D2, kD, e1, e2, e3, e4, e5⟩ := id E
  cases hD.symm.trans e1
  obtain ⟨c2, k2, i1, i2, i3, -⟩ := Cond.instantiable_spec wi
  cases e2.symm.trans i1
  cases e3.symm.trans i2
  obtain ⟨kU, u1, u2⟩ := al.2.2 _ _ e3
  have hB : Blank ST x D P.U := ⟨hD, ⟨knV, fun q hq => by rw [hq] at obV; cases obV⟩, by rw [al.findClass]; exact e2, kU, u1, by rw [u2]; exact i3, by rw [u2]; exact e5 i3⟩
  have F1 : Found ST "value" "[B" fV P.U := ⟨SBG.found_only al ⟨cfV, kV, iV, gV⟩, stV⟩
  have F2 : Found ST "coder" "B" fC P.U := ⟨SBG.found_only al ⟨cfC, kC, iC, gC⟩, stC⟩
  have hA : Ch b A P.U := ⟨⟨K.1, State.isArrayOf_alike al K.2.1, K.2.2, by omega⟩, hty⟩
  have hS : StaticIs P.U ST "COMPACT_STRINGS" "Z" (.int z) := by
    obtain ⟨cfS, iS, kS, fS, st, cS, t1, t2, t3, t4, t5, t6, t7⟩ := S
    exact StaticIs.there (s := { Z with heap := P.U.heap }) ⟨cfS, iS, kS, fS, st, cS, t1, t2, t3, t4, t5, (fun q => by rw [q] at t6; cases t6), t7⟩ al rfl
  obtain ⟨v, B, X', ⟨⟨hv, E', V', q1, q2, q3, q4, q5, q6, q7, q8, q9, q10, q11⟩, hl, hc, hs⟩, st⟩ := New1.pays x D fV fC b A z (tab_of (moved hZ hw)) hfr hlo m meth c P g ig mk _ X hg hsize hdg hW hn ⟨r1, r2, rfl, hB, F1, F2, hA, hS, hz, l0, l2, hp⟩
  have al' : Z.vm.Alike B.U.vm := hZ.alike.trans X'.warmed.alike
  have hsz : E'.slots.size = D.slots.size := by
    obtain ⟨-, -, -, kB, w1, w2, w3⟩ := q1
    obtain ⟨kB', y1, y2⟩ := al'.2.2 _ _ e3
    rw [q2.2.1] at w1
    cases w1.symm.trans y1
    rw [w3, e5 i3, y2]
  refine ⟨v, B, X', ⟨_, ⟨hv, ?_, ⟨by omega, fun y cy hy hn' => q10 y cy (by simpa using hn') hy, fun y cy hy => ?_⟩, q11, ⟨E', _, q1.1, by rw [q2.2.1]; exact e2, by rw [q2.2.1]; exact e3, by rw [q2.1]; exact obV, fun _ => by rw [hsz]; exact e5 i3⟩,
    ⟨E', cfV, kV, iV, fV, q1.1, gV, stV, by rw [q2.1]; exact knV, by rw [q2.1]; exact obV, by rw [q2.2.1]; exact asV, q3⟩, ⟨E', cfC, kC, iC, fC, q1.1, gC, stC, by rw [q2.1]; exact knV, by rw [q2.1]; exact obV, by rw [q2.2.1]; exact asC, q4⟩,
    ⟨V', ⟨q5.1, State.isArrayOf_alike al'.symm q5.2.1, q5.2.2.1⟩, q6, by rw [← al'.findClass]; exact q7, q8, fun j hj => by have := q9 j hj; rwa [Nat.zero_add] at this⟩, fun O n d w F n1 n2 => ?_⟩, hl, hc, hs⟩, st⟩
  · intro y hy
    simp only [List.mem_cons, List.not_mem_nil, or_false] at hy
    rcases hy with rfl | rfl <;> rfl
  · by_cases q : y = x
    · subst q
      cases hD.symm.trans hy
      exact ⟨E', q1.1, q2.2.1, q2.1, hsz⟩
    · exact ⟨cy, q10 y cy q hy, rfl, rfl, rfl⟩
  · obtain ⟨D3, cf, k, i, f, g1, g2, g3, g4, g5, g6, g7⟩ := F
    cases hD.symm.trans g1
    simp only [RoadKit.slotOf, g2, gV, gC, Option.map_some, Option.getD_some] at n1 n2
    exact ⟨E', cf, k, i, f, q1.1, g2, g3, by rw [q2.1]; exact g4, by rw [q2.1]; exact g5, by rw [q2.2.1]; exact g6, by rw [q2.2.2 f.slot (by simp [n1, n2])]; exact g7⟩
end StrChars.Road
namespace StrChars.Road
open Jvm Sem ClassFile Op Lib Jvm.Stand Jvm.Free Jvm.Free.XT
/-- WHAT COMES BACK, the byte[] as a list of values -/
def QA (Z : State) (x : Addr) (zn : Int32) (cs : List Int32) (h : Heap) (v : Option Value) (h' : Heap) (L : List Loc) : Prop := v = none ∧ (∀ y ∈ L, y.base = x) ∧ RoadKit.Keep h h' [x] ∧ h'.size = h.size + 1 ∧ RoadKit.Exa Z h' x ST ∧ RoadKit.Fld Z h' x ST "value" "[B" (.ref h.size) ∧ RoadKit.Fld Z h' x ST "coder" "B" (.int 0) ∧
  (∃ kb, Z.vm.findClass "[B" = some kb ∧ RoadKit.Arv Z h' h.size kb .byte zn (cs.map fun c => .int (lo8 c)) (.int 0)) ∧
  ∀ (O n d : String) (w : Value), RoadKit.Fld Z h x O n d w → RoadKit.slotOf Z O n d ≠ RoadKit.slotOf Z ST "value" "[B" → RoadKit.slotOf Z O n d ≠ RoadKit.slotOf Z ST "coder" "B" → RoadKit.Fld Z h' x O n d w
/-- **new String(chars) AT A CALL, THE ARRAYS AS LISTS**: the char[] at b holds cs, not empty, no char above 255 -/
theorem backArv {p : Program} {l : Launch} {e : Env} {R : Room} {s : State} {args : Array Value} {below : List Frame} {len W : Nat} {Z : State} {a0 : Array Value} {h : Heap} (hZ : Z.Warmed39 s.vm) (hw : ∀ d ∈ words, d.before a0 Z = true) {kI : Nat} (wi : (Jvm.Cond.instantiable ST kI).before a0 Z = true)
    {x b : Addr} {k : ClassId} {zn z : Int32} {cs : List Int32} {dv v0 c0 : Value} (E : RoadKit.Exa Z h x ST) (V : RoadKit.Fld Z h x ST "value" "[B" v0) (C : RoadKit.Fld Z h x ST "coder" "B" c0) (K : RoadKit.Arv Z h b k .char zn (cs.map Value.int) dv) (S : RoadKit.Sta Z h ST "COMPACT_STRINGS" "Z" (.int z)) (hz : ¬ z = 0)
    (hlen : zn.toNatClampNeg = cs.length) (h0 : 0 < cs.length) (hbig : cs.length ≤ 536870912) (hall : ∀ c ∈ cs, ¬ 255 < c) (hfr : 4 ≤ R.frames) (hlo : W + 65 ≤ R.locals) :
    Back l R p e below s args New1.yN len W (fun P a => a = #[.ref x, .ref b] ∧ P.U.heap = h ∧ P.cells + 1 ≤ R.cells ∧ P.slots + cs.length ≤ R.slots)
      (fun P _ v B => ∃ L, QA Z x zn cs h v B.U.heap L ∧ B.locs = P.locs ++ L ∧ B.cells = P.cells + 1 ∧ B.slots = P.slots + cs.length) := by
  obtain ⟨A, K1, K2, K3, K4, K5, K6⟩ := K
  have e : A.slots.size = cs.length := K3.trans hlen
  have hat : ∀ (i : Nat) (hi : i < cs.length), A.slots[i]? = some (.int cs[i]) := fun i hi => by rw [K5 i (by omega)]; simp [List.getD_eq_getElem?_getD, hi]
  have hcv : ∀ (i : Nat) (hi : i < cs.length), cv A i = cs[i] := fun i hi => by unfold cv; rw [hat i hi]
  have hty : Typed .char A := fun i v hv => by
    have hi : i < A.slots.size := (Array.getElem?_eq_some_iff.mp hv).1
    have q := K5 i hi
    rw [hv] at q
    rw [Option.some.inj q]
    exact K6 i hi
  refine Back.mono (back hZ hw wi E V C K1 hty S hz (by omega) (by omega) (fun i hi => by rw [hcv i (by omega)]; exact hall _ (List.getElem_mem _)) hfr hlo) (fun P a hp => ⟨hp.1, hp.2.1, hp.2.2.1, by rw [e]; exact hp.2.2.2⟩) (fun P a v B hp hq => ?_)
  obtain ⟨L, ⟨q1, q2, q3, q4, q5, q6, q7, ⟨V', v1, v2, v3, v4, v5⟩, q9⟩, hl, hc, hs⟩ := hq
  refine ⟨L, ⟨q1, q2, q3, q4, q5, q6, q7, ⟨V'.cls, v3, V', v1, rfl, by rw [v4, e, hlen], K4, fun i hi => ?_, fun i hi => ?_⟩, q9⟩, hl, hc, by rw [hs, e]⟩
  · have hi' : i < cs.length := by omega
    rw [v5 i (by omega), hcv i hi']; simp [List.getD_eq_getElem?_getD, hi']
  · have hi' : i < cs.length := by omega
    simp only [List.getD_eq_getElem?_getD, List.getElem?_map, List.getElem?_eq_getElem hi', Option.map_some, Option.getD_some]
    exact fits_lo8 _
end StrChars.Road
namespace StrChars
open Jvm Sem ClassFile Op Lib Jvm.Stand Jvm.Free.XT Jvm.Free.ALB Jvm.Free.JM Jvm.Free
open Jvm.Lib.Cold (StaticIs)
def hi8 (x : Int32) : Int32 := lo8 (x >>> ((8 : Int32) &&& 31))
/-- what StringUTF16.getChar makes of two bytes -/
def pairCh (u v : Int32) : Int32 := (((u &&& 255) <<< ((0 : Int32) &&& 31)) ||| ((v &&& 255) <<< ((8 : Int32) &&& 31))).toUInt32.toUInt16.toUInt32.toInt32
theorem shr0 (c : Int32) : c >>> ((0 : Int32) &&& 31) = c := by
  have e : ((0 : Int32) &&& 31) = 0 := by decide
  rw [e]
  apply Int32.toBitVec_inj.mp
  rw [Int32.toBitVec_shiftRight]
  have e1 : ((0 : Int32).toBitVec.smod 32) = 0#32 := by decide
  rw [e1, BitVec.sshiftRight_eq']
  exact BitVec.sshiftRight_zero
theorem lo8_and (x : Int32) : (lo8 x &&& 255).toBitVec.toNat = x.toBitVec.toNat % 256 := by
  have h : (lo8 x).toBitVec = (x.toBitVec.signExtend 8).signExtend 32 := by rw [lo8, Int8.toBitVec_toInt32, Int32.toBitVec_toInt8]
  rw [Int32.toBitVec_and, BitVec.toNat_and, h]
  have e : ((x.toBitVec.signExtend 8).signExtend 32).toNat % 256 = x.toBitVec.toNat % 256 := by
    rw [BitVec.toNat_signExtend]
    have hlt := x.toBitVec.isLt
    simp only [BitVec.toNat_setWidth, BitVec.toNat_signExtend]
    split <;> split <;> omega
  rw [← e]
  exact Nat.and_two_pow_sub_one_eq_mod _ 8
theorem pair_says {c : Int32} (h0 : ¬ c < 0) (h1 : ¬ 65535 < c) : pairCh (lo8 c) (hi8 c) = c := by
  rw [Int32.lt_iff_toInt_lt] at h0 h1
  have e0 : (0 : Int32).toInt = 0 := rfl
  have e1 : (65535 : Int32).toInt = 65535 := rfl
  have hc : c.toInt = c.toBitVec.toNat := by
    have := c.toBitVec.isLt
    have e : c.toInt = c.toBitVec.toInt := rfl
    rw [e] at h0 h1
    rw [e]
    rw [BitVec.toInt_eq_toNat_cond] at h0 h1 ⊢
    split at h0 <;> split <;> omega
  have hn : c.toBitVec.toNat < 65536 := by omega
  have a1 := lo8_and c
  have a2 : (hi8 c &&& 255).toBitVec.toNat = c.toBitVec.toNat / 256 := by
    rw [hi8, lo8_and]
    have e : ((8 : Int32) &&& 31) = 8 := by decide
    rw [e, Int32.toBitVec_shiftRight]
    have e2 : ((8 : Int32).toBitVec.smod 32) = 8#32 := by decide
    rw [e2, BitVec.sshiftRight_eq', BitVec.toNat_sshiftRight_of_msb_false (by rw [BitVec.msb_eq_false_iff_two_mul_lt]; omega)]
    show c.toBitVec.toNat >>> 8 % 256 = _
    rw [Nat.shiftRight_eq_div_pow]
    omega
  unfold pairCh
  apply Int32.toBitVec_inj.mp
  apply BitVec.eq_of_toNat_eq
  have f0 : ((0 : Int32) &&& 31) = 0 := by decide
  have f8 : ((8 : Int32) &&& 31) = 8 := by decide
  rw [f0, f8]
  have g : (((lo8 c &&& 255) <<< (0 : Int32)) ||| ((hi8 c &&& 255) <<< (8 : Int32))).toBitVec.toNat = c.toBitVec.toNat := by
    rw [Int32.toBitVec_or, Int32.toBitVec_shiftLeft, Int32.toBitVec_shiftLeft]
    have s0 : ((0 : Int32).toBitVec.smod 32) = 0#32 := by decide
    have s8 : ((8 : Int32).toBitVec.smod 32) = 8#32 := by decide
    rw [s0, s8, BitVec.toNat_or]
    simp only [BitVec.shiftLeft_eq', BitVec.toNat_shiftLeft, a1, a2]
    show (c.toBitVec.toNat % 256) <<< 0 % 2 ^ 32 ||| (c.toBitVec.toNat / 256) <<< 8 % 2 ^ 32 = _
    rw [Nat.shiftLeft_zero, Nat.mod_eq_of_lt (show c.toBitVec.toNat % 256 < 2 ^ 32 by omega), Nat.mod_eq_of_lt (show (c.toBitVec.toNat / 256) <<< 8 < 2 ^ 32 by rw [Nat.shiftLeft_eq]; omega), Nat.or_comm, ← Nat.shiftLeft_add_eq_or_of_lt (by omega), Nat.shiftLeft_eq]
    omega
  show BitVec.toNat (((((lo8 c &&& 255) <<< (0 : Int32)) ||| ((hi8 c &&& 255) <<< (8 : Int32))).toBitVec.setWidth 16).setWidth 32) = _
  rw [BitVec.toNat_setWidth, BitVec.toNat_setWidth, g]
  omega
end StrChars
namespace StrChars
open Jvm Sem ClassFile Op Lib Jvm.Stand Jvm.Free.XT Jvm.Free.ALB Jvm.Free.JM Jvm.Free
open Jvm.Lib.Cold (StaticIs)
theorem shr1 {n : Nat} (h : 2 * n < 2 ^ 31) : Int32.ofNat (2 * n) >>> ((1 : Int32) &&& 31) = Int32.ofNat n := by
  have e : ((1 : Int32) &&& 31) = 1 := by decide
  rw [e]
  apply Int32.toBitVec_inj.mp
  rw [Int32.toBitVec_shiftRight]
  have e1 : ((1 : Int32).toBitVec.smod 32) = 1#32 := by decide
  have hm : (BitVec.ofNat 32 (2 * n)).toNat = 2 * n := by rw [BitVec.toNat_ofNat, Nat.mod_eq_of_lt (by omega)]
  rw [e1, BitVec.sshiftRight_eq']
  apply BitVec.eq_of_toNat_eq
  show ((BitVec.ofNat 32 (2 * n)).sshiftRight 1).toNat = (BitVec.ofNat 32 n).toNat
  rw [BitVec.toNat_sshiftRight_of_msb_false (by rw [BitVec.msb_eq_false_iff_two_mul_lt, hm]; omega), hm, BitVec.toNat_ofNat, Nat.shiftRight_eq_div_pow]
  omega
/-- charAt's cast of a byte read back -/
def chr8 (u : Int32) : Int32 := (u &&& 255).toUInt32.toUInt16.toUInt32.toInt32
theorem chr8_lo8 {c : Int32} (h0 : ¬ c < 0) (h1 : ¬ 255 < c) : chr8 (lo8 c) = c := by
  have t : ∀ k : Fin 256, (Int32.ofNat k.val).toUInt32.toUInt16.toUInt32.toInt32 = Int32.ofNat k.val := by decide +kernel
  unfold chr8
  rw [lo8_mask h0 h1]
  rw [Int32.lt_iff_toInt_lt] at h0 h1
  have e0 : (0 : Int32).toInt = 0 := rfl
  have e1 : (255 : Int32).toInt = 255 := rfl
  obtain ⟨k, hk⟩ : ∃ k : Nat, c.toInt = k := ⟨c.toInt.toNat, by omega⟩
  have hx : c = Int32.ofNat k := Int32.toInt_inj.mp (by rw [hk, Int32.toInt_ofNat_small (by omega)])
  rw [hx]
  exact t ⟨k, by omega⟩
theorem narrow_ch {c : Int32} (h0 : ¬ c < 0) (h1 : ¬ 65535 < c) : narrow .char (.int c) = .int c := by
  have q : narrow .char (.int (pairCh (lo8 c) (hi8 c))) = .int (pairCh (lo8 c) (hi8 c)) := narrow_c _
  rwa [pair_says h0 h1] at q
/-- the array's cell V codes the n chars f 0 .. f (n - 1) by the coder cd, as the JDK does: coder 1 just where some char is above 255 -/
def Cod (cd : Int32) (n : Nat) (f : Nat → Int32) (V : Cell) : Prop := (cd = 0 ∧ V.slots.size = n ∧ ∀ j, j < n → V.slots[j]? = some (.int (lo8 (f j))) ∧ ¬ 255 < f j) ∨ (cd = 1 ∧ V.slots.size = 2 * n ∧ (∀ j, j < n → V.slots[2 * j]? = some (.int (lo8 (f j))) ∧ V.slots[2 * j + 1]? = some (.int (hi8 (f j)))) ∧ ∃ j, j < n ∧ 255 < f j)
theorem Cod.cd {cd : Int32} {n : Nat} {f : Nat → Int32} {V : Cell} (h : Cod cd n f V) : cd = 0 ∨ cd = 1 := h.imp (fun q => q.1) fun q => q.1
theorem Cod.len {cd : Int32} {n : Nat} {f : Nat → Int32} {V : Cell} (h : Cod cd n f V) (hs : V.slots.size < 2 ^ 31) : Int32.ofNat V.slots.size >>> (cd &&& 31) = Int32.ofNat n := by
  rcases h with ⟨rfl, h, -⟩ | ⟨rfl, h, -⟩
  · rw [shr0, h]
  · rw [h, shr1 (by omega)]
/-- **x is a String of the n chars f 0 .. f (n - 1)**, Latin-1 or UTF-16; its array at t has the cell V -/
def Txt (x t : Addr) (V : Cell) (cd : Int32) (n : Nat) (f : Nat → Int32) (U : State) : Prop := Exact "java/lang/String" x U ∧ Has x "java/lang/String" "value" "[B" (.ref t) U ∧ Has x "java/lang/String" "coder" "B" (.int cd) U ∧ XT.Arr .byte t V U ∧ Cod cd n f V ∧ ∀ j, j < n → ¬ f j < 0 ∧ ¬ 65535 < f j
theorem Txt.mv {x t : Addr} {V : Cell} {cd : Int32} {n : Nat} {f : Nat → Int32} {U U' : State} (h : Txt x t V cd n f U) (hal : U.vm.Alike U'.vm) (hh : U'.heap = U.heap) : Txt x t V cd n f U' := ⟨h.1.mv hal hh, h.2.1.mv hal hh, h.2.2.1.mv hal hh, h.2.2.2.1.mv hal hh, h.2.2.2.2⟩
namespace Cdr
def yN : MethodName := ⟨"java/lang/String", "coder", "()B"⟩
abbrev yB : ByteArray := jdk_42_method_152_code
theorem d0 : decode yB 0 = .ok (.getstatic 38, 3) := by decide +kernel
theorem d3 : decode yB 3 = .ok (.ifCond (.eq) 10, 3) := by decide +kernel
theorem d6 : decode yB 6 = .ok (.aload_n 0, 1) := by decide +kernel
theorem d7 : decode yB 7 = .ok (.getfield 15, 3) := by decide +kernel
theorem d10 : decode yB 10 = .ok (.goto 4, 3) := by decide +kernel
theorem d14 : decode yB 14 = .ok (.ireturn, 1) := by decide +kernel
def site : List Cond := [.fieldLink "java/lang/String" 38 "java/lang/String" "COMPACT_STRINGS" "Z", .fieldLink "java/lang/String" 15 "java/lang/String" "coder" "B"]
def tab : Cond := tabOf yN yB 1 (some .byte) site
def P (x : Addr) (cd z : Int32) (args : Array Value) (s : State) : Prop := args = #[.ref x] ∧ Has x "java/lang/String" "coder" "B" (.int cd) s ∧ (cd = 0 ∨ cd = 1) ∧ StaticIs s "java/lang/String" "COMPACT_STRINGS" "Z" (.int z) ∧ ¬ z = 0
def E (cd : Int32) (r : Option Value) (s u : State) : Prop := XT.PureE (some (.int cd)) r s u
theorem law (l : Launch) (x : Addr) (cd z : Int32) : Law l yN 1 0 0 0 yB 1 (some .byte) site (P x cd z) (E cd) [] 0 0 := by
  refine Law.of_walk (plainFor_of_name (by decide +kernel)) (by decide +kernel) (by decide +kernel) (by decide) (fun _ _ h => by rw [h.1]; rfl) (fun _ U U' hal hh h => ⟨h.1, h.2.1.mv hal hh, h.2.2.1, h.2.2.2.1.there hal hh, h.2.2.2.2⟩) (fun r U U' V V' h1 hal h2 h => XT.PureE.mv r U U' V V' h1 hal h2 h) ?_
  intro p e s m args below meth c s₁ X0 hexec hbytes hml hret hlk hnm hown hh0 W hP
  obtain ⟨rfl, hx, hc, s1, hz⟩ := hP
  have c1 : Steps p.tables e below (s₁.setTop (entryFrame m #[.ref x] 1)) (s₁.setTop (mkF m 0 #[.val (.ref x)] [])) := entry rfl
  obtain ⟨T2, X2, q2, st2⟩ := X0.sget hexec hown (wk W (.fieldLink "java/lang/String" 38 "java/lang/String" "COMPACT_STRINGS" "Z")) s1 (fun _ _ h => by rw [hh0]; exact h) (g := (mkF m 0 #[.val (.ref x)] [])) rfl (hb hbytes d0)
  have hh2 := q2.trans hh0
  have c3 : Steps p.tables e below (s₁.setTop (entryFrame m #[.ref x] 1)) (T2.setTop (mkF m 7 #[.val (.ref x)] [.ref x])) := (c1.trans (st2 _ (Steps.refl _))).trans (by
    refine XS.ifNo X2.here hexec rfl (hb hbytes d3) rfl (i0_eq_f hz) ?_
    refine XS.aloadN X2.here hexec rfl (hb hbytes d6) rfl rfl ?_
    exact Steps.refl _)
  obtain ⟨T4, X4, q4, st4⟩ := X2.hget hexec hown (wk W (.fieldLink "java/lang/String" 15 "java/lang/String" "coder" "B")) (hx.mv X2.warmed.alike hh2) (g := (mkF m 7 #[.val (.ref x)] [.ref x])) rfl (rest := []) rfl (hb hbytes d7)
  have c5 : Steps p.tables e below (s₁.setTop (entryFrame m #[.ref x] 1)) (T4.setTop (mkF m 14 #[.val (.ref x)] [.int cd])) := (c3.trans (st4 _ (Steps.refl _))).trans (by
    refine XS.goto X4.here hexec rfl (pc0 := 10) rfl (hb hbytes d10) (by decide) rfl ?_
    exact Steps.refl _)
  exact ⟨T4, some (.int cd), _, _, _, X4, rfl, rfl, rfl, (fun h => by cases h), ⟨rfl, q4.trans hh2⟩, fun fs hl => c5.trans (X4.ireturnOut hexec hret (by rcases hc with rfl | rfl <;> rfl) (Or.inr (Or.inr (Or.inl rfl))) (hb hbytes d14) hl)⟩
end Cdr
namespace Len
def yN : MethodName := ⟨"java/lang/String", "length", "()I"⟩
abbrev yB : ByteArray := jdk_42_method_54_code
theorem d0 : decode yB 0 = .ok (.aload_n 0, 1) := by decide +kernel
theorem d1 : decode yB 1 = .ok (.getfield 9, 3) := by decide +kernel
theorem d4 : decode yB 4 = .ok (.arraylength, 1) := by decide +kernel
theorem d5 : decode yB 5 = .ok (.aload_n 0, 1) := by decide +kernel
theorem d6 : decode yB 6 = .ok (.invokevirtual 335, 3) := by decide +kernel
theorem d9 : decode yB 9 = .ok (.ishr, 1) := by decide +kernel
theorem d10 : decode yB 10 = .ok (.ireturn, 1) := by decide +kernel
def site : List Cond := [.fieldLink "java/lang/String" 9 "java/lang/String" "value" "[B", Cdr.tab] ++ virtW "java/lang/String" 335 "java/lang/String" Cdr.yN Cdr.yN
def tab : Cond := tabOf yN yB 1 (some .int) site
def P (x t : Addr) (V : Cell) (cd : Int32) (n : Nat) (f : Nat → Int32) (z : Int32) (args : Array Value) (s : State) : Prop := args = #[.ref x] ∧ Txt x t V cd n f s ∧ StaticIs s "java/lang/String" "COMPACT_STRINGS" "Z" (.int z) ∧ ¬ z = 0
def E (n : Nat) (r : Option Value) (s u : State) : Prop := XT.PureE (some (.int (Int32.ofNat n))) r s u
/-- length() of a String of n chars, in either coding -/
theorem law (l : Launch) (x t : Addr) (V : Cell) (cd : Int32) (n : Nat) (f : Nat → Int32) (z : Int32) : Law l yN 1 0 1 13 yB 1 (some .int) site (P x t V cd n f z) (E n) [] 0 0 := by
  refine Law.of_walk (plainFor_of_name (by decide +kernel)) (by decide +kernel) (by decide +kernel) (by decide) (fun _ _ h => by rw [h.1]; rfl) (fun _ U U' hal hh h => ⟨h.1, h.2.1.mv hal hh, h.2.2.1.there hal hh, h.2.2.2⟩) (fun r U U' V V' h1 hal h2 h => XT.PureE.mv r U U' V V' h1 hal h2 h) ?_
  intro p e s m args below meth c s₁ X0 hexec hbytes hml hret hlk hnm hown hh0 W hP
  obtain ⟨rfl, hx, s1, hz⟩ := hP
  have v31 := hx.2.2.2.1.2.2.2
  have c1 : Steps p.tables e below (s₁.setTop (entryFrame m #[.ref x] 1)) (s₁.setTop (mkF m 1 #[.val (.ref x)] [.ref x])) := Steps.trans (entry rfl) (by
    show Steps p.tables e below (s₁.setTop (mkF m 0 #[.val (.ref x)] [])) _
    refine XS.aloadN X0.here hexec rfl (hb hbytes d0) rfl rfl ?_
    exact Steps.refl _)
  obtain ⟨T2, X2, q2, st2⟩ := X0.hget hexec hown (wk W (.fieldLink "java/lang/String" 9 "java/lang/String" "value" "[B")) (hx.mv X0.warmed.alike hh0).2.1 (g := (mkF m 1 #[.val (.ref x)] [.ref x])) rfl (rest := []) rfl (hb hbytes d1)
  have hh2 := q2.trans hh0
  have hx2 := hx.mv X2.warmed.alike hh2
  have c3 : Steps p.tables e below (s₁.setTop (entryFrame m #[.ref x] 1)) (T2.setTop (mkF m 6 #[.val (.ref x)] [.ref x, .int (Int32.ofNat V.slots.size)])) := (c1.trans (st2 _ (Steps.refl _))).trans (by
    refine X2.alen hexec hx2.2.2.2.1 rfl rfl (hb hbytes d4) ?_
    refine XS.aloadN X2.here hexec rfl (hb hbytes d5) rfl rfl ?_
    exact Steps.refl _)
  obtain ⟨v4, T4, X4, E4, g4⟩ := X2.callV hexec (Cdr.law l x cd z) hown (wks W (virtW "java/lang/String" 335 "java/lang/String" Cdr.yN Cdr.yN)) rfl (by decide) (wk W Cdr.tab) (W := 1) (Nat.le_of_ble_eq_true rfl) (Nat.le_of_ble_eq_true rfl) (Nat.le_refl _) (Nat.le_refl _) (hx2.1.fc X2.warmed.alike) hx2.1.is (g := (mkF m 6 #[.val (.ref x)] [.ref x, .int (Int32.ofNat V.slots.size)])) rfl (by rw [hml]; rfl) c3 (argsL := []) (rest := [.int (Int32.ofNat V.slots.size)]) rfl rfl (by show 2 * 0 + (1 + 0) ≤ _; decide) (hb hbytes d6) (⟨rfl, hx2.2.2.1, hx.2.2.2.2.1.cd, s1.there X2.warmed.alike hh2, hz⟩)
  obtain ⟨rfl, q4⟩ := E4
  have c5 : Steps p.tables e below (s₁.setTop (entryFrame m #[.ref x] 1)) (T4.setTop (mkF m 10 #[.val (.ref x)] [.int (Int32.ofNat V.slots.size >>> (cd &&& 31))])) := Steps.trans g4 (by
    refine ishr X4.here hexec rfl (hb hbytes d9) rfl ?_
    exact Steps.refl _)
  rw [hx.2.2.2.2.1.len v31] at c5
  exact ⟨T4, some (.int (Int32.ofNat n)), _, _, _, X4, rfl, rfl, rfl, (fun h => by cases h), ⟨rfl, q4.trans hh2⟩, fun fs hl => c5.trans (X4.ireturnOut hexec hret rfl (Or.inl rfl) (hb hbytes d10) hl)⟩
theorem pays {l : Launch} {R : Room} {p : Program} {e : Env} {below : List Frame} {s : State} {sargs : Array Value} {len W : Nat} (x t : Addr) (V : Cell) (cd : Int32) (n : Nat) (f : Nat → Int32) (z : Int32) (htab : tab.before sargs s = true) (hfr : 2 ≤ R.frames) (hlo : W + 25 ≤ R.locals) :
    Back l R p e below s sargs yN len W (fun A₁ a₁ => A₁.cells + 0 ≤ R.cells ∧ A₁.slots + 0 ≤ R.slots ∧ P x t V cd n f z a₁ A₁.U) (fun A₁ _ v₁ B₁ => E n v₁ A₁.U B₁.U ∧ B₁.locs = A₁.locs ++ [] ∧ B₁.cells = A₁.cells + 0 ∧ B₁.slots = A₁.slots + 0) :=
  (law l x t V cd n f z).pays htab hfr (by omega)
end Len
namespace IsL
def yN : MethodName := ⟨"java/lang/String", "isLatin1", "()Z"⟩
abbrev yB : ByteArray := jdk_42_method_154_code
theorem d0 : decode yB 0 = .ok (.getstatic 38, 3) := by decide +kernel
theorem d3 : decode yB 3 = .ok (.ifCond (.eq) 14, 3) := by decide +kernel
theorem d6 : decode yB 6 = .ok (.aload_n 0, 1) := by decide +kernel
theorem d7 : decode yB 7 = .ok (.getfield 15, 3) := by decide +kernel
theorem d10 : decode yB 10 = .ok (.ifCond (.ne) 7, 3) := by decide +kernel
theorem d13 : decode yB 13 = .ok (.iconst 1, 1) := by decide +kernel
theorem d14 : decode yB 14 = .ok (.goto 4, 3) := by decide +kernel
theorem d17 : decode yB 17 = .ok (.iconst 0, 1) := by decide +kernel
theorem d18 : decode yB 18 = .ok (.ireturn, 1) := by decide +kernel
def site : List Cond := [.fieldLink "java/lang/String" 38 "java/lang/String" "COMPACT_STRINGS" "Z", .fieldLink "java/lang/String" 15 "java/lang/String" "coder" "B"]
def tab : Cond := tabOf yN yB 1 (some .boolean) site
def P (x : Addr) (cd z : Int32) (args : Array Value) (s : State) : Prop := args = #[.ref x] ∧ Has x "java/lang/String" "coder" "B" (.int cd) s ∧ (cd = 0 ∨ cd = 1) ∧ StaticIs s "java/lang/String" "COMPACT_STRINGS" "Z" (.int z) ∧ ¬ z = 0
def E (cd : Int32) (r : Option Value) (s u : State) : Prop := XT.PureE (some (.int (1 - cd))) r s u
theorem law (l : Launch) (x : Addr) (cd z : Int32) : Law l yN 1 0 0 0 yB 1 (some .boolean) site (P x cd z) (E cd) [] 0 0 := by
  refine Law.of_walk (plainFor_of_name (by decide +kernel)) (by decide +kernel) (by decide +kernel) (by decide) (fun _ _ h => by rw [h.1]; rfl) (fun _ U U' hal hh h => ⟨h.1, h.2.1.mv hal hh, h.2.2.1, h.2.2.2.1.there hal hh, h.2.2.2.2⟩) (fun r U U' V V' h1 hal h2 h => XT.PureE.mv r U U' V V' h1 hal h2 h) ?_
  intro p e s m args below meth c s₁ X0 hexec hbytes hml hret hlk hnm hown hh0 W hP
  obtain ⟨rfl, hx, hc, s1, hz⟩ := hP
  have c1 : Steps p.tables e below (s₁.setTop (entryFrame m #[.ref x] 1)) (s₁.setTop (mkF m 0 #[.val (.ref x)] [])) := entry rfl
  obtain ⟨T2, X2, q2, st2⟩ := X0.sget hexec hown (wk W (.fieldLink "java/lang/String" 38 "java/lang/String" "COMPACT_STRINGS" "Z")) s1 (fun _ _ h => by rw [hh0]; exact h) (g := (mkF m 0 #[.val (.ref x)] [])) rfl (hb hbytes d0)
  have hh2 := q2.trans hh0
  have c3 : Steps p.tables e below (s₁.setTop (entryFrame m #[.ref x] 1)) (T2.setTop (mkF m 7 #[.val (.ref x)] [.ref x])) := (c1.trans (st2 _ (Steps.refl _))).trans (by
    refine XS.ifNo X2.here hexec rfl (hb hbytes d3) rfl (i0_eq_f hz) ?_
    refine XS.aloadN X2.here hexec rfl (hb hbytes d6) rfl rfl ?_
    exact Steps.refl _)
  obtain ⟨T4, X4, q4, st4⟩ := X2.hget hexec hown (wk W (.fieldLink "java/lang/String" 15 "java/lang/String" "coder" "B")) (hx.mv X2.warmed.alike hh2) (g := (mkF m 7 #[.val (.ref x)] [.ref x])) rfl (rest := []) rfl (hb hbytes d7)
  have c5 : Steps p.tables e below (s₁.setTop (entryFrame m #[.ref x] 1)) (T4.setTop (mkF m 10 #[.val (.ref x)] [.int cd])) := c3.trans (st4 _ (Steps.refl _))
  have c6 : Steps p.tables e below (s₁.setTop (entryFrame m #[.ref x] 1)) (T4.setTop (mkF m 18 #[.val (.ref x)] [.int (1 - cd)])) := by
    rcases hc with rfl | rfl
    · exact c5.trans (by
        refine XS.ifNo X4.here hexec rfl (hb hbytes d10) rfl (i0_ne_f rfl) ?_
        refine iconstV X4.here hexec rfl 1 (hb hbytes d13) (by decide) ?_
        refine XS.goto X4.here hexec rfl (pc0 := 14) rfl (hb hbytes d14) (by decide) rfl ?_
        exact Steps.refl _)
    · exact c5.trans (by
        refine XS.ifYes X4.here hexec rfl (pc0 := 10) rfl (hb hbytes d10) rfl (i0_ne_t (by decide)) (by decide) rfl ?_
        refine iconstV X4.here hexec rfl 0 (hb hbytes d17) (by decide) ?_
        exact Steps.refl _)
  exact ⟨T4, some (.int (1 - cd)), _, _, _, X4, rfl, rfl, rfl, (fun h => by cases h), ⟨rfl, q4.trans hh2⟩, fun fs hl => c6.trans (X4.ireturnOut hexec hret (by rcases hc with rfl | rfl <;> rfl) (Or.inr (Or.inl rfl)) (hb hbytes d18) hl)⟩
end IsL
namespace LChA
def yN : MethodName := ⟨"java/lang/StringLatin1", "charAt", "([BI)C"⟩
abbrev yB : ByteArray := jdk_43_method_2_code
theorem d0 : decode yB 0 = .ok (.iload_n 1, 1) := by decide +kernel
theorem d1 : decode yB 1 = .ok (.aload_n 0, 1) := by decide +kernel
theorem d2 : decode yB 2 = .ok (.arraylength, 1) := by decide +kernel
theorem d3 : decode yB 3 = .ok (.invokestatic 9, 3) := by decide +kernel
theorem d6 : decode yB 6 = .ok (.aload_n 0, 1) := by decide +kernel
theorem d7 : decode yB 7 = .ok (.iload_n 1, 1) := by decide +kernel
theorem d8 : decode yB 8 = .ok (.baload, 1) := by decide +kernel
theorem d9 : decode yB 9 = .ok (.sipush 255, 3) := by decide +kernel
theorem d12 : decode yB 12 = .ok (.iand, 1) := by decide +kernel
theorem d13 : decode yB 13 = .ok (.i2c, 1) := by decide +kernel
theorem d14 : decode yB 14 = .ok (.ireturn, 1) := by decide +kernel
def site : List Cond := [JO.Str_checkIndex.tab] ++ staticW "java/lang/StringLatin1" 9 JO.Str_checkIndex.yN
def tab : Cond := tabOf yN yB 2 (some .char) site
def P (t : Addr) (V : Cell) (i : Nat) (u : Int32) (fm : Value) (args : Array Value) (s : State) : Prop := args = #[.ref t, .int (Int32.ofNat i)] ∧ XT.Arr .byte t V s ∧ V.slots[i]? = some (.int u) ∧ (StaticIs s "jdk/internal/util/Preconditions" "SIOOBE_FORMATTER" "Ljava/util/function/BiFunction;" fm ∧ fm.isRef = true)
def E (u : Int32) (r : Option Value) (s w : State) : Prop := XT.PureE (some (.int (chr8 u))) r s w
theorem law (l : Launch) (t : Addr) (V : Cell) (i : Nat) (u : Int32) (fm : Value) : Law l yN 2 2 2 27 yB 2 (some .char) site (P t V i u fm) (E u) [] 0 0 := by
  refine Law.of_walk (plainFor_of_name (by decide +kernel)) (by decide +kernel) (by decide +kernel) (by decide) (fun _ _ h => by rw [h.1]; rfl) (fun _ U U' hal hh h => ⟨h.1, h.2.1.mv hal hh, h.2.2.1, h.2.2.2.1.there hal hh, h.2.2.2.2⟩) (fun r U U' V V' h1 hal h2 h => XT.PureE.mv r U U' V V' h1 hal h2 h) ?_
  intro p e s m args below meth c s₁ X0 hexec hbytes hml hret hlk hnm hown hh0 W hP
  obtain ⟨rfl, hV, hu, s1, rf⟩ := hP
  have v31 := hV.2.2.2
  have hi : i < V.slots.size := (Array.getElem?_eq_some_iff.mp hu).1
  have c1 : Steps p.tables e below (s₁.setTop (entryFrame m #[.ref t, .int (Int32.ofNat i)] 2)) (s₁.setTop (mkF m 0 #[.val (.ref t), .val (.int (Int32.ofNat i))] [])) := entry rfl
  have c2 : Steps p.tables e below (s₁.setTop (entryFrame m #[.ref t, .int (Int32.ofNat i)] 2)) (s₁.setTop (mkF m 3 #[.val (.ref t), .val (.int (Int32.ofNat i))] [.int (Int32.ofNat V.slots.size), .int (Int32.ofNat i)])) := c1.trans (by
    refine XS.iloadN X0.here hexec rfl (hb hbytes d0) rfl ?_
    refine XS.aloadN X0.here hexec rfl (hb hbytes d1) rfl rfl ?_
    refine X0.alen hexec (hV.mv X0.warmed.alike hh0) rfl rfl (hb hbytes d2) ?_
    exact Steps.refl _)
  obtain ⟨v3, T3, X3, E3, g3⟩ := X0.callS hexec (JO.Str_checkIndex.law l (Int32.ofNat i) (Int32.ofNat V.slots.size) fm) hown (wks W (staticW "java/lang/StringLatin1" 9 JO.Str_checkIndex.yN)) (wk W JO.Str_checkIndex.tab) (W := 0) (Nat.le_of_ble_eq_true rfl) (Nat.le_of_ble_eq_true rfl) (Nat.le_refl _) (Nat.le_refl _) (g := (mkF m 3 #[.val (.ref t), .val (.int (Int32.ofNat i))] [.int (Int32.ofNat V.slots.size), .int (Int32.ofNat i)])) rfl (by rw [hml]; rfl) c2 (argsL := [.int (Int32.ofNat i), .int (Int32.ofNat V.slots.size)]) (rest := []) rfl rfl (by show 2 * 0 + 0 ≤ _; decide) (hb hbytes d3) (⟨rfl, rf, s1.there X0.warmed.alike hh0, Int32.ofNat_not_neg (by omega), lt32 v31 hi⟩)
  obtain ⟨rfl, q3⟩ := E3
  have hh3 := q3.trans hh0
  have c4 : Steps p.tables e below (s₁.setTop (entryFrame m #[.ref t, .int (Int32.ofNat i)] 2)) (T3.setTop (mkF m 14 #[.val (.ref t), .val (.int (Int32.ofNat i))] [.int (chr8 u)])) := Steps.trans g3 (by
    refine XS.aloadN X3.here hexec rfl (hb hbytes d6) rfl rfl ?_
    refine XS.iloadN X3.here hexec rfl (hb hbytes d7) rfl ?_
    refine X3.aget hexec (hV.mv X3.warmed.alike hh3) rfl hu rfl rfl (hb hbytes d8) ?_
    refine sipushV X3.here hexec rfl 255 (hb hbytes d9) (by decide) ?_
    refine XS.iand X3.here hexec rfl (hb hbytes d12) rfl ?_
    refine i2c X3.here hexec rfl (hb hbytes d13) rfl ?_
    exact Steps.refl _)
  exact ⟨T3, some (.int (chr8 u)), _, _, _, X3, rfl, rfl, rfl, (fun h => by cases h), ⟨rfl, hh3⟩, fun fs hl => c4.trans (X3.ireturnOut hexec hret (narrow_c _) (Or.inr (Or.inr (Or.inr (Or.inl rfl)))) (hb hbytes d14) hl)⟩
end LChA
end StrChars
namespace StrChars.Road
open Jvm Sem ClassFile Op Lib Jvm.Stand Jvm.Free Jvm.Free.XT
open Jvm.Lib.Cold (StaticIs)
theorem consq {a : Array Value} {s : State} {c : Jvm.Cond} {L : List Jvm.Cond} (h0 : c.before a s = true) (h : ∀ w ∈ L, w.before a s = true) : ∀ w ∈ c :: L, w.before a s = true := fun w hw => (List.mem_cons.mp hw).elim (fun e => e ▸ h0) (h w)
/-- the words of String.length(), either coding -/
abbrev wordsLen : List Jvm.Cond := [.code Len.yN Len.yB 1 (some .int), .initialized ST, .fieldLink ST 9 ST "value" "[B", .fieldLink ST 38 ST "COMPACT_STRINGS" "Z", .fieldLink ST 15 ST "coder" "B", .code Cdr.yN Cdr.yB 1 (some .byte), .methodLink ST 335 Cdr.yN, .declares Cdr.yN, .selects ST Cdr.yN Cdr.yN, .instanceMethod Cdr.yN]
theorem tabLen_of {a : Array Value} {s : State} (h : ∀ w ∈ wordsLen, w.before a s = true) : Len.tab.before a s = true := by
  have hc : Cdr.tab.before a s = true := unparts (wk h (.code Cdr.yN Cdr.yB 1 (some .byte))) (wks h (.initialized Cdr.yN.cls :: Cdr.site))
  have q := consq hc h
  exact unparts (wk q (.code Len.yN Len.yB 1 (some .int))) (wks q (.initialized Len.yN.cls :: Len.site))
theorem movedLen {Z s : State} {a0 args : Array Value} (hZ : Z.Warmed39 s.vm) (hw : ∀ d ∈ wordsLen, d.before a0 Z = true) : ∀ d ∈ wordsLen, d.before args s = true := fun d hd => by
  have q := hw d hd
  have t : ∀ d ∈ wordsLen, d = .arrayClass .byte ∨ (d.onTables && d.keepsFace) = true := by decide +kernel
  rcases t d hd with rfl | t
  · exact RoadKit.mvA hZ q
  · exact RoadKit.mv hZ q t
/-- the bytes of the chars cs, low before high -/
def wideBytes : List Int32 → List Value
  | [] => []
  | c :: cs => .int (lo8 c) :: .int (hi8 c) :: wideBytes cs
theorem wide_lo (d : Value) : ∀ (cs : List Int32) (j : Nat), j < cs.length → (wideBytes cs).getD (2 * j) d = .int (lo8 (cs.getD j 0))
  | [], j, h => absurd h (Nat.not_lt_zero j)
  | c :: cs, 0, _ => rfl
  | c :: cs, j + 1, h => by
    have q := wide_lo d cs j (by simpa using h)
    rw [show 2 * (j + 1) = 2 * j + 1 + 1 from by omega]
    simpa [wideBytes] using q
theorem wide_hi (d : Value) : ∀ (cs : List Int32) (j : Nat), j < cs.length → (wideBytes cs).getD (2 * j + 1) d = .int (hi8 (cs.getD j 0))
  | [], j, h => absurd h (Nat.not_lt_zero j)
  | c :: cs, 0, _ => rfl
  | c :: cs, j + 1, h => by
    have q := wide_hi d cs j (by simpa using h)
    rw [show 2 * (j + 1) + 1 = 2 * j + 1 + 1 + 1 from by omega]
    simpa [wideBytes] using q
theorem low_at (d : Value) (cs : List Int32) (j : Nat) (h : j < cs.length) : (cs.map fun c => Value.int (lo8 c)).getD j d = .int (lo8 (cs.getD j 0)) := by
  simp [List.getD_eq_getElem?_getD, h]
/-- an array of N2 bytes vs codes the chars cs by the coder cd -/
def CodA (cs : List Int32) (cd N2 : Int32) (vs : List Value) : Prop := (cd = 0 ∧ N2 = Int32.ofNat cs.length ∧ vs = (cs.map fun c => Value.int (lo8 c)) ∧ ∀ c ∈ cs, ¬ 255 < c) ∨ (cd = 1 ∧ N2 = Int32.ofNat (2 * cs.length) ∧ vs = wideBytes cs ∧ ∃ c ∈ cs, 255 < c)
theorem CodA.cod {cs : List Int32} {cd N2 : Int32} {vs : List Value} {V : Cell} (h : CodA cs cd N2 vs) (hn : 2 * cs.length < 2 ^ 31) (hs : V.slots.size = N2.toNatClampNeg) (hv : RoadKit.Has V vs (.int 0)) : Cod cd cs.length (fun j => cs.getD j 0) V := by
  rcases h with ⟨rfl, rfl, rfl, h⟩ | ⟨rfl, rfl, rfl, c, hc, hw⟩
  · rw [n32 (by omega)] at hs
    exact Or.inl ⟨rfl, hs, fun j hj => ⟨by rw [hv j (by omega), low_at _ _ _ hj], by
      have e : cs.getD j 0 = cs[j] := by simp [List.getD_eq_getElem?_getD, hj]
      show ¬ 255 < cs.getD j 0
      rw [e]; exact h _ (List.getElem_mem _)⟩⟩
  · rw [n32 (by omega)] at hs
    obtain ⟨j, hj, rfl⟩ := List.getElem_of_mem hc
    exact Or.inr ⟨rfl, hs, fun j hj => ⟨by rw [hv _ (by omega), wide_lo _ _ _ hj], by rw [hv _ (by omega), wide_hi _ _ _ hj]⟩, j, hj, by
      have e : cs.getD j 0 = cs[j] := by simp [List.getD_eq_getElem?_getD, hj]
      show 255 < cs.getD j 0
      rw [e]; exact hw⟩
/-- an object of exactly java/lang/String, its two fields found: as the laws ask it -/
theorem strObj {Z U : State} {a0 : Array Value} {kI : Nat} (wi : (Jvm.Cond.instantiable ST kI).before a0 Z = true) (al : Z.vm.Alike U.vm) {x : Addr} {v0 c0 : Value} (E : RoadKit.Exa Z U.heap x ST) (V : RoadKit.Fld Z U.heap x ST "value" "[B" v0) (C : RoadKit.Fld Z U.heap x ST "coder" "B" c0) :
    ∃ (D : Cell) (fV fC : Field), Blank ST x D U ∧ Found ST "value" "[B" fV U ∧ Found ST "coder" "B" fC U ∧ D.slots[fV.slot]? = some v0 ∧ D.slots[fC.slot]? = some c0 ∧ RoadKit.slotOf Z ST "value" "[B" = fV.slot ∧ RoadKit.slotOf Z ST "coder" "B" = fC.slot := by
  obtain ⟨D, cfV, kV, iV, fV, hD, gV, stV, knV, obV, asV, slV⟩ := V
  obtain ⟨D', cfC, kC, iC, fC, hD', gC, stC, -, -, asC, slC⟩ := C
  cases hD.symm.trans hD'
  obtain ⟨D2, kD, e1, e2, e3, e4, e5⟩ := E
  cases hD.symm.trans e1
  obtain ⟨c2, k2, i1, i2, i3, -⟩ := Cond.instantiable_spec wi
  cases e2.symm.trans i1
  cases e3.symm.trans i2
  obtain ⟨kU, u1, u2⟩ := al.2.2 _ _ e3
  exact ⟨D, fV, fC, ⟨hD, ⟨knV, fun q hq => by rw [hq] at obV; cases obV⟩, by rw [al.findClass]; exact e2, kU, u1, by rw [u2]; exact i3, by rw [u2]; exact e5 i3⟩, ⟨SBG.found_only al ⟨cfV, kV, iV, gV⟩, stV⟩, ⟨SBG.found_only al ⟨cfC, kC, iC, gC⟩, stC⟩, slV, slC, by simp [RoadKit.slotOf, gV], by simp [RoadKit.slotOf, gC]⟩
theorem sta_is {Z U : State} (al : Z.vm.Alike U.vm) {C n d : String} {v : Value} (S : RoadKit.Sta Z U.heap C n d v) : StaticIs U C n d v := by
  obtain ⟨cfS, iS, kS, fS, st, cS, t1, t2, t3, t4, t5, t6, t7⟩ := S
  exact StaticIs.there (s := { Z with heap := U.heap }) ⟨cfS, iS, kS, fS, st, cS, t1, t2, t3, t4, t5, (fun q => by rw [q] at t6; cases t6), t7⟩ al rfl
/-- **length() OF SUCH A STRING** -/
theorem lenW {p : Program} {l : Launch} {e : Env} {R : Room} {s : State} {args : Array Value} {below : List Frame} {len W : Nat} {Z : State} {a0 : Array Value} {h : Heap} (hZ : Z.Warmed39 s.vm) (hw : ∀ d ∈ wordsLen, d.before a0 Z = true) {kI : Nat} (wi : (Jvm.Cond.instantiable ST kI).before a0 Z = true)
    {x t : Addr} {kb : ClassId} {cs : List Int32} {cd N2 z : Int32} {vs : List Value} (E : RoadKit.Exa Z h x ST) (V : RoadKit.Fld Z h x ST "value" "[B" (.ref t)) (C : RoadKit.Fld Z h x ST "coder" "B" (.int cd)) (K : RoadKit.Arv Z h t kb .byte N2 vs (.int 0)) (hc : CodA cs cd N2 vs) (hb : ∀ c ∈ cs, ¬ c < 0 ∧ ¬ (65535 : Int32) < c)
    (S : RoadKit.Sta Z h ST "COMPACT_STRINGS" "Z" (.int z)) (hz : ¬ z = 0) (l2 : cs.length ≤ 4000) (hfr : 2 ≤ R.frames) (hlo : W + 25 ≤ R.locals) :
    Back l R p e below s args (⟨"java/lang/String", "length", "()I"⟩ : MethodName) len W (fun P a => a = #[.ref x] ∧ P.U.heap = h ∧ P.cells + 0 ≤ R.cells ∧ P.slots + 0 ≤ R.slots)
      (fun P _ v B => ∃ L, (v = some (.int (Int32.ofNat cs.length)) ∧ L = [] ∧ B.U.heap = h) ∧ B.locs = P.locs ++ L ∧ B.cells = P.cells + 0 ∧ B.slots = P.slots + 0) := by
  obtain ⟨A, K1, K2, K3, K4, K5, K6⟩ := K
  have hcod := hc.cod (by omega) K3 K5
  intro m meth c P g ig mk a X hg hsize hdg hW hn hp'
  obtain ⟨rfl, rfl, r1, r2⟩ := hp'
  have al : Z.vm.Alike P.U.vm := hZ.alike.trans X.warmed.alike
  obtain ⟨D, fV, fC, hB, F1, F2, g1, g2, -, -⟩ := strObj wi al E V C
  have hx : Txt x t A cd cs.length (fun j => cs.getD j 0) P.U := ⟨⟨_, hB.2.2.1, D, hB.1, rfl, by cases q : D.vm <;> first | rfl | exact absurd q (hB.2.1.2 _)⟩, Has.of hB F1 g1, Has.of hB F2 g2, ⟨K1.1, State.isArrayOf_alike al K1.2.1, K1.2.2, by rcases hcod with ⟨-, q, -⟩ | ⟨-, q, -⟩ <;> omega⟩, hcod, fun j hj => by
    have e : cs.getD j 0 = cs[j] := by simp [List.getD_eq_getElem?_getD, hj]
    show ¬ cs.getD j 0 < 0 ∧ ¬ 65535 < cs.getD j 0
    rw [e]; exact hb _ (List.getElem_mem _)⟩
  obtain ⟨v, B, X', ⟨⟨hv, hh⟩, hl, hk, hs⟩, st⟩ := Len.pays x t A cd cs.length (fun j => cs.getD j 0) z (tabLen_of (movedLen hZ hw)) hfr hlo m meth c P g ig mk _ X hg hsize hdg hW hn ⟨r1, r2, rfl, hx, sta_is al S, hz⟩
  exact ⟨v, B, X', ⟨[], ⟨hv, rfl, hh⟩, hl, hk, hs⟩, st⟩
end StrChars.Road
namespace StrChars
open Jvm Sem ClassFile Op Lib Jvm.Stand Jvm.Free.XT Jvm.Free.ALB Jvm.Free.JM Jvm.Free
open Jvm.Lib.Cold (StaticIs)
/-- what place i of a byte[]'s cell holds -/
def yv (A : Cell) (i : Nat) : Int32 := match A.slots[i]? with | some (.int x) => x | _ => 0
theorem yv_get {a : Addr} {A : Cell} {U : State} (h : XT.Arr .byte a A U) (ht : Typed .byte A) {i : Nat} (hi : i < A.slots.size) : A.slots[i]? = some (.int (yv A i)) := by
  have e := Array.getElem?_eq_getElem hi
  have f := ht i _ e
  unfold yv; rw [e]
  generalize A.slots[i] = v at f
  cases v <;> simp [fits] at f ⊢
/-- the two arrays are equal, place for place -/
def EqC (A B : Cell) : Prop := A.slots.size = B.slots.size ∧ ∀ i, i < A.slots.size → yv A i = yv B i
/-- a boolean that says whether p -/
def Says01 (q : Prop) (r : Option Value) (s u : State) : Prop := ∃ v : Int32, r = some (.int v) ∧ u.heap = s.heap ∧ ((v = 1 ∧ q) ∨ (v = 0 ∧ ¬ q))
theorem Says01.mv {q : Prop} : ∀ r (U U' V V' : State), U'.heap = U.heap → V.vm.Alike V'.vm → V'.heap = V.heap → Says01 q r U V → Says01 q r U' V' :=
  fun r U U' V V' h1 _ h2 ⟨v, a, b, c⟩ => ⟨v, a, by rw [h1, h2]; exact b, c⟩
namespace LEq
def yN : MethodName := ⟨"java/lang/StringLatin1", "equals", "([B[B)Z"⟩
abbrev yB : ByteArray := jdk_43_method_13_code
theorem d0 : decode yB 0 = .ok (.aload_n 0, 1) := by decide +kernel
theorem d1 : decode yB 1 = .ok (.arraylength, 1) := by decide +kernel
theorem d2 : decode yB 2 = .ok (.aload_n 1, 1) := by decide +kernel
theorem d3 : decode yB 3 = .ok (.arraylength, 1) := by decide +kernel
theorem d4 : decode yB 4 = .ok (.if_icmp (.ne) 30, 3) := by decide +kernel
theorem d7 : decode yB 7 = .ok (.iconst 0, 1) := by decide +kernel
theorem d8 : decode yB 8 = .ok (.istore_n 2, 1) := by decide +kernel
theorem d9 : decode yB 9 = .ok (.iload_n 2, 1) := by decide +kernel
theorem d10 : decode yB 10 = .ok (.aload_n 0, 1) := by decide +kernel
theorem d11 : decode yB 11 = .ok (.arraylength, 1) := by decide +kernel
theorem d12 : decode yB 12 = .ok (.if_icmp (.ge) 20, 3) := by decide +kernel
theorem d15 : decode yB 15 = .ok (.aload_n 0, 1) := by decide +kernel
theorem d16 : decode yB 16 = .ok (.iload_n 2, 1) := by decide +kernel
theorem d17 : decode yB 17 = .ok (.baload, 1) := by decide +kernel
theorem d18 : decode yB 18 = .ok (.aload_n 1, 1) := by decide +kernel
theorem d19 : decode yB 19 = .ok (.iload_n 2, 1) := by decide +kernel
theorem d20 : decode yB 20 = .ok (.baload, 1) := by decide +kernel
theorem d21 : decode yB 21 = .ok (.if_icmp (.eq) 5, 3) := by decide +kernel
theorem d24 : decode yB 24 = .ok (.iconst 0, 1) := by decide +kernel
theorem d25 : decode yB 25 = .ok (.ireturn, 1) := by decide +kernel
theorem d26 : decode yB 26 = .ok (.iinc 2 1, 3) := by decide +kernel
theorem d29 : decode yB 29 = .ok (.goto (-20), 3) := by decide +kernel
theorem d32 : decode yB 32 = .ok (.iconst 1, 1) := by decide +kernel
theorem d33 : decode yB 33 = .ok (.ireturn, 1) := by decide +kernel
theorem d34 : decode yB 34 = .ok (.iconst 0, 1) := by decide +kernel
theorem d35 : decode yB 35 = .ok (.ireturn, 1) := by decide +kernel
def site : List Cond := []
def tab : Cond := tabOf yN yB 3 (some .boolean) site
def P (a : Addr) (A : Cell) (b : Addr) (B : Cell) (args : Array Value) (s : State) : Prop := args = #[.ref a, .ref b] ∧ XT.Arr .byte a A s ∧ Typed .byte A ∧ XT.Arr .byte b B s ∧ Typed .byte B
/-- whether two byte[] are equal, place for place -/
theorem law (l : Launch) (a : Addr) (A : Cell) (b : Addr) (B : Cell) : Law l yN 2 2 0 0 yB 3 (some .boolean) site (P a A b B) (Says01 (EqC A B)) [] 0 0 := by
  refine Law.of_walk (plainFor_of_name (by decide +kernel)) (by decide +kernel) (by decide +kernel) (by decide) (fun _ _ h => by rw [h.1]; rfl) (fun _ U U' hal hh h => ⟨h.1, h.2.1.mv hal hh, h.2.2.1, h.2.2.2.1.mv hal hh, h.2.2.2.2⟩) (fun r U U' V V' h1 hal h2 h => Says01.mv r U U' V V' h1 hal h2 h) ?_
  intro p e s m args below meth c s₁ X0 hexec hbytes hml hret hlk hnm hown hh0 W hP
  obtain ⟨rfl, hA, tA, hB, tB⟩ := hP
  have a31 := hA.2.2.2
  have b31 := hB.2.2.2
  have hA0 := hA.mv X0.warmed.alike hh0
  have hB0 := hB.mv X0.warmed.alike hh0
  have c1 : Steps p.tables e below (s₁.setTop (entryFrame m #[.ref a, .ref b] 3)) (s₁.setTop (mkF m 0 #[.val (.ref a), .val (.ref b), .unset] [])) := entry rfl
  have c2 : Steps p.tables e below (s₁.setTop (entryFrame m #[.ref a, .ref b] 3)) (s₁.setTop (mkF m 4 #[.val (.ref a), .val (.ref b), .unset] [.int (Int32.ofNat B.slots.size), .int (Int32.ofNat A.slots.size)])) := c1.trans (by
    refine XS.aloadN X0.here hexec rfl (hb hbytes d0) rfl rfl ?_
    refine X0.alen hexec hA0 rfl rfl (hb hbytes d1) ?_
    refine XS.aloadN X0.here hexec rfl (hb hbytes d2) rfl rfl ?_
    refine X0.alen hexec hB0 rfl rfl (hb hbytes d3) ?_
    exact Steps.refl _)
  by_cases hs : A.slots.size = B.slots.size
  · have c3 : Steps p.tables e below (s₁.setTop (entryFrame m #[.ref a, .ref b] 3)) (s₁.setTop (mkF m 9 #[.val (.ref a), .val (.ref b), .val (.int 0)] [])) := c2.trans (by
      refine XS.icmpNo X0.here hexec rfl (hb hbytes d4) rfl (ii_ne_f (by rw [hs])) ?_
      refine iconstV X0.here hexec rfl 0 (hb hbytes d7) (by decide) ?_
      refine XS.istoreN X0.here hexec rfl (hb hbytes d8) rfl rfl ?_
      exact Steps.refl _)
    have loop : ∀ (r i : Nat), i + r = A.slots.size → (∀ j, j < i → yv A j = yv B j) → Steps p.tables e below (s₁.setTop (entryFrame m #[.ref a, .ref b] 3)) (s₁.setTop (mkF m 9 #[.val (.ref a), .val (.ref b), .val (.int (Int32.ofNat i))] [])) → ∃ (pc : Nat) (Ls : Array Slot) (v : Int32), (pc = 25 ∨ pc = 33) ∧ ((v = 1 ∧ EqC A B) ∨ (v = 0 ∧ ¬ EqC A B)) ∧ Steps p.tables e below (s₁.setTop (entryFrame m #[.ref a, .ref b] 3)) (s₁.setTop (mkF m pc Ls [.int v])) := by
      intro r
      induction r with
      | zero =>
        intro i hi he cl
        exact ⟨33, _, 1, Or.inr rfl, Or.inl ⟨rfl, hs, fun j hj => he j (by omega)⟩, cl.trans (by
          refine XS.iloadN X0.here hexec rfl (hb hbytes d9) rfl ?_
          refine XS.aloadN X0.here hexec rfl (hb hbytes d10) rfl rfl ?_
          refine X0.alen hexec hA0 rfl rfl (hb hbytes d11) ?_
          refine XS.icmpYes X0.here hexec rfl (pc0 := 12) rfl (hb hbytes d12) rfl (ii_ge_t (nlt32 (by omega) (by omega))) (by decide) rfl ?_
          refine iconstV X0.here hexec rfl 1 (hb hbytes d32) (by decide) ?_
          exact Steps.refl _)⟩
      | succ r ih =>
        intro i hi he cl
        have c4 : Steps p.tables e below (s₁.setTop (entryFrame m #[.ref a, .ref b] 3)) (s₁.setTop (mkF m 21 #[.val (.ref a), .val (.ref b), .val (.int (Int32.ofNat i))] [.int (yv B i), .int (yv A i)])) := cl.trans (by
          refine XS.iloadN X0.here hexec rfl (hb hbytes d9) rfl ?_
          refine XS.aloadN X0.here hexec rfl (hb hbytes d10) rfl rfl ?_
          refine X0.alen hexec hA0 rfl rfl (hb hbytes d11) ?_
          refine XS.icmpNo X0.here hexec rfl (hb hbytes d12) rfl (ii_ge_f (lt32 (by omega) (by omega))) ?_
          refine XS.aloadN X0.here hexec rfl (hb hbytes d15) rfl rfl ?_
          refine XS.iloadN X0.here hexec rfl (hb hbytes d16) rfl ?_
          refine X0.aget hexec hA0 rfl (yv_get hA tA (i := i) (by omega)) rfl rfl (hb hbytes d17) ?_
          refine XS.aloadN X0.here hexec rfl (hb hbytes d18) rfl rfl ?_
          refine XS.iloadN X0.here hexec rfl (hb hbytes d19) rfl ?_
          refine X0.aget hexec hB0 rfl (yv_get hB tB (i := i) (by omega)) rfl rfl (hb hbytes d20) ?_
          exact Steps.refl _)
        by_cases hv : yv A i = yv B i
        · have c5 : Steps p.tables e below (s₁.setTop (entryFrame m #[.ref a, .ref b] 3)) (s₁.setTop (mkF m 9 #[.val (.ref a), .val (.ref b), .val (.int (Int32.ofNat i + 1))] [])) := c4.trans (by
            refine XS.icmpYes X0.here hexec rfl (pc0 := 21) rfl (hb hbytes d21) rfl (ii_eq_t hv) (by decide) rfl ?_
            refine iincV X0.here hexec rfl 1 (hb hbytes d26) (by decide) rfl rfl ?_
            refine XS.goto X0.here hexec rfl (pc0 := 29) rfl (hb hbytes d29) (by decide) rfl ?_
            exact Steps.refl _)
          rw [succ32] at c5
          exact ih (i + 1) (by omega) (fun j hj => by
            by_cases e : j = i
            · rw [e]; exact hv
            · exact he j (by omega)) c5
        · exact ⟨25, _, 0, Or.inl rfl, Or.inr ⟨rfl, fun q => hv (q.2 i (by omega))⟩, c4.trans (by
            refine XS.icmpNo X0.here hexec rfl (hb hbytes d21) rfl (ii_eq_f hv) ?_
            refine iconstV X0.here hexec rfl 0 (hb hbytes d24) (by decide) ?_
            exact Steps.refl _)⟩
    obtain ⟨pc, Ls, v, hpc, hv, cz⟩ := loop A.slots.size 0 (by omega) (fun j hj => absurd hj (Nat.not_lt_zero j)) c3
    have nv : narrow .boolean (.int v) = .int v := by rcases hv with ⟨rfl, -⟩ | ⟨rfl, -⟩ <;> rfl
    rcases hpc with rfl | rfl
    · exact ⟨s₁, some (.int v), _, _, _, X0, rfl, rfl, rfl, (fun h => by cases h), ⟨v, rfl, hh0, hv⟩, fun fs hl => cz.trans (X0.ireturnOut hexec hret nv (Or.inr (Or.inl rfl)) (hb hbytes d25) hl)⟩
    · exact ⟨s₁, some (.int v), _, _, _, X0, rfl, rfl, rfl, (fun h => by cases h), ⟨v, rfl, hh0, hv⟩, fun fs hl => cz.trans (X0.ireturnOut hexec hret nv (Or.inr (Or.inl rfl)) (hb hbytes d33) hl)⟩
  · have c3 : Steps p.tables e below (s₁.setTop (entryFrame m #[.ref a, .ref b] 3)) (s₁.setTop (mkF m 35 #[.val (.ref a), .val (.ref b), .unset] [.int 0])) := c2.trans (by
      refine XS.icmpYes X0.here hexec rfl (pc0 := 4) rfl (hb hbytes d4) rfl (ii_ne_t (ne32 a31 b31 hs)) (by decide) rfl ?_
      refine iconstV X0.here hexec rfl 0 (hb hbytes d34) (by decide) ?_
      exact Steps.refl _)
    exact ⟨s₁, some (.int 0), _, _, _, X0, rfl, rfl, rfl, (fun h => by cases h), ⟨0, rfl, hh0, Or.inr ⟨rfl, fun q => hs q.1⟩⟩, fun fs hl => c3.trans (X0.ireturnOut hexec hret rfl (Or.inr (Or.inl rfl)) (hb hbytes d35) hl)⟩
end LEq
theorem Cod.ty {cd : Int32} {n : Nat} {f : Nat → Int32} {V : Cell} (h : Cod cd n f V) : Typed .byte V := fun i v hv => by
  have hi : i < V.slots.size := (Array.getElem?_eq_some_iff.mp hv).1
  rcases h with ⟨-, k1, k2⟩ | ⟨-, k1, k2, -⟩
  · rw [(k2 i (by omega)).1] at hv; cases hv; exact fits_lo8 _
  · rcases Nat.mod_two_eq_zero_or_one i with e | e
    · obtain ⟨j, rfl⟩ : ∃ j, i = 2 * j := ⟨i / 2, by omega⟩
      rw [(k2 j (by omega)).1] at hv; cases hv; exact fits_lo8 _
    · obtain ⟨j, rfl⟩ : ∃ j, i = 2 * j + 1 := ⟨i / 2, by omega⟩
      rw [(k2 j (by omega)).2] at hv; cases hv; exact fits_lo8 _
/-- the same text -/
def SameT (n : Nat) (f : Nat → Int32) (k : Nat) (g : Nat → Int32) : Prop := n = k ∧ ∀ j, j < n → f j = g j
theorem lo8_inj {x y : Int32} (h0 : ¬ x < 0) (h1 : ¬ 255 < x) (k0 : ¬ y < 0) (k1 : ¬ 255 < y) (h : lo8 x = lo8 y) : x = y := by
  rw [← lo8_mask h0 h1, ← lo8_mask k0 k1, h]
/-- arrays coded by one coder are equal just where the texts are -/
theorem Cod.eqv {cd : Int32} {n k : Nat} {f g : Nat → Int32} {V V' : Cell} (h : Cod cd n f V) (h' : Cod cd k g V') (hf : ∀ j, j < n → ¬ f j < 0 ∧ ¬ 65535 < f j) (hg : ∀ j, j < k → ¬ g j < 0 ∧ ¬ 65535 < g j) : EqC V V' ↔ SameT n f k g := by
  have yvv : ∀ {W : Cell} {i : Nat} {x : Int32}, W.slots[i]? = some (.int x) → yv W i = x := fun q => by unfold yv; rw [q]
  rcases h with ⟨rfl, k1, k2⟩ | ⟨rfl, k1, k2, -⟩
  · rcases h' with ⟨-, m1, m2⟩ | ⟨e, -⟩
    · constructor
      · rintro ⟨e1, e2⟩
        refine ⟨by omega, fun j hj => ?_⟩
        have q := e2 j (by omega)
        rw [yvv (k2 j hj).1, yvv (m2 j (by omega)).1] at q
        exact lo8_inj (hf j hj).1 (k2 j hj).2 (hg j (by omega)).1 (m2 j (by omega)).2 q
      · rintro ⟨rfl, e2⟩
        refine ⟨by omega, fun j hj => ?_⟩
        rw [yvv (k2 j (by omega)).1, yvv (m2 j (by omega)).1, e2 j (by omega)]
    · exact absurd e (by decide)
  · rcases h' with ⟨e, -⟩ | ⟨-, m1, m2, -⟩
    · exact absurd e (by decide)
    · constructor
      · rintro ⟨e1, e2⟩
        refine ⟨by omega, fun j hj => ?_⟩
        have q1 := e2 (2 * j) (by omega)
        have q2 := e2 (2 * j + 1) (by omega)
        rw [yvv (k2 j hj).1, yvv (m2 j (by omega)).1] at q1
        rw [yvv (k2 j hj).2, yvv (m2 j (by omega)).2] at q2
        rw [← pair_says (hf j hj).1 (hf j hj).2, ← pair_says (hg j (by omega)).1 (hg j (by omega)).2, q1, q2]
      · rintro ⟨rfl, e2⟩
        refine ⟨by omega, fun i hi => ?_⟩
        rcases Nat.mod_two_eq_zero_or_one i with e | e
        · obtain ⟨j, rfl⟩ : ∃ j, i = 2 * j := ⟨i / 2, by omega⟩
          rw [yvv (k2 j (by omega)).1, yvv (m2 j (by omega)).1, e2 j (by omega)]
        · obtain ⟨j, rfl⟩ : ∃ j, i = 2 * j + 1 := ⟨i / 2, by omega⟩
          rw [yvv (k2 j (by omega)).2, yvv (m2 j (by omega)).2, e2 j (by omega)]
/-- two codings differ: so do the texts -/
theorem Cod.dif {cd cd' : Int32} {n k : Nat} {f g : Nat → Int32} {V V' : Cell} (h : Cod cd n f V) (h' : Cod cd' k g V') (hne : ¬ cd = cd') : ¬ SameT n f k g := by
  rintro ⟨rfl, e⟩
  rcases h with ⟨rfl, -, k2⟩ | ⟨rfl, -, -, j, hj, hw⟩
  · rcases h' with ⟨rfl, -⟩ | ⟨-, -, -, j, hj, hw⟩
    · exact hne rfl
    · exact (k2 j hj).2 (by rw [e j hj]; exact hw)
  · rcases h' with ⟨-, -, m2⟩ | ⟨rfl, -⟩
    · exact (m2 j hj).2 (by rw [← e j hj]; exact hw)
    · exact hne rfl
/-- an object of exactly C is an instance of C -/
theorem cinst {p : Program} {l : Launch} {e : Env} {R : Room} {s : State} {m : MethodId} {args : Array Value} {below : List Frame} {meth : Method} {c : Code} {T : State} {locs : List Loc} {cells slots : Nat} (X : Stand p l e R s m args below meth c T locs cells slots) (hexec : p.tables.exec = Jvm.exec) {own C : String} {index : Nat} (hown : s.vm.findClass own = some m.cls) (hlink : (Cond.classLink own index C).before args s = true) {a : Addr} (hE : Exact C a T)
    {g : JFrame} (hg : g.method = m) {rest : List Value} (hstack : g.stack = .ref a :: rest) (hdg : decode c.code g.pc = .ok (.instanceof index, 3)) :
    ∃ T', Stand p l e R s m args below meth c T' locs cells slots ∧ T'.heap = T.heap ∧ ∀ target, Steps p.tables e below (T'.setTop { g with pc := g.pc + 3, stack := .int 1 :: rest }) target → Steps p.tables e below (T.setTop g) target := by
  obtain ⟨cB, h1, D, h2, h3, h4⟩ := hE
  have h1' : s.vm.findClass C = some cB := by rw [← X.warmed.alike.findClass]; exact h1
  obtain ⟨vm', X', st⟩ := X.instanceofYes hexec hown hlink h2 h4 h1' (by rw [h3]; exact Jvm.Free.SB.assignable_self _ _) hg hstack hdg
  exact ⟨_, X', rfl, st⟩
theorem cself {p : Program} {l : Launch} {e : Env} {R : Room} {s : State} {m : MethodId} {args : Array Value} {below : List Frame} {meth : Method} {c : Code} {T : State} {locs : List Loc} {cells slots : Nat} (X : Stand p l e R s m args below meth c T locs cells slots) (hexec : p.tables.exec = Jvm.exec) {own C : String} {index : Nat} (hown : s.vm.findClass own = some m.cls) (hlink : (Cond.classLink own index C).before args s = true) {a : Addr} (hE : Exact C a T)
    {g : JFrame} (hg : g.method = m) {rest : List Value} (hstack : g.stack = .ref a :: rest) (hdg : decode c.code g.pc = .ok (.checkcast index, 3)) :
    ∃ T', Stand p l e R s m args below meth c T' locs cells slots ∧ T'.heap = T.heap ∧ ∀ target, Steps p.tables e below (T'.setTop { g with pc := g.pc + 3, stack := .ref a :: rest }) target → Steps p.tables e below (T.setTop g) target := by
  obtain ⟨cB, h1, D, h2, h3, h4⟩ := hE
  have h1' : s.vm.findClass C = some cB := by rw [← X.warmed.alike.findClass]; exact h1
  obtain ⟨vm', X', st⟩ := X.checkcastYes hexec hown hlink h2 h4 h1' (by rw [h3]; exact Jvm.Free.SB.assignable_self _ _) hg hstack hdg
  exact ⟨_, X', rfl, fun t h => st t (by rw [← hstack] at h; exact h)⟩
namespace SEq
def yN : MethodName := ⟨"java/lang/String", "equals", "(Ljava/lang/Object;)Z"⟩
abbrev yB : ByteArray := jdk_42_method_66_code
theorem d0 : decode yB 0 = .ok (.aload_n 0, 1) := by decide +kernel
theorem d1 : decode yB 1 = .ok (.aload_n 1, 1) := by decide +kernel
theorem d2 : decode yB 2 = .ok (.if_acmp (.ne) 5, 3) := by decide +kernel
theorem d5 : decode yB 5 = .ok (.iconst 1, 1) := by decide +kernel
theorem d6 : decode yB 6 = .ok (.ireturn, 1) := by decide +kernel
theorem d7 : decode yB 7 = .ok (.aload_n 1, 1) := by decide +kernel
theorem d8 : decode yB 8 = .ok (.instanceof 10, 3) := by decide +kernel
theorem d11 : decode yB 11 = .ok (.ifCond (.eq) 43, 3) := by decide +kernel
theorem d14 : decode yB 14 = .ok (.aload_n 1, 1) := by decide +kernel
theorem d15 : decode yB 15 = .ok (.checkcast 10, 3) := by decide +kernel
theorem d18 : decode yB 18 = .ok (.astore_n 2, 1) := by decide +kernel
theorem d19 : decode yB 19 = .ok (.getstatic 38, 3) := by decide +kernel
theorem d22 : decode yB 22 = .ok (.ifCond (.eq) 14, 3) := by decide +kernel
theorem d25 : decode yB 25 = .ok (.aload_n 0, 1) := by decide +kernel
theorem d26 : decode yB 26 = .ok (.getfield 15, 3) := by decide +kernel
theorem d29 : decode yB 29 = .ok (.aload_n 2, 1) := by decide +kernel
theorem d30 : decode yB 30 = .ok (.getfield 15, 3) := by decide +kernel
theorem d33 : decode yB 33 = .ok (.if_icmp (.ne) 21, 3) := by decide +kernel
theorem d36 : decode yB 36 = .ok (.aload_n 0, 1) := by decide +kernel
theorem d37 : decode yB 37 = .ok (.getfield 9, 3) := by decide +kernel
theorem d40 : decode yB 40 = .ok (.aload_n 2, 1) := by decide +kernel
theorem d41 : decode yB 41 = .ok (.getfield 9, 3) := by decide +kernel
theorem d44 : decode yB 44 = .ok (.invokestatic 541, 3) := by decide +kernel
theorem d47 : decode yB 47 = .ok (.ifCond (.eq) 7, 3) := by decide +kernel
theorem d50 : decode yB 50 = .ok (.iconst 1, 1) := by decide +kernel
theorem d51 : decode yB 51 = .ok (.goto 4, 3) := by decide +kernel
theorem d54 : decode yB 54 = .ok (.iconst 0, 1) := by decide +kernel
theorem d55 : decode yB 55 = .ok (.ireturn, 1) := by decide +kernel
def site : List Cond := [.classLink "java/lang/String" 10 "java/lang/String", .fieldLink "java/lang/String" 38 "java/lang/String" "COMPACT_STRINGS" "Z", .fieldLink "java/lang/String" 15 "java/lang/String" "coder" "B", .fieldLink "java/lang/String" 9 "java/lang/String" "value" "[B", LEq.tab] ++ staticW "java/lang/String" 541 LEq.yN
def tab : Cond := tabOf yN yB 3 (some .boolean) site
def P (x t : Addr) (V : Cell) (cd : Int32) (n : Nat) (f : Nat → Int32) (y t' : Addr) (V' : Cell) (cd' : Int32) (k : Nat) (g : Nat → Int32) (z : Int32) (args : Array Value) (s : State) : Prop := args = #[.ref x, .ref y] ∧ Txt x t V cd n f s ∧ Txt y t' V' cd' k g s ∧ StaticIs s "java/lang/String" "COMPACT_STRINGS" "Z" (.int z) ∧ ¬ z = 0
/-- equals(Object) of two Strings: whether the texts are the same -/
theorem law (l : Launch) (x t : Addr) (V : Cell) (cd : Int32) (n : Nat) (f : Nat → Int32) (y t' : Addr) (V' : Cell) (cd' : Int32) (k : Nat) (g : Nat → Int32) (z : Int32) : Law l yN 2 1 1 14 yB 3 (some .boolean) site (P x t V cd n f y t' V' cd' k g z) (Says01 (SameT n f k g)) [] 0 0 := by
  refine Law.of_walk (plainFor_of_name (by decide +kernel)) (by decide +kernel) (by decide +kernel) (by decide) (fun _ _ h => by rw [h.1]; rfl) (fun _ U U' hal hh h => ⟨h.1, h.2.1.mv hal hh, h.2.2.1.mv hal hh, h.2.2.2.1.there hal hh, h.2.2.2.2⟩) (fun r U U' V V' h1 hal h2 h => Says01.mv r U U' V V' h1 hal h2 h) ?_
  intro p e s m args below meth c s₁ X0 hexec hbytes hml hret hlk hnm hown hh0 W hP
  obtain ⟨rfl, hx, hy, s1, hz⟩ := hP
  have c1 : Steps p.tables e below (s₁.setTop (entryFrame m #[.ref x, .ref y] 3)) (s₁.setTop (mkF m 2 #[.val (.ref x), .val (.ref y), .unset] [.ref y, .ref x])) := Steps.trans (entry rfl) (by
    show Steps p.tables e below (s₁.setTop (mkF m 0 #[.val (.ref x), .val (.ref y), .unset] [])) _
    refine XS.aloadN X0.here hexec rfl (hb hbytes d0) rfl rfl ?_
    refine XS.aloadN X0.here hexec rfl (hb hbytes d1) rfl rfl ?_
    exact Steps.refl _)
  by_cases hxy : x = y
  · have c2 : Steps p.tables e below (s₁.setTop (entryFrame m #[.ref x, .ref y] 3)) (s₁.setTop (mkF m 6 #[.val (.ref x), .val (.ref y), .unset] [.int 1])) := c1.trans (by
      refine acmpNo X0.here hexec rfl (hb hbytes d2) rfl rfl rfl (by simp [acmp, hxy]) ?_
      refine iconstV X0.here hexec rfl 1 (hb hbytes d5) (by decide) ?_
      exact Steps.refl _)
    subst hxy
    have ec : cd = cd' := by
      obtain ⟨D, fd, a1, a2, a3⟩ := hx.2.2.1
      obtain ⟨D', fd', b1, b2, b3⟩ := hy.2.2.1
      cases a1.symm.trans b1
      obtain ⟨q1, q2, q3, q4⟩ := a2.1
      obtain ⟨r1, r2, r3, r4⟩ := b2.1
      cases q4.symm.trans r4
      cases a3.symm.trans b3; rfl
    have et : t = t' := by
      obtain ⟨D, fd, a1, a2, a3⟩ := hx.2.1
      obtain ⟨D', fd', b1, b2, b3⟩ := hy.2.1
      cases a1.symm.trans b1
      obtain ⟨q1, q2, q3, q4⟩ := a2.1
      obtain ⟨r1, r2, r3, r4⟩ := b2.1
      cases q4.symm.trans r4
      cases a3.symm.trans b3; rfl
    subst ec et
    have ev : V = V' := by cases hx.2.2.2.1.1.symm.trans hy.2.2.2.1.1; rfl
    subst ev
    have hs : SameT n f k g := (Cod.eqv hx.2.2.2.2.1 hy.2.2.2.2.1 hx.2.2.2.2.2 hy.2.2.2.2.2).mp ⟨rfl, fun _ _ => rfl⟩
    exact ⟨s₁, some (.int 1), _, _, _, X0, rfl, rfl, rfl, (fun h => by cases h), ⟨1, rfl, hh0, Or.inl ⟨rfl, hs⟩⟩, fun fs hl => c2.trans (X0.ireturnOut hexec hret rfl (Or.inr (Or.inl rfl)) (hb hbytes d6) hl)⟩
  · have c2 : Steps p.tables e below (s₁.setTop (entryFrame m #[.ref x, .ref y] 3)) (s₁.setTop (mkF m 8 #[.val (.ref x), .val (.ref y), .unset] [.ref y])) := c1.trans (by
      refine acmpYes X0.here hexec rfl (pc0 := 2) rfl (hb hbytes d2) rfl rfl rfl (by simp [acmp, hxy]) (by decide) rfl ?_
      refine XS.aloadN X0.here hexec rfl (hb hbytes d7) rfl rfl ?_
      exact Steps.refl _)
    obtain ⟨T3, X3, q3, st3⟩ := cinst X0 hexec hown (wk W (.classLink "java/lang/String" 10 "java/lang/String")) (hy.mv X0.warmed.alike hh0).1 (g := (mkF m 8 #[.val (.ref x), .val (.ref y), .unset] [.ref y])) rfl (rest := []) rfl (hb hbytes d8)
    have hh3 := q3.trans hh0
    have c4 : Steps p.tables e below (s₁.setTop (entryFrame m #[.ref x, .ref y] 3)) (T3.setTop (mkF m 15 #[.val (.ref x), .val (.ref y), .unset] [.ref y])) := (c2.trans (st3 _ (Steps.refl _))).trans (by
      refine XS.ifNo X3.here hexec rfl (hb hbytes d11) rfl (i0_eq_f (by decide)) ?_
      refine XS.aloadN X3.here hexec rfl (hb hbytes d14) rfl rfl ?_
      exact Steps.refl _)
    obtain ⟨T5, X5, q5, st5⟩ := cself X3 hexec hown (wk W (.classLink "java/lang/String" 10 "java/lang/String")) (hy.mv X3.warmed.alike hh3).1 (g := (mkF m 15 #[.val (.ref x), .val (.ref y), .unset] [.ref y])) rfl (rest := []) rfl (hb hbytes d15)
    have hh5 := q5.trans hh3
    have c6 : Steps p.tables e below (s₁.setTop (entryFrame m #[.ref x, .ref y] 3)) (T5.setTop (mkF m 19 #[.val (.ref x), .val (.ref y), .val (.ref y)] [])) := (c4.trans (st5 _ (Steps.refl _))).trans (by
      refine XS.astoreN X5.here hexec rfl (hb hbytes d18) rfl rfl rfl ?_
      exact Steps.refl _)
    obtain ⟨T7, X7, q7, st7⟩ := X5.sget hexec hown (wk W (.fieldLink "java/lang/String" 38 "java/lang/String" "COMPACT_STRINGS" "Z")) s1 (fun _ _ h => by rw [hh5]; exact h) (g := (mkF m 19 #[.val (.ref x), .val (.ref y), .val (.ref y)] [])) rfl (hb hbytes d19)
    have hh7 := q7.trans hh5
    have c8 : Steps p.tables e below (s₁.setTop (entryFrame m #[.ref x, .ref y] 3)) (T7.setTop (mkF m 26 #[.val (.ref x), .val (.ref y), .val (.ref y)] [.ref x])) := (c6.trans (st7 _ (Steps.refl _))).trans (by
      refine XS.ifNo X7.here hexec rfl (hb hbytes d22) rfl (i0_eq_f hz) ?_
      refine XS.aloadN X7.here hexec rfl (hb hbytes d25) rfl rfl ?_
      exact Steps.refl _)
    obtain ⟨T9, X9, q9, st9⟩ := X7.hget hexec hown (wk W (.fieldLink "java/lang/String" 15 "java/lang/String" "coder" "B")) (hx.mv X7.warmed.alike hh7).2.2.1 (g := (mkF m 26 #[.val (.ref x), .val (.ref y), .val (.ref y)] [.ref x])) rfl (rest := []) rfl (hb hbytes d26)
    have hh9 := q9.trans hh7
    have c10 : Steps p.tables e below (s₁.setTop (entryFrame m #[.ref x, .ref y] 3)) (T9.setTop (mkF m 30 #[.val (.ref x), .val (.ref y), .val (.ref y)] [.ref y, .int cd])) := (c8.trans (st9 _ (Steps.refl _))).trans (by
      refine XS.aloadN X9.here hexec rfl (hb hbytes d29) rfl rfl ?_
      exact Steps.refl _)
    obtain ⟨T11, X11, q11, st11⟩ := X9.hget hexec hown (wk W (.fieldLink "java/lang/String" 15 "java/lang/String" "coder" "B")) (hy.mv X9.warmed.alike hh9).2.2.1 (g := (mkF m 30 #[.val (.ref x), .val (.ref y), .val (.ref y)] [.ref y, .int cd])) rfl (rest := [.int cd]) rfl (hb hbytes d30)
    have hh11 := q11.trans hh9
    have c12 : Steps p.tables e below (s₁.setTop (entryFrame m #[.ref x, .ref y] 3)) (T11.setTop (mkF m 33 #[.val (.ref x), .val (.ref y), .val (.ref y)] [.int cd', .int cd])) := c10.trans (st11 _ (Steps.refl _))
    by_cases hcd : cd = cd'
    · subst hcd
      have c13 : Steps p.tables e below (s₁.setTop (entryFrame m #[.ref x, .ref y] 3)) (T11.setTop (mkF m 37 #[.val (.ref x), .val (.ref y), .val (.ref y)] [.ref x])) := c12.trans (by
        refine XS.icmpNo X11.here hexec rfl (hb hbytes d33) rfl (ii_ne_f rfl) ?_
        refine XS.aloadN X11.here hexec rfl (hb hbytes d36) rfl rfl ?_
        exact Steps.refl _)
      obtain ⟨T14, X14, q14, st14⟩ := X11.hget hexec hown (wk W (.fieldLink "java/lang/String" 9 "java/lang/String" "value" "[B")) (hx.mv X11.warmed.alike hh11).2.1 (g := (mkF m 37 #[.val (.ref x), .val (.ref y), .val (.ref y)] [.ref x])) rfl (rest := []) rfl (hb hbytes d37)
      have hh14 := q14.trans hh11
      have c15 : Steps p.tables e below (s₁.setTop (entryFrame m #[.ref x, .ref y] 3)) (T14.setTop (mkF m 41 #[.val (.ref x), .val (.ref y), .val (.ref y)] [.ref y, .ref t])) := (c13.trans (st14 _ (Steps.refl _))).trans (by
        refine XS.aloadN X14.here hexec rfl (hb hbytes d40) rfl rfl ?_
        exact Steps.refl _)
      obtain ⟨T16, X16, q16, st16⟩ := X14.hget hexec hown (wk W (.fieldLink "java/lang/String" 9 "java/lang/String" "value" "[B")) (hy.mv X14.warmed.alike hh14).2.1 (g := (mkF m 41 #[.val (.ref x), .val (.ref y), .val (.ref y)] [.ref y, .ref t])) rfl (rest := [.ref t]) rfl (hb hbytes d41)
      have hh16 := q16.trans hh14
      have c17 : Steps p.tables e below (s₁.setTop (entryFrame m #[.ref x, .ref y] 3)) (T16.setTop (mkF m 44 #[.val (.ref x), .val (.ref y), .val (.ref y)] [.ref t', .ref t])) := c15.trans (st16 _ (Steps.refl _))
      obtain ⟨v18, T18, X18, E18, g18⟩ := X16.callS hexec (LEq.law l t V t' V') hown (wks W (staticW "java/lang/String" 541 LEq.yN)) (wk W LEq.tab) (W := 0) (Nat.le_of_ble_eq_true rfl) (Nat.le_of_ble_eq_true rfl) (Nat.le_refl _) (Nat.le_refl _) (g := (mkF m 44 #[.val (.ref x), .val (.ref y), .val (.ref y)] [.ref t', .ref t])) rfl (by rw [hml]; rfl) c17 (argsL := [.ref t, .ref t']) (rest := []) rfl rfl (by show 2 * 0 + 0 ≤ _; decide) (hb hbytes d44) (⟨rfl, hx.2.2.2.1.mv X16.warmed.alike hh16, hx.2.2.2.2.1.ty, hy.2.2.2.1.mv X16.warmed.alike hh16, hy.2.2.2.2.1.ty⟩)
      obtain ⟨v, rfl, q18, hv⟩ := E18
      have iff := Cod.eqv hx.2.2.2.2.1 hy.2.2.2.2.1 hx.2.2.2.2.2 hy.2.2.2.2.2
      rcases hv with ⟨rfl, he⟩ | ⟨rfl, he⟩
      · have c19 : Steps p.tables e below (s₁.setTop (entryFrame m #[.ref x, .ref y] 3)) (T18.setTop (mkF m 55 #[.val (.ref x), .val (.ref y), .val (.ref y)] [.int 1])) := Steps.trans g18 (by
          refine XS.ifNo X18.here hexec rfl (hb hbytes d47) rfl (i0_eq_f (by decide)) ?_
          refine iconstV X18.here hexec rfl 1 (hb hbytes d50) (by decide) ?_
          refine XS.goto X18.here hexec rfl (pc0 := 51) rfl (hb hbytes d51) (by decide) rfl ?_
          exact Steps.refl _)
        exact ⟨T18, some (.int 1), _, _, _, X18, rfl, rfl, rfl, (fun h => by cases h), ⟨1, rfl, q18.trans hh16, Or.inl ⟨rfl, iff.mp he⟩⟩, fun fs hl => c19.trans (X18.ireturnOut hexec hret rfl (Or.inr (Or.inl rfl)) (hb hbytes d55) hl)⟩
      · have c19 : Steps p.tables e below (s₁.setTop (entryFrame m #[.ref x, .ref y] 3)) (T18.setTop (mkF m 55 #[.val (.ref x), .val (.ref y), .val (.ref y)] [.int 0])) := Steps.trans g18 (by
          refine XS.ifYes X18.here hexec rfl (pc0 := 47) rfl (hb hbytes d47) rfl (i0_eq_t rfl) (by decide) rfl ?_
          refine iconstV X18.here hexec rfl 0 (hb hbytes d54) (by decide) ?_
          exact Steps.refl _)
        exact ⟨T18, some (.int 0), _, _, _, X18, rfl, rfl, rfl, (fun h => by cases h), ⟨0, rfl, q18.trans hh16, Or.inr ⟨rfl, fun q => he (iff.mpr q)⟩⟩, fun fs hl => c19.trans (X18.ireturnOut hexec hret rfl (Or.inr (Or.inl rfl)) (hb hbytes d55) hl)⟩
    · have c13 : Steps p.tables e below (s₁.setTop (entryFrame m #[.ref x, .ref y] 3)) (T11.setTop (mkF m 55 #[.val (.ref x), .val (.ref y), .val (.ref y)] [.int 0])) := c12.trans (by
        refine XS.icmpYes X11.here hexec rfl (pc0 := 33) rfl (hb hbytes d33) rfl (ii_ne_t hcd) (by decide) rfl ?_
        refine iconstV X11.here hexec rfl 0 (hb hbytes d54) (by decide) ?_
        exact Steps.refl _)
      exact ⟨T11, some (.int 0), _, _, _, X11, rfl, rfl, rfl, (fun h => by cases h), ⟨0, rfl, hh11, Or.inr ⟨rfl, Cod.dif hx.2.2.2.2.1 hy.2.2.2.2.1 hcd⟩⟩, fun fs hl => c13.trans (X11.ireturnOut hexec hret rfl (Or.inr (Or.inl rfl)) (hb hbytes d55) hl)⟩
theorem pays {l : Launch} {R : Room} {p : Program} {e : Env} {below : List Frame} {s : State} {sargs : Array Value} {len W : Nat} (x t : Addr) (V : Cell) (cd : Int32) (n : Nat) (f : Nat → Int32) (y t' : Addr) (V' : Cell) (cd' : Int32) (k : Nat) (g : Nat → Int32) (z : Int32) (htab : tab.before sargs s = true) (hfr : 2 ≤ R.frames) (hlo : W + 28 ≤ R.locals) :
    Back l R p e below s sargs yN len W (fun A₁ a₁ => A₁.cells + 0 ≤ R.cells ∧ A₁.slots + 0 ≤ R.slots ∧ P x t V cd n f y t' V' cd' k g z a₁ A₁.U) (fun A₁ _ v₁ B₁ => Says01 (SameT n f k g) v₁ A₁.U B₁.U ∧ B₁.locs = A₁.locs ++ [] ∧ B₁.cells = A₁.cells + 0 ∧ B₁.slots = A₁.slots + 0) :=
  (law l x t V cd n f y t' V' cd' k g z).pays htab hfr (by omega)
end SEq
end StrChars
namespace StrChars.Road
open Jvm Sem ClassFile Op Lib Jvm.Stand Jvm.Free Jvm.Free.XT
open Jvm.Lib.Cold (StaticIs)
/-- the words of String.equals(Object) -/
abbrev wordsEq : List Jvm.Cond := [.code SEq.yN SEq.yB 3 (some .boolean), .initialized ST, .classLink ST 10 ST, .fieldLink ST 38 ST "COMPACT_STRINGS" "Z", .fieldLink ST 15 ST "coder" "B", .fieldLink ST 9 ST "value" "[B", .methodLink ST 541 LEq.yN, .static LEq.yN, .code LEq.yN LEq.yB 3 (some .boolean), .initialized "java/lang/StringLatin1"]
theorem tabEq_of {a : Array Value} {s : State} (h : ∀ w ∈ wordsEq, w.before a s = true) : SEq.tab.before a s = true := by
  have hl : LEq.tab.before a s = true := unparts (wk h (.code LEq.yN LEq.yB 3 (some .boolean))) (wks h (.initialized LEq.yN.cls :: LEq.site))
  have q := consq hl h
  exact unparts (wk q (.code SEq.yN SEq.yB 3 (some .boolean))) (wks q (.initialized SEq.yN.cls :: SEq.site))
theorem movedEq {Z s : State} {a0 args : Array Value} (hZ : Z.Warmed39 s.vm) (hw : ∀ d ∈ wordsEq, d.before a0 Z = true) : ∀ d ∈ wordsEq, d.before args s = true := fun d hd => by
  have t : ∀ d ∈ wordsEq, (d.onTables && d.keepsFace) = true := by decide +kernel
  exact RoadKit.mv hZ (hw d hd) (t d hd)
/-- the road's facts of a String, as the laws ask it -/
theorem txt_of {Z U : State} {a0 : Array Value} {kI : Nat} (wi : (Jvm.Cond.instantiable ST kI).before a0 Z = true) (al : Z.vm.Alike U.vm) {x t : Addr} {kb : ClassId} {cs : List Int32} {cd N2 : Int32} {vs : List Value} (E : RoadKit.Exa Z U.heap x ST) (V : RoadKit.Fld Z U.heap x ST "value" "[B" (.ref t)) (C : RoadKit.Fld Z U.heap x ST "coder" "B" (.int cd)) (K : RoadKit.Arv Z U.heap t kb .byte N2 vs (.int 0)) (hc : CodA cs cd N2 vs) (hb : ∀ c ∈ cs, ¬ c < 0 ∧ ¬ (65535 : Int32) < c) (l2 : cs.length ≤ 4000) :
    ∃ A, Txt x t A cd cs.length (fun j => cs.getD j 0) U := by
  obtain ⟨A, K1, K2, K3, K4, K5, K6⟩ := K
  have hcod := hc.cod (by omega) K3 K5
  obtain ⟨D, fV, fC, hB, F1, F2, g1, g2, -, -⟩ := strObj wi al E V C
  exact ⟨A, ⟨_, hB.2.2.1, D, hB.1, rfl, by cases q : D.vm <;> first | rfl | exact absurd q (hB.2.1.2 _)⟩, Has.of hB F1 g1, Has.of hB F2 g2, ⟨K1.1, State.isArrayOf_alike al K1.2.1, K1.2.2, by rcases hcod with ⟨-, q, -⟩ | ⟨-, q, -⟩ <;> omega⟩, hcod, fun j hj => by
    have e : cs.getD j 0 = cs[j] := by simp [List.getD_eq_getElem?_getD, hj]
    show ¬ cs.getD j 0 < 0 ∧ ¬ 65535 < cs.getD j 0
    rw [e]; exact hb _ (List.getElem_mem _)⟩
theorem same_list (cs ds : List Int32) : SameT cs.length (fun j => cs.getD j 0) ds.length (fun j => ds.getD j 0) ↔ cs = ds := by
  constructor
  · rintro ⟨e, q⟩
    refine List.ext_getElem e fun j h1 h2 => ?_
    have := q j h1
    simpa [List.getD_eq_getElem?_getD, h1, h2] using this
  · rintro rfl
    exact ⟨rfl, fun _ _ => rfl⟩
/-- **equals(Object) OF TWO SUCH STRINGS**: 1 just where the chars are the same -/
theorem eqW {p : Program} {l : Launch} {e : Env} {R : Room} {s : State} {args : Array Value} {below : List Frame} {len W : Nat} {Z : State} {a0 : Array Value} {h : Heap} (hZ : Z.Warmed39 s.vm) (hw : ∀ d ∈ wordsEq, d.before a0 Z = true) {kI : Nat} (wi : (Jvm.Cond.instantiable ST kI).before a0 Z = true)
    {x t : Addr} {kb : ClassId} {cs : List Int32} {cd N2 : Int32} {vs : List Value} (E : RoadKit.Exa Z h x ST) (V : RoadKit.Fld Z h x ST "value" "[B" (.ref t)) (C : RoadKit.Fld Z h x ST "coder" "B" (.int cd)) (K : RoadKit.Arv Z h t kb .byte N2 vs (.int 0)) (hc : CodA cs cd N2 vs) (hb : ∀ c ∈ cs, ¬ c < 0 ∧ ¬ (65535 : Int32) < c) (l2 : cs.length ≤ 4000)
    {y t' : Addr} {kb' : ClassId} {ds : List Int32} {cd' N2' : Int32} {vs' : List Value} (E' : RoadKit.Exa Z h y ST) (V' : RoadKit.Fld Z h y ST "value" "[B" (.ref t')) (C' : RoadKit.Fld Z h y ST "coder" "B" (.int cd')) (K' : RoadKit.Arv Z h t' kb' .byte N2' vs' (.int 0)) (hc' : CodA ds cd' N2' vs') (hb' : ∀ c ∈ ds, ¬ c < 0 ∧ ¬ (65535 : Int32) < c) (l2' : ds.length ≤ 4000)
    {z : Int32} (S : RoadKit.Sta Z h ST "COMPACT_STRINGS" "Z" (.int z)) (hz : ¬ z = 0) (hfr : 2 ≤ R.frames) (hlo : W + 28 ≤ R.locals) :
    Back l R p e below s args (⟨"java/lang/String", "equals", "(Ljava/lang/Object;)Z"⟩ : MethodName) len W (fun P a => a = #[.ref x, .ref y] ∧ P.U.heap = h ∧ P.cells + 0 ≤ R.cells ∧ P.slots + 0 ≤ R.slots)
      (fun P _ v B => ∃ L, (((v = some (.int 1) ∧ cs = ds) ∨ (v = some (.int 0) ∧ ¬ cs = ds)) ∧ L = [] ∧ B.U.heap = h) ∧ B.locs = P.locs ++ L ∧ B.cells = P.cells + 0 ∧ B.slots = P.slots + 0) := by
  intro m meth c P g ig mk a X hg hsize hdg hW hn hp'
  obtain ⟨rfl, rfl, r1, r2⟩ := hp'
  have al : Z.vm.Alike P.U.vm := hZ.alike.trans X.warmed.alike
  obtain ⟨A, hx⟩ := txt_of wi al E V C K hc hb l2
  obtain ⟨A', hy⟩ := txt_of wi al E' V' C' K' hc' hb' l2'
  obtain ⟨v, B, X', ⟨⟨w, hv, hh, hq⟩, hl, hk, hs⟩, st⟩ := SEq.pays x t A cd cs.length (fun j => cs.getD j 0) y t' A' cd' ds.length (fun j => ds.getD j 0) z (tabEq_of (movedEq hZ hw)) hfr hlo m meth c P g ig mk _ X hg hsize hdg hW hn ⟨r1, r2, rfl, hx, hy, sta_is al S, hz⟩
  refine ⟨v, B, X', ⟨[], ⟨?_, rfl, hh⟩, hl, hk, hs⟩, st⟩
  rcases hq with ⟨rfl, q⟩ | ⟨rfl, q⟩
  · exact Or.inl ⟨hv, (same_list cs ds).mp q⟩
  · exact Or.inr ⟨hv, fun e => q ((same_list cs ds).mpr e)⟩
end StrChars.Road
namespace StrChars
open Jvm Sem ClassFile Op Lib Jvm.Stand Jvm.Free.XT Jvm.Free.ALB Jvm.Free.JM Jvm.Free
open Jvm.Lib.Cold (StaticIs)
namespace ChN
def yN : MethodName := ⟨"java/lang/String", "charAt", "(I)C"⟩
abbrev yB : ByteArray := jdk_42_method_56_code
theorem d0 : decode yB 0 = .ok (.aload_n 0, 1) := by decide +kernel
theorem d1 : decode yB 1 = .ok (.invokevirtual 492, 3) := by decide +kernel
theorem d4 : decode yB 4 = .ok (.ifCond (.eq) 12, 3) := by decide +kernel
theorem d7 : decode yB 7 = .ok (.aload_n 0, 1) := by decide +kernel
theorem d8 : decode yB 8 = .ok (.getfield 9, 3) := by decide +kernel
theorem d11 : decode yB 11 = .ok (.iload_n 1, 1) := by decide +kernel
theorem d12 : decode yB 12 = .ok (.invokestatic 495, 3) := by decide +kernel
theorem d15 : decode yB 15 = .ok (.ireturn, 1) := by decide +kernel
def site : List Cond := [.fieldLink "java/lang/String" 9 "java/lang/String" "value" "[B", IsL.tab, LChA.tab] ++ virtW "java/lang/String" 492 "java/lang/String" IsL.yN IsL.yN ++ staticW "java/lang/String" 495 LChA.yN
def tab : Cond := tabOf yN yB 2 (some .char) site
def P (x t : Addr) (V : Cell) (n : Nat) (f : Nat → Int32) (z : Int32) (fm : Value) (i : Nat) (args : Array Value) (s : State) : Prop := args = #[.ref x, .int (Int32.ofNat i)] ∧ Txt x t V 0 n f s ∧ i < n ∧ StaticIs s "java/lang/String" "COMPACT_STRINGS" "Z" (.int z) ∧ ¬ z = 0 ∧ StaticIs s "jdk/internal/util/Preconditions" "SIOOBE_FORMATTER" "Ljava/util/function/BiFunction;" fm ∧ fm.isRef = true
def E (f : Nat → Int32) (i : Nat) (r : Option Value) (s u : State) : Prop := XT.PureE (some (.int (f i))) r s u
/-- charAt(i) of a Latin-1 String of n chars, i < n: f i -/
theorem law (l : Launch) (x t : Addr) (V : Cell) (n : Nat) (f : Nat → Int32) (z : Int32) (fm : Value) (i : Nat) : Law l yN 2 1 3 40 yB 2 (some .char) site (P x t V n f z fm i) (E f i) [] 0 0 := by
  refine Law.of_walk (plainFor_of_name (by decide +kernel)) (by decide +kernel) (by decide +kernel) (by decide) (fun _ _ h => by rw [h.1]; rfl) (fun _ U U' hal hh h => ⟨h.1, h.2.1.mv hal hh, h.2.2.1, h.2.2.2.1.there hal hh, h.2.2.2.2.1, h.2.2.2.2.2.1.there hal hh, h.2.2.2.2.2.2⟩) (fun r U U' V V' h1 hal h2 h => XT.PureE.mv r U U' V V' h1 hal h2 h) ?_
  intro p e s m args below meth c s₁ X0 hexec hbytes hml hret hlk hnm hown hh0 W hP
  obtain ⟨rfl, hx, hi, s1, hz, s3, rf⟩ := hP
  have v31 := hx.2.2.2.1.2.2.2
  have hr := hx.2.2.2.2.2 i hi
  have hx0 := hx.mv X0.warmed.alike hh0
  have c1 : Steps p.tables e below (s₁.setTop (entryFrame m #[.ref x, .int (Int32.ofNat i)] 2)) (s₁.setTop (mkF m 1 #[.val (.ref x), .val (.int (Int32.ofNat i))] [.ref x])) := Steps.trans (entry rfl) (by
    show Steps p.tables e below (s₁.setTop (mkF m 0 #[.val (.ref x), .val (.int (Int32.ofNat i))] [])) _
    refine XS.aloadN X0.here hexec rfl (hb hbytes d0) rfl rfl ?_
    exact Steps.refl _)
  obtain ⟨v2, T2, X2, E2, g2⟩ := X0.callV hexec (IsL.law l x 0 z) hown (wks W (virtW "java/lang/String" 492 "java/lang/String" IsL.yN IsL.yN)) rfl (by decide) (wk W IsL.tab) (W := 0) (Nat.le_of_ble_eq_true rfl) (Nat.le_of_ble_eq_true rfl) (Nat.le_refl _) (Nat.le_refl _) (hx0.1.fc X0.warmed.alike) hx0.1.is (g := (mkF m 1 #[.val (.ref x), .val (.int (Int32.ofNat i))] [.ref x])) rfl (by rw [hml]; rfl) c1 (argsL := []) (rest := []) rfl rfl (by show 2 * 0 + 0 ≤ _; decide) (hb hbytes d1) (⟨rfl, hx0.2.2.1, hx.2.2.2.2.1.cd, s1.there X0.warmed.alike hh0, hz⟩)
  obtain ⟨rfl, q2⟩ := E2
  have hh2 := q2.trans hh0
  have hx2 := hx.mv X2.warmed.alike hh2
  obtain ⟨-, k1, k2⟩ | ⟨k0, -⟩ := hx.2.2.2.2.1
  · have c3 : Steps p.tables e below (s₁.setTop (entryFrame m #[.ref x, .int (Int32.ofNat i)] 2)) (T2.setTop (mkF m 8 #[.val (.ref x), .val (.int (Int32.ofNat i))] [.ref x])) := Steps.trans g2 (by
      refine XS.ifNo X2.here hexec rfl (hb hbytes d4) rfl (i0_eq_f (by decide)) ?_
      refine XS.aloadN X2.here hexec rfl (hb hbytes d7) rfl rfl ?_
      exact Steps.refl _)
    obtain ⟨T4, X4, q4, st4⟩ := X2.hget hexec hown (wk W (.fieldLink "java/lang/String" 9 "java/lang/String" "value" "[B")) hx2.2.1 (g := (mkF m 8 #[.val (.ref x), .val (.int (Int32.ofNat i))] [.ref x])) rfl (rest := []) rfl (hb hbytes d8)
    have hh4 := q4.trans hh2
    have c5 : Steps p.tables e below (s₁.setTop (entryFrame m #[.ref x, .int (Int32.ofNat i)] 2)) (T4.setTop (mkF m 12 #[.val (.ref x), .val (.int (Int32.ofNat i))] [.int (Int32.ofNat i), .ref t])) := (c3.trans (st4 _ (Steps.refl _))).trans (by
      refine XS.iloadN X4.here hexec rfl (hb hbytes d11) rfl ?_
      exact Steps.refl _)
    obtain ⟨v6, T6, X6, E6, g6⟩ := X4.callS hexec (LChA.law l t V i (lo8 (f i)) fm) hown (wks W (staticW "java/lang/String" 495 LChA.yN)) (wk W LChA.tab) (W := 0) (Nat.le_of_ble_eq_true rfl) (Nat.le_of_ble_eq_true rfl) (Nat.le_refl _) (Nat.le_refl _) (g := (mkF m 12 #[.val (.ref x), .val (.int (Int32.ofNat i))] [.int (Int32.ofNat i), .ref t])) rfl (by rw [hml]; rfl) c5 (argsL := [.ref t, .int (Int32.ofNat i)]) (rest := []) rfl rfl (by show 2 * 0 + 0 ≤ _; decide) (hb hbytes d12) (⟨rfl, hx.2.2.2.1.mv X4.warmed.alike hh4, (k2 i hi).1, s3.there X4.warmed.alike hh4, rf⟩)
    obtain ⟨rfl, q6⟩ := E6
    rw [chr8_lo8 hr.1 (k2 i hi).2] at g6
    exact ⟨T6, some (.int (f i)), _, _, _, X6, rfl, rfl, rfl, (fun h => by cases h), ⟨rfl, q6.trans hh4⟩, fun fs hl => Steps.trans g6 (X6.ireturnOut hexec hret (narrow_ch hr.1 hr.2) (Or.inr (Or.inr (Or.inr (Or.inl rfl)))) (hb hbytes d15) hl)⟩
  · exact absurd k0 (by decide)
theorem pays {l : Launch} {R : Room} {p : Program} {e : Env} {below : List Frame} {s : State} {sargs : Array Value} {len W : Nat} (x t : Addr) (V : Cell) (n : Nat) (f : Nat → Int32) (z : Int32) (fm : Value) (i : Nat) (htab : tab.before sargs s = true) (hfr : 4 ≤ R.frames) (hlo : W + 53 ≤ R.locals) :
    Back l R p e below s sargs yN len W (fun A₁ a₁ => A₁.cells + 0 ≤ R.cells ∧ A₁.slots + 0 ≤ R.slots ∧ P x t V n f z fm i a₁ A₁.U) (fun A₁ _ v₁ B₁ => E f i v₁ A₁.U B₁.U ∧ B₁.locs = A₁.locs ++ [] ∧ B₁.cells = A₁.cells + 0 ∧ B₁.slots = A₁.slots + 0) :=
  (law l x t V n f z fm i).pays htab hfr (by omega)
end ChN
end StrChars
namespace StrChars.Road
open Jvm Sem ClassFile Op Lib Jvm.Stand Jvm.Free Jvm.Free.XT
open Jvm.Lib.Cold (StaticIs)
/-- the words of String.charAt(int), the Latin-1 road alone -/
abbrev wordsChN : List Jvm.Cond := [.code ChN.yN ChN.yB 2 (some .char), .initialized ST, .fieldLink ST 9 ST "value" "[B", .fieldLink ST 38 ST "COMPACT_STRINGS" "Z", .fieldLink ST 15 ST "coder" "B", .code IsL.yN IsL.yB 1 (some .boolean), .methodLink ST 492 IsL.yN, .declares IsL.yN, .selects ST IsL.yN IsL.yN, .instanceMethod IsL.yN,
  .methodLink ST 495 LChA.yN, .static LChA.yN, .code LChA.yN LChA.yB 2 (some .char), .initialized "java/lang/StringLatin1", .methodLink "java/lang/StringLatin1" 9 JO.Str_checkIndex.yN, .static JO.Str_checkIndex.yN, .code JO.Str_checkIndex.yN JO.Str_checkIndex.yB 2 none,
  .fieldLink ST 1053 "jdk/internal/util/Preconditions" "SIOOBE_FORMATTER" "Ljava/util/function/BiFunction;", .methodLink ST 1059 JC.PreCheck.yN, .static JC.PreCheck.yN, .code JC.PreCheck.yN JC.PreCheck.yB 3 (some .int), .initialized "jdk/internal/util/Preconditions"]
theorem tabChN_of {a : Array Value} {s : State} (h : ∀ w ∈ wordsChN, w.before a s = true) : ChN.tab.before a s = true := by
  have hp : JC.PreCheck.tab.before a s = true := unparts (wk h (.code JC.PreCheck.yN JC.PreCheck.yB 3 (some .int))) (wks h (.initialized JC.PreCheck.yN.cls :: JC.PreCheck.site))
  have qk := consq hp h
  have hk : JO.Str_checkIndex.tab.before a s = true := unparts (wk qk (.code JO.Str_checkIndex.yN JO.Str_checkIndex.yB 2 none)) (wks qk (.initialized JO.Str_checkIndex.yN.cls :: JO.Str_checkIndex.site))
  have ql := consq hk h
  have hl : LChA.tab.before a s = true := unparts (wk ql (.code LChA.yN LChA.yB 2 (some .char))) (wks ql (.initialized LChA.yN.cls :: LChA.site))
  have hi : IsL.tab.before a s = true := unparts (wk h (.code IsL.yN IsL.yB 1 (some .boolean))) (wks h (.initialized IsL.yN.cls :: IsL.site))
  have q := consq hi (consq hl h)
  exact unparts (wk q (.code ChN.yN ChN.yB 2 (some .char))) (wks q (.initialized ChN.yN.cls :: ChN.site))
theorem movedChN {Z s : State} {a0 args : Array Value} (hZ : Z.Warmed39 s.vm) (hw : ∀ d ∈ wordsChN, d.before a0 Z = true) : ∀ d ∈ wordsChN, d.before args s = true := fun d hd => by
  have t : ∀ d ∈ wordsChN, (d.onTables && d.keepsFace) = true := by decide +kernel
  exact RoadKit.mv hZ (hw d hd) (t d hd)
/-- **charAt(i) OF A LATIN-1 STRING**, i < n: the char -/
theorem chN {p : Program} {l : Launch} {e : Env} {R : Room} {s : State} {args : Array Value} {below : List Frame} {len W : Nat} {Z : State} {a0 : Array Value} {h : Heap} (hZ : Z.Warmed39 s.vm) (hw : ∀ d ∈ wordsChN, d.before a0 Z = true) {kI : Nat} (wi : (Jvm.Cond.instantiable ST kI).before a0 Z = true)
    {x t : Addr} {kb : ClassId} {cs : List Int32} {N2 z : Int32} {vs : List Value} {fm : Value} {i : Nat} {j : Int32} (E : RoadKit.Exa Z h x ST) (V : RoadKit.Fld Z h x ST "value" "[B" (.ref t)) (C : RoadKit.Fld Z h x ST "coder" "B" (.int 0)) (K : RoadKit.Arv Z h t kb .byte N2 vs (.int 0)) (hc : CodA cs 0 N2 vs) (hb : ∀ c ∈ cs, ¬ c < 0 ∧ ¬ (65535 : Int32) < c)
    (S : RoadKit.Sta Z h ST "COMPACT_STRINGS" "Z" (.int z)) (hz : ¬ z = 0) (F : RoadKit.Sta Z h "jdk/internal/util/Preconditions" "SIOOBE_FORMATTER" "Ljava/util/function/BiFunction;" fm) (rf : fm.isRef = true) (l2 : cs.length ≤ 4000) (hi : i < cs.length) (hj : j = Int32.ofNat i) (hfr : 4 ≤ R.frames) (hlo : W + 53 ≤ R.locals) :
    Back l R p e below s args (⟨"java/lang/String", "charAt", "(I)C"⟩ : MethodName) len W (fun P a => a = #[.ref x, .int j] ∧ P.U.heap = h ∧ P.cells + 0 ≤ R.cells ∧ P.slots + 0 ≤ R.slots)
      (fun P _ v B => ∃ L, (v = some (.int (cs.getD i 0)) ∧ L = [] ∧ B.U.heap = h) ∧ B.locs = P.locs ++ L ∧ B.cells = P.cells + 0 ∧ B.slots = P.slots + 0) := by
  subst hj
  intro m meth c P g ig mk a X hg hsize hdg hW hn hp'
  obtain ⟨rfl, rfl, r1, r2⟩ := hp'
  have al : Z.vm.Alike P.U.vm := hZ.alike.trans X.warmed.alike
  obtain ⟨A, hx⟩ := txt_of wi al E V C K hc hb l2
  obtain ⟨v, B, X', ⟨⟨hv, hh⟩, hl, hk, hs⟩, st⟩ := ChN.pays x t A cs.length (fun j => cs.getD j 0) z fm i (tabChN_of (movedChN hZ hw)) hfr hlo m meth c P g ig mk _ X hg hsize hdg hW hn ⟨r1, r2, rfl, hx, hi, sta_is al S, hz, sta_is al F, rf⟩
  exact ⟨v, B, X', ⟨[], ⟨hv, rfl, hh⟩, hl, hk, hs⟩, st⟩
end StrChars.Road
end Jvm.Pilot.@@N@@
namespace Jvm.Pilot.@@N@@
open Jvm Jvm.ClassFile Sem Op Lib Jvm.Free Jvm.Stand Jvm.LawKit Jvm.RoadKit Bundle Jvm.Pilot.@@N@@.Jvm.D
section OwnStr
variable {p : Program} {l : Launch} {e : Env} {R : Room} {args : Array Value} {below : List Frame} {Z : State} {a0 : Array Value} {h h' : Heap} {ws : List Addr} {a t : Addr} {cs ds : List Int32}
/-- the object at a is a String of the chars cs; its bytes lie at t -/
def Str (Z : State) (h : Heap) (a t : Addr) (cs : List Int32) : Prop := (∀ c ∈ cs, ¬ c < 0 ∧ ¬ (65535 : Int32) < c) ∧ cs.length ≤ 4000 ∧ Exa Z h a "java/lang/String" ∧ Fld Z h a "java/lang/String" "value" "[B" (.ref t) ∧
  ∃ (cd N2 : Int32) (vs : List Value) (kb : ClassId), Fld Z h a "java/lang/String" "coder" "B" (.int cd) ∧ Arv Z h t kb .byte N2 vs (.int 0) ∧ StrChars.Road.CodA cs cd N2 vs
theorem Str.exa (F : Str Z h a t cs) : Exa Z h a "java/lang/String" := F.2.2.1
theorem Str.lt (F : Str Z h a t cs) : a < h.size := F.2.2.1.lt
theorem Str.ltt (F : Str Z h a t cs) : t < h.size := by obtain ⟨_, _, _, _, _, _, _, _, _, A, _⟩ := F; exact A.lt
theorem Str.keep (F : Str Z h a t cs) (K : Keep h h' ws) (q : a ∉ ws) (r : t ∉ ws) : Str Z h' a t cs := by
  obtain ⟨h1, h2, h3, h4, cd, N2, vs, kb, h5, h6, h7⟩ := F
  exact ⟨h1, h2, h3.keep K, h4.keep K q, cd, N2, vs, kb, h5.keep K q, h6.keep K r, h7⟩
theorem Str.ext (F : Str Z h a t cs) (E : Ext h h') : Str Z h' a t cs := by
  obtain ⟨h1, h2, h3, h4, cd, N2, vs, kb, h5, h6, h7⟩ := F
  exact ⟨h1, h2, h3.ext E, h4.ext E, cd, N2, vs, kb, h5.ext E, h6.ext E, h7⟩
theorem up255 (h : ∀ c ∈ cs, ¬ c < 0 ∧ ¬ (255 : Int32) < c) : ∀ c ∈ cs, ¬ c < 0 ∧ ¬ (65535 : Int32) < c := fun c hc => ⟨(h c hc).1, fun q => (h c hc).2 (by rw [Int32.lt_iff_toInt_lt] at q ⊢; have e1 : (65535 : Int32).toInt = 65535 := rfl; have e2 : (255 : Int32).toInt = 255 := rfl; omega)⟩
/-- what backArv leaves is such a String -/
theorem str_of {kb : ClassId} (hp : ∀ c ∈ cs, ¬ c < 0 ∧ ¬ (255 : Int32) < c) (l2 : cs.length ≤ 4000) (E : Exa Z h a "java/lang/String") (F : Fld Z h a "java/lang/String" "value" "[B" (.ref t)) (C : Fld Z h a "java/lang/String" "coder" "B" (.int 0)) {zn : Int32} (hz : zn = Int32.ofNat cs.length) {vs : List Value} (hv : vs = cs.map fun c => Value.int (StrChars.lo8 c)) (A : Arv Z h t kb .byte zn vs (.int 0)) : Str Z h a t cs :=
  ⟨up255 hp, l2, E, F, 0, zn, vs, kb, C, A, Or.inl ⟨rfl, hz, hv, fun c hc => (hp c hc).2⟩⟩
theorem lat_and (x : Int32) : ¬ (x &&& (255 : Int32)) < 0 ∧ ¬ (255 : Int32) < (x &&& (255 : Int32)) := by
  have q := c_and x 255 (by decide)
  have e : (255 : Int32).toInt = 255 := rfl
  have z : (0 : Int32).toInt = 0 := rfl
  rw [Int32.lt_iff_toInt_lt, Int32.lt_iff_toInt_lt]; omega
theorem nar_id {c : Int32} (h0 : ¬ c < 0) (h1 : ¬ (65535 : Int32) < c) : nar .char c = c := by
  have q := c_i2c c
  have e1 : (65535 : Int32).toInt = 65535 := rfl
  have e2 : (0 : Int32).toInt = 0 := rfl
  rw [Int32.lt_iff_toInt_lt] at h0 h1
  apply Int32.toInt_inj.mp
  show c.toUInt32.toUInt16.toUInt32.toInt32.toInt = c.toInt
  omega
theorem lat_nar {c : Int32} (q : ¬ c < 0 ∧ ¬ (255 : Int32) < c) : ¬ nar .char c < 0 ∧ ¬ (255 : Int32) < nar .char c := by
  rw [nar_id q.1 (fun r => q.2 (by rw [Int32.lt_iff_toInt_lt] at r ⊢; have e1 : (65535 : Int32).toInt = 65535 := rfl; have e2 : (255 : Int32).toInt = 255 := rfl; omega))]; exact q
theorem mem2 {P : Int32 → Prop} {x : Int32} {L : List Int32} (q : P x) (r : ∀ c ∈ L, P c) : ∀ c ∈ x :: L, P c := fun c hc => (List.mem_cons.mp hc).elim (fun u => u ▸ q) (r c)
theorem mem0 {P : Int32 → Prop} : ∀ c ∈ ([] : List Int32), P c := fun _ q => nomatch q
/-- new String(char[]), 1 to 4,000 chars, each 0 to 255 -/
theorem payNew {W n : Nat} (hws : ∀ d ∈ StrChars.Road.words, d.before a0 Z = true) (wi : (Jvm.Cond.instantiable "java/lang/String" 4).before a0 Z = true) {x b : Addr} {kC : ClassId} {dv v0 c0 : Value} {z N : Int32} (E : Exa Z h x "java/lang/String") (V : Fld Z h x "java/lang/String" "value" "[B" v0) (C : Fld Z h x "java/lang/String" "coder" "B" c0) (K : Arv Z h b kC .char N (cs.map Value.int) dv)
    (S : Sta Z h "java/lang/String" "COMPACT_STRINGS" "Z" (.int z)) (hz : ¬ z = 0) (hn : cs.length = n) (hN : N = Int32.ofNat n) (l0 : 0 < n) (l2 : n ≤ 4000) (hp : ∀ c ∈ cs, ¬ c < 0 ∧ ¬ (255 : Int32) < c) (hfr : 4 ≤ R.frames) (hlo : W + 65 ≤ R.locals) :
    PayN l R p e below args Z (⟨"java/lang/String", "<init>", "([C)V"⟩ : MethodName) W #[.ref x, .ref b] h 1 n [x] (fun v h' => v = none ∧ ∃ t, @Eq Nat t h.size ∧ h'.size > t ∧ Str Z h' x t cs) := fun s hZ => by
  subst hn hN
  refine Back.mono (StrChars.Road.backArv hZ hws wi E V C K S hz (Int32.toNatClampNeg_ofNat_of_lt (by omega)) l0 (by omega) (fun c hc => (hp c hc).2) hfr hlo) (fun P a hp => hp) (fun P a v B hp' hq => ?_)
  obtain ⟨L, ⟨q1, q2, q3, q4, q5, q6, q7, ⟨kb, v1, v2⟩, q9⟩, hl, hc, hs⟩ := hq
  exact ⟨L, ⟨⟨q1, h.size, rfl, (by show h.size < _; omega), str_of hp l2 q5 q6 q7 rfl rfl v2⟩, fun y hy => Or.inl (by rw [q2 y hy]; exact List.mem_singleton.mpr rfl), q3⟩, hl, hc, hs⟩
theorem payLen {W : Nat} (hws : ∀ d ∈ StrChars.Road.wordsLen, d.before a0 Z = true) (wi : (Jvm.Cond.instantiable "java/lang/String" 4).before a0 Z = true) {x : Addr} {z : Int32} (F : Str Z h x t cs) (S : Sta Z h "java/lang/String" "COMPACT_STRINGS" "Z" (.int z)) (hz : ¬ z = 0) (hfr : 2 ≤ R.frames) (hlo : W + 25 ≤ R.locals) :
    PayN l R p e below args Z (⟨"java/lang/String", "length", "()I"⟩ : MethodName) W #[.ref x] h 0 0 [] (fun v h' => v = some (.int (Int32.ofNat cs.length)) ∧ h = h') := fun s hZ => by
  obtain ⟨h1, h2, h3, h4, cd, N2, vs, kb, h5, h6, h7⟩ := F
  refine Back.mono (StrChars.Road.lenW hZ hws wi h3 h4 h5 h6 h7 h1 S hz h2 hfr hlo) (fun P a hp => hp) (fun P a v B hp' hq => ?_)
  obtain ⟨L, ⟨q1, rfl, q3⟩, hl, hc, hs⟩ := hq
  exact ⟨[], ⟨⟨q1, q3.symm⟩, (fun y hy => nomatch hy), by rw [q3]; exact Keep.refl _ _⟩, hl, hc, hs⟩
theorem payEq {W : Nat} (hws : ∀ d ∈ StrChars.Road.wordsEq, d.before a0 Z = true) (wi : (Jvm.Cond.instantiable "java/lang/String" 4).before a0 Z = true) {x y t' : Addr} {z : Int32} (F : Str Z h x t cs) (G : Str Z h y t' ds) (S : Sta Z h "java/lang/String" "COMPACT_STRINGS" "Z" (.int z)) (hz : ¬ z = 0) (hfr : 2 ≤ R.frames) (hlo : W + 28 ≤ R.locals) :
    PayN l R p e below args Z (⟨"java/lang/String", "equals", "(Ljava/lang/Object;)Z"⟩ : MethodName) W #[.ref x, .ref y] h 0 0 [] (fun v h' => v = some (.int (if cs = ds then 1 else 0)) ∧ h = h') := fun s hZ => by
  obtain ⟨h1, h2, h3, h4, cd, N2, vs, kb, h5, h6, h7⟩ := F
  obtain ⟨g1, g2, g3, g4, cd', N2', vs', kb', g5, g6, g7⟩ := G
  refine Back.mono (StrChars.Road.eqW hZ hws wi h3 h4 h5 h6 h7 h1 h2 g3 g4 g5 g6 g7 g1 g2 S hz hfr hlo) (fun P a hp => hp) (fun P a v B hp' hq => ?_)
  obtain ⟨L, ⟨q1, rfl, q3⟩, hl, hc, hs⟩ := hq
  refine ⟨[], ⟨⟨?_, q3.symm⟩, (fun y hy => nomatch hy), by rw [q3]; exact Keep.refl _ _⟩, hl, hc, hs⟩
  rcases q1 with ⟨q, r⟩ | ⟨q, r⟩
  · rw [if_pos r]; exact q
  · rw [if_neg r]; exact q
theorem payEqY {W : Nat} (q : cs = ds) (hws : ∀ d ∈ StrChars.Road.wordsEq, d.before a0 Z = true) (wi : (Jvm.Cond.instantiable "java/lang/String" 4).before a0 Z = true) {x y t' : Addr} {z : Int32} (F : Str Z h x t cs) (G : Str Z h y t' ds) (S : Sta Z h "java/lang/String" "COMPACT_STRINGS" "Z" (.int z)) (hz : ¬ z = 0) (hfr : 2 ≤ R.frames) (hlo : W + 28 ≤ R.locals) :
    PayN l R p e below args Z (⟨"java/lang/String", "equals", "(Ljava/lang/Object;)Z"⟩ : MethodName) W #[.ref x, .ref y] h 0 0 [] (fun v h' => v = some (.int 1) ∧ h = h') := by
  have := payEq (l := l) (p := p) (e := e) (below := below) (args := args) hws wi F G S hz hfr hlo
  rw [if_pos q] at this; exact this
theorem payEqN {W : Nat} (q : ¬ cs = ds) (hws : ∀ d ∈ StrChars.Road.wordsEq, d.before a0 Z = true) (wi : (Jvm.Cond.instantiable "java/lang/String" 4).before a0 Z = true) {x y t' : Addr} {z : Int32} (F : Str Z h x t cs) (G : Str Z h y t' ds) (S : Sta Z h "java/lang/String" "COMPACT_STRINGS" "Z" (.int z)) (hz : ¬ z = 0) (hfr : 2 ≤ R.frames) (hlo : W + 28 ≤ R.locals) :
    PayN l R p e below args Z (⟨"java/lang/String", "equals", "(Ljava/lang/Object;)Z"⟩ : MethodName) W #[.ref x, .ref y] h 0 0 [] (fun v h' => v = some (.int 0) ∧ h = h') := by
  have := payEq (l := l) (p := p) (e := e) (below := below) (args := args) hws wi F G S hz hfr hlo
  rw [if_neg q] at this; exact this
theorem payCh {W : Nat} (hws : ∀ d ∈ StrChars.Road.wordsChN, d.before a0 Z = true) (wi : (Jvm.Cond.instantiable "java/lang/String" 4).before a0 Z = true) {x : Addr} {z : Int32} (F : Str Z h x t cs) (hl : ∀ c ∈ cs, ¬ (255 : Int32) < c) (S : Sta Z h "java/lang/String" "COMPACT_STRINGS" "Z" (.int z)) (hz : ¬ z = 0) {fm : Value} (S2 : Sta Z h "jdk/internal/util/Preconditions" "SIOOBE_FORMATTER" "Ljava/util/function/BiFunction;" fm) (rf : fm.isRef = true) {i : Nat} {j : Int32} (hi : i < cs.length) (hj : j = Int32.ofNat i) (hfr : 4 ≤ R.frames) (hlo : W + 53 ≤ R.locals) :
    PayN l R p e below args Z (⟨"java/lang/String", "charAt", "(I)C"⟩ : MethodName) W #[.ref x, .int j] h 0 0 [] (fun v h' => v = some (.int (cs.getD i 0)) ∧ h = h') := fun s hZ => by
  obtain ⟨h1, h2, h3, h4, cd, N2, vs, kb, h5, h6, h7⟩ := F
  have hcd : cd = 0 := by
    rcases h7 with ⟨q, -⟩ | ⟨-, -, -, c, hc, hb⟩
    · exact q
    · exact absurd hb (hl c hc)
  subst hcd
  refine Back.mono (StrChars.Road.chN hZ hws wi h3 h4 h5 h6 h7 h1 S hz S2 rf h2 hi hj hfr hlo) (fun P a hp => hp) (fun P a v B hp' hq => ?_)
  obtain ⟨L, ⟨q1, rfl, q3⟩, hl, hc, hs⟩ := hq
  exact ⟨[], ⟨⟨q1, q3.symm⟩, (fun y hy => nomatch hy), by rw [q3]; exact Keep.refl _ _⟩, hl, hc, hs⟩
end OwnStr
end Jvm.Pilot.@@N@@
namespace Jvm.Pilot.@@N@@
open Jvm Jvm.ClassFile Sem Op Lib Jvm.Free Jvm.Stand Jvm.LawKit Jvm.RoadKit Bundle Jvm.Pilot.@@N@@.Jvm.D
section OwnLit
variable {p : Program} {l : Launch} {e : Env} {R : Room} {s : State} {m : MethodId} {args : Array Value} {below : List Frame} {meth : Method} {c : Code} {T T' : State} {cells slots cells' slots' : Nat} {Z : State} {a0 : Array Value} {h h' : Heap} {own : String} {ws ws' : List Addr} {V V' : Vm → Prop} {g : JFrame}
/-- the entry is resolved to the String at a -/
def Lv (Z : State) (own : String) (index : Nat) (a : Addr) (vm : Vm) : Prop := Lit (Z.setVm vm) own index a
theorem Lv.stab {index : Nat} {a : Addr} {U : State} {vm1 : Vm} (hW : U.Warmed39 vm1) (L : Lv Z own index a U.vm) : Lv Z own index a vm1 :=
  Lit.stays (s := Z) (vm0 := U.vm) (vm1 := vm1) L hW
theorem ib_stab {Ts : List String} {U : State} {vm1 : Vm} (hW : U.WarmedH vm1) (I : IB Z U.vm Ts) : IB Z vm1 Ts := by
  obtain ⟨more, e, q⟩ := I
  exact ⟨more, by rw [hW.interned_eq]; exact e, q⟩
/-- the first load of a text -/
theorem Hs.ldcV (H : Hs p l e R s m args below meth c Z own [] V T h cells slots) {Ts : List String} {P : Vm → Prop} (hI : ∀ vm, V vm → IB Z vm Ts ∧ P vm) (hP : ∀ (U : State) (vm1 : Vm), U.Warmed39 vm1 → P U.vm → P vm1) {text : String} {index : Nat} (w : (Jvm.Cond.stringLink own index text).before a0 Z = true) (wS : ∀ a ∈ Bundle.stringAtoms, a.before a0 Z = true)
    (hnot : text ∉ Ts) (hh : Jvm.Lit.constHeld Z own index) (hcw : Jvm.Lit.compactW.before a0 Z = true) {cs : List Int32} (hlat : ∀ c ∈ text.toList, c.toNat < 256) (hcs : text.toList.map (fun c => Value.int (Jvm.Lit.byteI c.toNat.toUInt16)) = cs.map fun c => Value.int (StrChars.lo8 c)) (hp : ∀ c ∈ cs, ¬ c < 0 ∧ ¬ (255 : Int32) < c) (l2 : cs.length ≤ 4000)
    (hg : g.method = m) (hd : decode c.code g.pc = .ok (.ldc index, 2)) {n : Nat} (hn : 4 * text.toList.length ≤ n) (hbig : n ≤ 536870912) (hc : cells + 2 ≤ R.cells) (hl : slots + (n + 4) ≤ R.slots) :
    ∃ (a t : Addr) (T' : State) (h' : Heap), Hs p l e R s m args below meth c Z own [] (fun vm => IB Z vm (text :: Ts) ∧ Lv Z own index a vm ∧ P vm) T' h' (cells + 2) (slots + (n + 4)) ∧ Keep h h' [] ∧ Str Z h' a t cs ∧
      ∀ t, Steps p.tables e below (T'.setTop { g with pc := g.pc + 2, stack := .ref a :: g.stack }) t → Steps p.tables e below (T.setTop g) t := by
  obtain ⟨vm0, k0, locs, hx, X, hS, hk, hZ, ho, eT, F0, hV, O, hw⟩ := H
  obtain ⟨I, hPv⟩ := hI _ hV
  have N : Fr s.heap.size locs := fun y hy => (F0 y hy).elim (fun q => nomatch q) id
  have hz : ¬ (Int32.ofNat cs.length) < 0 := by
    rw [Int32.lt_iff_toInt_lt, len_toInt (n := cs.length) (by omega)]; show ¬ ((cs.length : Int) < 0); omega
  obtain ⟨a, T', h', k1, b, k, r1, r2, r3, r4, r5, r6, r7, r8, r9, r10, r11, r12, r13, r14, r15, st⟩ := ldcSVL (s := s.setVm vm0) (vm0 := vm0) (Ts := Ts) X hx hZ ho w wS eT ((State.WarmedH.refl (s.setVm vm0)).since 0) (Nat.zero_le _) N O.2 I hnot hh hcw (z := Int32.ofNat cs.length) ⟨hlat, hcs⟩ hz (by rw [List.length_map]; exact Int32.toNatClampNeg_ofNat_of_lt (by omega)) hg hd hn hbig hc hl
  have r4' : (s.setVm vm0).Since T'.vm h'.size := ⟨r4.1, fun j q u v => ⟨(r4.2 j q u v).1, Nat.lt_of_lt_of_le (r4.2 j q u v).2 r5⟩⟩
  exact ⟨a, b, T', h', ⟨T'.vm, h'.size, locs, hx, r1, hS.trans r4' (Nat.le_trans hk r3.1), Nat.le_refl _, r6, r7, r2, F0, ⟨r14, r15, hP _ _ r4.1 hPv⟩, O, hw⟩, ext_keep r3, str_of hp l2 r8 r10 r9 rfl rfl r11, st⟩
/-- a second load of an entry -/
theorem Hs.ldcA (H : Hs p l e R s m args below meth c Z own ws V T h cells slots) {text : String} {index : Nat} {a : Addr} (hL : ∀ vm, V vm → Lv Z own index a vm) (w : (Jvm.Cond.stringLink own index text).before a0 Z = true) (hg : g.method = m) (hd : decode c.code g.pc = .ok (.ldc index, 2)) :
    ∀ t, Steps p.tables e below (T.setTop { g with pc := g.pc + 2, stack := .ref a :: g.stack }) t → Steps p.tables e below (T.setTop g) t := by
  obtain ⟨vm0, k0, locs, hx, X, hS, hk, hZ, ho, eT, F0, hV, O, hw⟩ := H
  exact ldcAgain X hx hZ ho w (hL _ hV) hg hd
/-- the text "" of String's own entry 7: not loaded yet, or loaded; Ts: the other texts that the walk has loaded; P: what else is known of the tables -/
def ELg (Z : State) (Ts : List String) (P : Vm → Prop) (h : Heap) (vm : Vm) : Prop := P vm ∧ (IB Z vm Ts ∨ (IB Z vm ("" :: Ts) ∧ ∃ a t, Lv Z "java/lang/String" 7 a vm ∧ Str Z h a t []))
abbrev EL (Z : State) (h : Heap) (vm : Vm) : Prop := ELg Z [] (fun _ => True) h vm
theorem ELg.stab {Ts : List String} {P : Vm → Prop} {U : State} {vm1 : Vm} (hP : ∀ (U : State) (vm1 : Vm), U.Warmed39 vm1 → P U.vm → P vm1) (hW : U.WarmedH vm1) (L : ELg Z Ts P h U.vm) : ELg Z Ts P h vm1 :=
  ⟨hP _ _ hW.wide L.1, L.2.imp (ib_stab hW) fun ⟨i, a, t, q, r⟩ => ⟨ib_stab hW i, a, t, q.stab hW.wide, r⟩⟩
theorem ELg.keep {Ts : List String} {P : Vm → Prop} {vm : Vm} (L : ELg Z Ts P h vm) (K : Keep h h' ws) (q : ∀ w ∈ ws, h.size ≤ w) : ELg Z Ts P h' vm :=
  ⟨L.1, L.2.imp id fun ⟨i, a, t, x, r⟩ => ⟨i, a, t, x, r.keep K (fun z => absurd r.lt (Nat.not_lt.mpr (q _ z))) (fun z => absurd r.ltt (Nat.not_lt.mpr (q _ z)))⟩⟩
theorem EL.st : Stab (EL Z h) := fun _ _ hW L => L.stab (fun _ _ _ _ => trivial) hW
theorem Lv.st {index : Nat} {a : Addr} : Stab (Lv Z own index a) := fun _ _ hW L => L.stab hW.wide
theorem Str.fv {a t : Addr} {cs : List Int32} (F : Str Z h a t cs) : Fld Z h a "java/lang/String" "value" "[B" (.ref t) := F.2.2.2.1
theorem Str.fc {a t : Addr} {cs : List Int32} (F : Str Z h a t cs) (q : ∀ c ∈ cs, ¬ (255 : Int32) < c) : Fld Z h a "java/lang/String" "coder" "B" (.int 0) := by
  obtain ⟨h1, h2, h3, h4, cd, N2, vs, kb, h5, h6, h7⟩ := F
  rcases h7 with ⟨rfl, -⟩ | ⟨-, -, -, c, hc, hb⟩
  · exact h5
  · exact absurd hb (q c hc)
/-- another String over the same bytes -/
theorem Str.re {a t x : Addr} {cs : List Int32} (F : Str Z h a t cs) (q : ∀ c ∈ cs, ¬ (255 : Int32) < c) (E : Exa Z h x "java/lang/String") (G : Fld Z h x "java/lang/String" "value" "[B" (.ref t)) (C : Fld Z h x "java/lang/String" "coder" "B" (.int 0)) : Str Z h x t cs := by
  obtain ⟨h1, h2, h3, h4, cd, N2, vs, kb, h5, h6, h7⟩ := F
  rcases h7 with ⟨rfl, r⟩ | ⟨-, -, -, c, hc, hb⟩
  · exact ⟨h1, h2, E, G, 0, N2, vs, kb, C, h6, Or.inl ⟨rfl, r⟩⟩
  · exact absurd hb (q c hc)
theorem Str.ne_new {a t x : Addr} {cs : List Int32} {n : Nat} (F : Str Z h a t cs) (E : Exa Z h x "java/lang/String") (G : Fld Z h x "java/lang/String" "value" "[B" .null) (wi : (Jvm.Cond.instantiable "java/lang/String" n).before a0 Z = true) : @Ne Nat x a ∧ @Ne Nat x t := by
  obtain ⟨h1, h2, h3, h4, cd, N2, vs, kb, h5, ⟨cl, A, -⟩, h7⟩ := F
  exact ⟨Fld.ne G h4 (fun q => nomatch q), ne_arr E wi A⟩
theorem Hs.ldcE (H : Hs p l e R s m args below meth c Z "java/lang/String" [] V T h cells slots) {Ts : List String} {P : Vm → Prop} (hV : ∀ vm, V vm → ELg Z Ts P h vm) (hTs : "" ∉ Ts) (hP : ∀ (U : State) (vm1 : Vm), U.Warmed39 vm1 → P U.vm → P vm1) (w : (Jvm.Cond.stringLink "java/lang/String" 7 "").before a0 Z = true) (wS : ∀ a ∈ Bundle.stringAtoms, a.before a0 Z = true)
    (hh : Jvm.Lit.constHeld Z "java/lang/String" 7) (hcw : Jvm.Lit.compactW.before a0 Z = true) (hg : g.method = m) (hd : decode c.code g.pc = .ok (.ldc 7, 2)) (hc : cells + 2 ≤ R.cells) (hl : slots + 4 ≤ R.slots) :
    ∃ (a t : Addr) (T' : State) (h' : Heap), Hs p l e R s m args below meth c Z "java/lang/String" [] (fun vm => P vm ∧ IB Z vm ("" :: Ts) ∧ Lv Z "java/lang/String" 7 a vm) T' h' (cells + 2) (slots + 4) ∧ Keep h h' [] ∧ Str Z h' a t [] ∧
      ∀ t, Steps p.tables e below (T'.setTop { g with pc := g.pc + 2, stack := .ref a :: g.stack }) t → Steps p.tables e below (T.setTop g) t := by
  obtain ⟨vm0, k0, locs, hx, X, hS, hk, hZ, ho, eT, F0, hv, O, hw⟩ := H
  obtain ⟨hp0, I | ⟨I, a, t, L, F⟩⟩ := hV _ hv
  · have H2 : Hs p l e R s m args below meth c Z "java/lang/String" [] (fun vm => IB Z vm Ts ∧ P vm) T h cells slots := ⟨vm0, k0, locs, hx, X, hS, hk, hZ, ho, eT, F0, ⟨I, hp0⟩, O, hw⟩
    obtain ⟨a, t, T', h', H3, K3, F3, st⟩ := H2.ldcV (P := P) (fun _ q => q) hP w wS hTs hh hcw (cs := []) (by decide) rfl mem0 (by decide) hg hd (n := 0) (by decide) (by decide) hc hl
    exact ⟨a, t, T', h', H3.reV fun _ q => ⟨q.2.2, q.1, q.2.1⟩, K3, F3, st⟩
  · have H2 : Hs p l e R s m args below meth c Z "java/lang/String" [] (fun vm => P vm ∧ IB Z vm ("" :: Ts) ∧ Lv Z "java/lang/String" 7 a vm) T h cells slots := ⟨vm0, k0, locs, hx, X, hS, hk, hZ, ho, eT, F0, ⟨hp0, I, L⟩, O, hw⟩
    exact ⟨a, t, T, h, H2.more (by omega) (by omega), Keep.refl _ _, F, H2.ldcA (fun _ q => q.2.2) w hg hd⟩
/-- the first load of a text, where "" may have been loaded or not -/
theorem Hs.ldcG (H : Hs p l e R s m args below meth c Z own [] V T h cells slots) {Ts : List String} {P : Vm → Prop} (hV : ∀ vm, V vm → ELg Z Ts P h vm) (hP : ∀ (U : State) (vm1 : Vm), U.Warmed39 vm1 → P U.vm → P vm1) {text : String} {index : Nat} (w : (Jvm.Cond.stringLink own index text).before a0 Z = true) (wS : ∀ a ∈ Bundle.stringAtoms, a.before a0 Z = true)
    (hn1 : text ∉ Ts) (hn2 : text ∉ "" :: Ts) (hh : Jvm.Lit.constHeld Z own index) (hcw : Jvm.Lit.compactW.before a0 Z = true) {cs : List Int32} (hlat : ∀ c ∈ text.toList, c.toNat < 256) (hcs : text.toList.map (fun c => Value.int (Jvm.Lit.byteI c.toNat.toUInt16)) = cs.map fun c => Value.int (StrChars.lo8 c)) (hp : ∀ c ∈ cs, ¬ c < 0 ∧ ¬ (255 : Int32) < c) (l2 : cs.length ≤ 4000)
    (hg : g.method = m) (hd : decode c.code g.pc = .ok (.ldc index, 2)) {n : Nat} (hn : 4 * text.toList.length ≤ n) (hbig : n ≤ 536870912) (hc : cells + 2 ≤ R.cells) (hl : slots + (n + 4) ≤ R.slots) :
    ∃ (a t : Addr) (T' : State) (h' : Heap), Hs p l e R s m args below meth c Z own [] (fun vm => P vm ∧ Lv Z own index a vm) T' h' (cells + 2) (slots + (n + 4)) ∧ Keep h h' [] ∧ Str Z h' a t cs ∧
      ∀ t, Steps p.tables e below (T'.setTop { g with pc := g.pc + 2, stack := .ref a :: g.stack }) t → Steps p.tables e below (T.setTop g) t := by
  obtain ⟨vm0, k0, locs, hx, X, hS, hk, hZ, ho, eT, F0, hv, O, hw⟩ := H
  obtain ⟨hp0, I | ⟨I, -⟩⟩ := hV _ hv
  · have H2 : Hs p l e R s m args below meth c Z own [] (fun vm => IB Z vm Ts ∧ P vm) T h cells slots := ⟨vm0, k0, locs, hx, X, hS, hk, hZ, ho, eT, F0, ⟨I, hp0⟩, O, hw⟩
    obtain ⟨a, t, T', h', H3, K3, F3, st⟩ := H2.ldcV (P := P) (fun _ q => q) hP w wS hn1 hh hcw hlat hcs hp l2 hg hd hn hbig hc hl
    exact ⟨a, t, T', h', H3.reV fun _ q => ⟨q.2.2, q.2.1⟩, K3, F3, st⟩
  · have H2 : Hs p l e R s m args below meth c Z own [] (fun vm => IB Z vm ("" :: Ts) ∧ P vm) T h cells slots := ⟨vm0, k0, locs, hx, X, hS, hk, hZ, ho, eT, F0, ⟨I, hp0⟩, O, hw⟩
    obtain ⟨a, t, T', h', H3, K3, F3, st⟩ := H2.ldcV (P := P) (fun _ q => q) hP w wS hn2 hh hcw hlat hcs hp l2 hg hd hn hbig hc hl
    exact ⟨a, t, T', h', H3.reV fun _ q => ⟨q.2.2, q.2.1⟩, K3, F3, st⟩
end OwnLit
end Jvm.Pilot.@@N@@
namespace Jvm.Pilot.@@N@@
open Jvm Jvm.ClassFile Sem Op Lib Jvm.Free Jvm.Stand Jvm.LawKit Jvm.RoadKit Bundle Jvm.Pilot.@@N@@.Jvm.D
section OwnStart
variable {args : Array Value} {s : State} {t u : Term} {a : Addr}
theorem ev_int {n : Int32} (q : (Jvm.Cond.eq t (.int n)).value args s none s [] = some true) : t.eval args s none [] s = some (.int n) := by
  obtain ⟨x, y, h1, h2, k1, k2⟩ := cmp_v (Or.inl q)
  cases h2.symm.trans (Term.int_eval n)
  obtain ⟨z, rfl⟩ := k2
  have := gotT (Cond.eq_ints h1 (Term.int_eval n)) q
  rw [h1, this]
theorem ev_ref {y : Addr} (q : (Jvm.Cond.eq t u).value args s none s [] = some true) (hu : u.eval args s none [] s = some (.ref y)) : t.eval args s none [] s = some (.ref y) := by
  obtain ⟨x, y', h1, h2, k1, k2⟩ := cmp_v (Or.inl q)
  cases hu.symm.trans h2
  have hx : x.isRef = true := k2.2
  have := gotT (eq_R h1 hu hx rfl) q
  rw [h1, this]
theorem fld_start {C n d : String} {v : Value} (ev : t.eval args s none [] s = some (.ref a)) (q : (Term.field t C n d).eval args s none [] s = some v) : Fld s s.heap a C n d v := Fld.start ((fld_at ev).symm.trans q)
theorem hasL_of {cl : Cell} {dv : Value} : ∀ (vs : List Value) (i : Nat), (∀ j, j < vs.length → cl.slots[i + j]? = some (vs.getD j dv)) → HasL cl i vs
  | [], _, _ => trivial
  | v :: r, i, H => ⟨by have := H 0 (by simp); simpa using this, hasL_of r (i + 1) fun j hj => by
      have := H (j + 1) (by simpa using hj)
      rw [show i + 1 + j = i + (j + 1) by omega]; simpa using this⟩
theorem arr_start {ty : FieldType} {n : Int32} {vs : List Value} {dv : Value} (hfit : Fit s) (ev : t.eval args s none [] s = some (.ref a)) (q1 : (Jvm.Cond.arrayOf t ty).value args s none s [] = some true) (q2 : (Jvm.Cond.eq (.length t) (.int n)).value args s none s [] = some true) (hn : ¬ n < 0) (hl : n.toNatClampNeg = vs.length)
    (q3 : ∀ j, j < vs.length → (Term.elem t (.int (Int32.ofNat j))).eval args s none [] s = some (vs.getD j dv)) : ∃ k, Arv s s.heap a k ty n vs dv := by
  obtain ⟨cl, A⟩ := Arr.start ev q1
  have hat : s.arrayAt? a = some cl := A.fin (Vm.Alike.refl _)
  have hlen := ev_int q2
  have h31 := Jvm.Free.SBG.length_lt ev hat hlen
  have e := len_f ev hat h31
  have e2 : cl.slots.size.toInt32 = n := by
    have q := Option.some.inj (e.symm.trans hlen)
    injection q
  have hsz : vs.length < 2 ^ 31 := by
    rw [← hl]; have := Int32.toInt_lt n; simp only [Int32.toNatClampNeg]; omega
  refine ⟨cl.cls, Arv.start hfit A h31 e2 hn hl (hasL_of (dv := dv) vs 0 fun j hj => ?_)⟩
  have q := (elem_in (q3 j hj) ev (Term.int_eval _) A.1).2
  rw [Int32.toNatClampNeg_ofNat_of_lt (Nat.lt_trans hj hsz)] at q
  rw [Nat.zero_add]; exact q
theorem str_start {cs : List Int32} (hfit : Fit s) (ev : t.eval args s none [] s = some (.ref a)) (q1 : (Jvm.Cond.exactly t "java/lang/String").value args s none s [] = some true) (q2 : (Jvm.Cond.eq (.field t "java/lang/String" "coder" "B") (.int 0)).value args s none s [] = some true) (q3 : (Jvm.Cond.arrayOf (.field t "java/lang/String" "value" "[B") .byte).value args s none s [] = some true)
    (q4 : (Jvm.Cond.eq (.length (.field t "java/lang/String" "value" "[B")) (.int (Int32.ofNat cs.length))).value args s none s [] = some true) (hp : ∀ c ∈ cs, ¬ c < 0 ∧ ¬ (255 : Int32) < c) (l2 : cs.length ≤ 4000)
    (q5 : ∀ j, j < cs.length → (Term.elem (.field t "java/lang/String" "value" "[B") (.int (Int32.ofNat j))).eval args s none [] s = some ((cs.map fun c => Value.int (StrChars.lo8 c)).getD j (.int 0))) : ∃ b, Str s s.heap a b cs := by
  obtain ⟨b, eb⟩ := arr_v q3
  have hz : ¬ (Int32.ofNat cs.length) < 0 := by
    rw [Int32.lt_iff_toInt_lt, len_toInt (n := cs.length) (by omega)]; show ¬ ((cs.length : Int) < 0); omega
  obtain ⟨k, A⟩ := arr_start (dv := .int 0) hfit eb q3 q4 hz (by rw [List.length_map]; exact Int32.toNatClampNeg_ofNat_of_lt (by omega)) (fun j hj => q5 j (by simpa using hj))
  exact ⟨b, str_of hp l2 (Exa.start ev q1) (fld_start ev eb) (fld_start ev (ev_int q2)) rfl rfl A⟩
end OwnStart
end Jvm.Pilot.@@N@@
namespace Jvm.Pilot.@@N@@
open Jvm Jvm.ClassFile Sem Op Lib Jvm.Free Jvm.Stand Jvm.LawKit Jvm.RoadKit Bundle Jvm.Pilot.@@N@@.Jvm.D
section OwnEmp
variable {p : Program} {l : Launch} {e : Env} {R : Room} {s : State} {m : MethodId} {args : Array Value} {below : List Frame} {meth : Method} {c : Code} {T T' : State} {cells slots cells' slots' : Nat} {Z : State} {a0 : Array Value} {h h' : Heap} {own : String} {ws ws' : List Addr} {V V' : Vm → Prop} {g : JFrame}
/-- the facts of an empty String, out of the glue's bundle -/
theorem sl_str {W : State} {a : Addr} (al : Z.vm.Alike W.vm) (S : SlOf W a #[]) : ∃ t, Str Z W.heap a t [] := by
  obtain ⟨q, cS, rfl, ⟨⟨s1, s2, s3, ⟨cv, kv, iv, s4, s4'⟩, ⟨cc, kc, ic, s5, s5'⟩, s6, s7, s8, s9, s10, s11, s12, s13, s14, s15, s16⟩, hfS, hcS⟩, ⟨kS, k1, k2, k3⟩, hB, hbyt⟩ := S
  obtain ⟨kv', z4⟩ := ff_back al s4
  obtain ⟨kc', z5⟩ := ff_back al s5
  have hfZ : Z.vm.findClass "java/lang/String" = some q.sC.cls := by rw [← al.findClass, hcS]; exact hfS
  obtain ⟨kz, hkz, -⟩ := Vm.findClass_spec hfZ
  obtain ⟨kz', hkz', ekz⟩ := al.2.2 _ _ hkz
  have ekS : kz' = kS := Option.some.inj (hkz'.symm.trans (hcS ▸ k1))
  have hBZ : Z.vm.findClass "[B" = some q.SA.cls := by rw [← al.findClass]; exact hB
  obtain ⟨kb, hkb, -⟩ := Vm.findClass_spec hBZ
  obtain ⟨kb', hkb', ekb⟩ := al.2.2 _ _ hkb
  obtain ⟨hst, k9, hk9, comp, hkind9⟩ := s11
  have ek9 : k9 = kb' := Option.some.inj (hk9.symm.trans hkb')
  have hAZ : Z.isArrayOf q.SA .byte := ⟨hst, kb, hkb, comp, by rw [ek9, ekb] at hkind9; exact hkind9⟩
  have hsz : q.SA.slots.size = 0 := by rw [hbyt, SBG.stringBytes_lat (units := #[]) (by simp)]; simp
  exact ⟨q.sd, mem0, by decide, ⟨q.sC, kz, s1, hfZ, hkz, s3, fun ho => by rw [k3, ← ekS, ekz]⟩, ⟨q.sC, cv, kv', iv, q.fSV, s1, z4, s6, s2, s3, by rw [← al.assignable]; exact s4', s8⟩, 0, 0, [], q.SA.cls, ⟨q.sC, cc, kc', ic, q.fSC, s1, z5, s7, s2, s3, by rw [← al.assignable]; exact s5', s9⟩,
    ⟨q.SA, ⟨s10, hAZ, s12⟩, rfl, hsz, by decide, fun j hj => absurd hj (by omega), fun j hj => absurd hj (by omega)⟩, Or.inl ⟨rfl, rfl, rfl, fun _ q => nomatch q⟩⟩
/-- the one spelling of the empty text -/
theorem no_units {u : Array UInt16} (q : utf16ToString? u = some "") : u = #[] := by
  have r := Jvm.ClassFile.units_of_text q (by decide)
  simpa using r
/-- whoever loads this entry, whose text is "", gets an empty String -/
def CH (Z : State) (own : String) (index : Nat) (h : Heap) (vm : Vm) : Prop := (Jvm.Cond.stringLink own index "").before #[] (Z.setVm vm) = true ∧ ConstHeldL ({ Z with heap := h, vm := vm } : State) own index
theorem CH.ext {index : Nat} {vm : Vm} (C : CH Z own index h vm) (E : ∀ (b : Addr) (cl : Cell), h[b]? = some cl → h'[b]? = some cl) : CH Z own index h' vm :=
  ⟨C.1, fun c k cf i u a x1 x2 x3 x4 x5 x6 => (C.2 c k cf i u a x1 x2 x3 x4 x5 x6).moved (Vm.Alike.refl _) E⟩
/-- it rides over whatever books no such text -/
theorem CH.ride {index : Nat} {vm vm1 : Vm} {Ts : List String} (C : CH Z own index h vm) (hW : (Z.setVm vm).Warmed39 vm1) (I : IB (Z.setVm vm) vm1 Ts) (hn : "" ∉ Ts) : CH Z own index h vm1 :=
  ⟨mvS (Z := Z.setVm vm) (s := Z.setVm vm1) hW C.1, heldCarry (Z := ({ Z with heap := h, vm := vm } : State)) (s := ({ Z with heap := h, vm := vm } : State)) (vm0 := vm1) (a0 := #[]) hW C.1 I hn (fun _ _ q => q) C.2⟩
/-- after a load of the same text under another entry -/
theorem CH.over {index : Nat} {vm vm1 : Vm} {a : Addr} (C : CH Z own index h vm) (hW : (Z.setVm vm).Warmed39 vm1) (hf : vm1.interned.find? (fun p => p.1 == #[]) = some (#[], a)) (S : SlOf ({ Z with heap := h', vm := vm1 } : State) a #[]) (E : ∀ (b : Addr) (cl : Cell), h[b]? = some cl → h'[b]? = some cl) : CH Z own index h' vm1 := by
  refine ⟨mvS (Z := Z.setVm vm) (s := Z.setVm vm1) hW C.1, ?_⟩
  intro c k' cf i units a3 hc' hk' hcf' hp hu hor
  have hal : vm.Alike vm1 := State.Warmed39.alike (s := Z.setVm vm) hW
  have hc : vm.findClass own = some c := by rw [← hal.findClass]; exact hc'
  obtain ⟨k, cf0, i0, units0, hk, hcf, hp0, hu0, hnm, htext, -⟩ := Cond.stringLink_spec (s := Z.setVm vm) hc C.1
  obtain ⟨k'', hk'', hke, -, ee, -⟩ := hW.2.2.2 c k hk
  cases (show vm1.classes[c]? = some k' from hk').symm.trans hk''
  have hcfk : k'.cf = k.cf := by rw [hke]
  cases (hcfk ▸ hcf').symm.trans hcf
  cases hp.symm.trans hp0
  cases hu.symm.trans hu0
  obtain rfl := no_units htext
  have one : ∀ b, vm1.interned.find? (fun p => p.1 == #[]) = some (#[], b) → b = a := fun b q => by
    have := hf.symm.trans q
    simpa using this.symm
  rcases ee index with e0 | ⟨hop, r, e1, hr | ⟨a4, t, si, us, rfl, -, q3, q4, q5⟩⟩
  · rcases hor with h0 | ⟨h0, hf'⟩
    · exact (C.2 c k cf i #[] a3 hc hk hcf hp hu (Or.inl (e0 ▸ h0))).moved hal E
    · rw [one a3 hf']; exact S
  · exfalso
    have hk2 : vm.classes[c]? = some k := hk
    cases r <;> simp [State.rightAt, hk, hk2, hcf, hnm] at hr
  · rw [hcf] at q3 q4
    have e3 : si = i := by
      have := q3.symm.trans hp
      simpa using this
    subst e3
    have e4 : us = #[] := by simpa [ConstantPool.utf8?, hu] using q4.symm
    subst e4
    rcases hor with h0 | ⟨h0, hf'⟩
    · have ea : a4 = a3 := by have := e1.symm.trans h0; simpa using this
      subst ea
      rw [one a4 q5]; exact S
    · rw [one a3 hf']; exact S
/-- the load of an entry of the text "": held, or made; what is known of another such entry goes along -/
theorem Hs.ldcO (H : Hs p l e R s m args below meth c Z own [] V T h cells slots) {index i2 : Nat} {own2 : String} {Ts : List String} {P : Vm → Prop} (hV : ∀ vm, V vm → CH Z own index s.heap vm ∧ CH Z own2 i2 s.heap vm ∧ IB Z vm Ts ∧ P vm) (hP : ∀ (U : State) (vm1 : Vm), U.Warmed39 vm1 → P U.vm → P vm1) (w : (Jvm.Cond.stringLink own index "").before a0 Z = true) (wS : ∀ a ∈ Bundle.stringAtoms, a.before a0 Z = true)
    (hg : g.method = m) (hd : decode c.code g.pc = .ok (.ldc index, 2)) (hc : cells + 2 ≤ R.cells) (hl : slots + 4 ≤ R.slots) :
    ∃ (a t : Addr) (T' : State) (h' : Heap), Hs p l e R s m args below meth c Z own [] (fun vm => IB Z vm ("" :: Ts) ∧ Lv Z own index a vm ∧ P vm ∧ CH Z own2 i2 h' vm) T' h' (cells + 2) (slots + 4) ∧ Keep h h' [] ∧ Str Z h' a t [] ∧
      ∀ t, Steps p.tables e below (T'.setTop { g with pc := g.pc + 2, stack := .ref a :: g.stack }) t → Steps p.tables e below (T.setTop g) t := by
  have KK := H.keep
  obtain ⟨vm0, k0, locs, hx, X, hS, hk, hZ, ho, eT, F0, hv, O, hw⟩ := H
  obtain ⟨C1, C2, I, hp0⟩ := hV _ hv
  have N : Fr s.heap.size locs := fun y hy => (F0 y hy).elim (fun q => nomatch q) id
  have hH : ConstHeldL (s.setVm vm0) own index := fun c k cf i u a x1 x2 x3 x4 x5 x6 => (C1.2 c k cf i u a x1 x2 x3 x4 x5 x6).moved (Vm.Alike.refl _) (fun _ _ q => q)
  have hal0 : Z.vm.Alike vm0 := State.Warmed39.alike (s := Z) hZ
  have hown : (s.setVm vm0).vm.findClass own = some m.cls := ho
  obtain ⟨k, cf, i, units, hk1, hcf, hcp, hu, hnm, hdec, hres⟩ := Cond.stringLink_spec (s := s.setVm vm0) hown (mvS (s := s) (args := args) hZ w)
  obtain rfl := no_units hdec
  have hk2 : vm0.classes[m.cls]? = some k := hk1
  rcases hres with h0 | ⟨a, h0⟩
  · obtain ⟨a, T', X', hS', ⟨kk, hkk, hrr⟩, hb, -, hint, ⟨units, htext, hin⟩, st⟩ := X.ldcColdF (oldF X N) hx (own := own) hown (mvS (s := s) hZ w) (fun d hd => by
      have q := wS d hd
      simp only [Bundle.stringAtoms, List.mem_cons, List.not_mem_nil, or_false] at hd
      rcases hd with rfl | rfl | rfl | rfl | rfl | rfl | rfl
      · exact mv (s := s.setVm vm0) hZ q
      · exact mv (s := s.setVm vm0) hZ q
      · exact mvA (s := s.setVm vm0) hZ q
      · exact mv (s := s.setVm vm0) hZ q
      · exact mv (s := s.setVm vm0) hZ q
      · exact mv (s := s.setVm vm0) hZ q
      · exact mv (s := s.setVm vm0) hZ q) hH (fun units hu => Jvm.ClassFile.lat_of_text hu (by decide)) hg hd (n := 0) (by decide) (by decide) hc hl
    obtain rfl := no_units htext
    subst eT
    have S : SlOf T' a #[] := by obtain ⟨q, cS, x1, x2, x3, x4, x5, -⟩ := hin; exact ⟨q, cS, x1, x2, x3, x4, x5⟩
    have E := ext_of hb
    have hW1 : (s.setVm vm0).Warmed39 T'.vm := hS'.1
    have hW : Z.Warmed39 T'.vm := State.Warmed39.trans (t := s.setVm vm0) hZ hW1
    have E0 : ∀ (b : Addr) (cl : Cell), s.heap[b]? = some cl → T'.heap[b]? = some cl := fun b cl q => E.2 b cl (KK.2.1 b cl q nin0)
    have hf : T'.vm.interned.find? (fun p => p.1 == #[]) = some (#[], a) := by
      obtain ⟨k'', hk'', -, -, ee, -⟩ := hW1.2.2.2 m.cls k hk1
      cases hkk.symm.trans hk''
      rcases ee index with e0 | ⟨hop, r, e1, hr | ⟨a4, t, si, us, rfl, -, q3, q4, q5⟩⟩
      · rw [hrr, h0] at e0; cases e0
      · exfalso
        cases r <;> simp [State.rightAt, hk1, hk2, hcf, hnm] at hr
      · rw [hcf] at q3 q4
        have e3 : si = i := by
          have := q3.symm.trans hcp
          simpa using this
        subst e3
        have e4 : us = #[] := by simpa [ConstantPool.utf8?, hu] using q4.symm
        subst e4
        have ea : a4 = a := by have := e1.symm.trans hrr; simpa using this
        subst ea
        exact q5
    have hTi : T.vm.interned = vm0.interned := X.warmed.interned_eq
    obtain ⟨t, F⟩ := sl_str (Z := Z) (W := T') hW.alike S
    have hfo : T'.vm.findClass own = some m.cls := by rw [hS'.1.alike.findClass]; exact hown
    refine ⟨a, t, T', T'.heap, ⟨T'.vm, T'.heap.size, locs, hx, X', hS.trans hS' (Nat.le_trans hk E.1), Nat.le_refl _, hW, hfo, rfl, F0, ⟨I.step (by rw [← hTi]; exact hint), ?_, hP (s.setVm vm0) _ hW1 hp0, CH.over C2 hW1 hf (S.moved (Vm.Alike.refl _) (fun _ _ q => q)) E0⟩, O, hw⟩, ext_keep E, F, st⟩
    simp [Lv, Lit, State.resolvedAt?, hfo, hkk, hrr]
  · have S : SlOf (s.setVm vm0) a #[] := hH m.cls k cf i #[] a hown hk1 hcf hcp hu (Or.inl h0)
    have L : Lv Z own index a vm0 := by simp [Lv, Lit, State.resolvedAt?, ho, hk2, h0]
    obtain ⟨t, F⟩ := sl_str (Z := Z) (W := s.setVm vm0) hal0 S
    have H2 : Hs p l e R s m args below meth c Z own [] (fun vm => IB Z vm ("" :: Ts) ∧ Lv Z own index a vm ∧ P vm ∧ CH Z own2 i2 h vm) T h cells slots :=
      ⟨vm0, k0, locs, hx, X, hS, hk, hZ, ho, eT, F0, ⟨I.step (Or.inl rfl), L, hp0, C2.ext (fun b cl q => KK.2.1 b cl q nin0)⟩, O, hw⟩
    exact ⟨a, t, T, h, H2.more (by omega) (by omega), Keep.refl _ _, Str.keep (h := s.heap) F KK nin0 nin0, H2.ldcA (fun _ q => q.2.1) w hg hd⟩
/-- at the start -/
theorem CH.start {index : Nat} {vm : Vm} {Ts : List String} (hh : Jvm.Lit.constHeld Z own index) (w : (Jvm.Cond.stringLink own index "").before a0 Z = true) (wS : ∀ a ∈ Bundle.stringAtoms, a.before a0 Z = true) (hcw : Jvm.Lit.compactW.before a0 Z = true) (hZ : Z.Warmed39 vm) (I : IB Z vm Ts) (hn : "" ∉ Ts) (E : Ext Z.heap h) : CH Z own index h vm := by
  have wi : (Jvm.Cond.instantiable "java/lang/String" 4).before a0 Z = true := wS _ (by simp [Bundle.stringAtoms, Bundle.sN])
  have wa : (Jvm.Cond.arrayClass .byte).before a0 Z = true := wS _ (by simp [Bundle.stringAtoms])
  exact ⟨mvS (s := Z.setVm vm) hZ w, heldCarry (s := ({ Z with heap := h } : State)) hZ w I hn E.2 (heldStart hh w (by decide) hcw wa wi)⟩
theorem ib_sub {vm : Vm} {Ts Ts' : List String} (I : IB Z vm Ts) (q : ∀ t ∈ Ts, t ∈ Ts') : IB Z vm Ts' := by
  obtain ⟨more, e, r⟩ := I
  exact ⟨more, e, fun x hx => by obtain ⟨t, ht, hd⟩ := r x hx; exact ⟨t, q t ht, hd⟩⟩
theorem w39_stab (U : State) (vm1 : Vm) (hW : U.Warmed39 vm1) (q : Z.Warmed39 U.vm) : Z.Warmed39 vm1 := State.Warmed39.trans (t := U) q hW
/-- what new String(new char[0]) asks of the tables, where "" may have been loaded under any entry -/
def EG (Z : State) (Ts : List String) (P : Vm → Prop) (h : Heap) (vm : Vm) : Prop := P vm ∧ IB Z vm ("" :: Ts) ∧ CH Z "java/lang/String" 7 h vm
theorem EG.stab {Ts : List String} {P : Vm → Prop} {U : State} {vm1 : Vm} (hP : ∀ (U : State) (vm1 : Vm), U.Warmed39 vm1 → P U.vm → P vm1) (hW : U.WarmedH vm1) (L : EG Z Ts P h U.vm) : EG Z Ts P h vm1 :=
  ⟨hP _ _ hW.wide L.1, ib_stab hW L.2.1, CH.ride (vm := U.vm) (Ts := []) L.2.2 hW.wide ⟨#[], by rw [hW.interned_eq]; simp, fun q hq => by simp at hq⟩ (by simp)⟩
theorem EG.keep {Ts : List String} {P : Vm → Prop} {vm : Vm} (L : EG Z Ts P h vm) (K : Keep h h' []) : EG Z Ts P h' vm :=
  ⟨L.1, L.2.1, L.2.2.ext (fun b cl q => K.2.1 b cl q nin0)⟩
end OwnEmp
end Jvm.Pilot.@@N@@
namespace Jvm.Pilot.@@N@@
open Jvm Jvm.ClassFile Sem Op Lib Jvm.Free Jvm.Stand Jvm.LawKit Jvm.RoadKit Bundle Jvm.Pilot.@@N@@.Jvm.D
theorem hws_new {Z : State} {a0 : Array Value} (hw : ∀ d ∈ tables_1, d.before a0 Z = true) : ∀ d ∈ StrChars.Road.words, d.before a0 Z = true := fun d hd => hw d ((by decide +kernel : ∀ d ∈ StrChars.Road.words, d ∈ tables_1) d hd)
theorem hws_eq {Z : State} {a0 : Array Value} (hw : ∀ d ∈ tables_1, d.before a0 Z = true) : ∀ d ∈ StrChars.Road.wordsEq, d.before a0 Z = true := fun d hd => hw d ((by decide +kernel : ∀ d ∈ StrChars.Road.wordsEq, d ∈ tables_1) d hd)
theorem hws_len {Z : State} {a0 : Array Value} (hw : ∀ d ∈ tables_1, d.before a0 Z = true) : ∀ d ∈ StrChars.Road.wordsLen, d.before a0 Z = true := fun d hd => hw d ((by decide +kernel : ∀ d ∈ StrChars.Road.wordsLen, d ∈ tables_1) d hd)
theorem hws_ch {Z : State} {a0 : Array Value} (hw : ∀ d ∈ tables_1, d.before a0 Z = true) : ∀ d ∈ StrChars.Road.wordsChN, d.before a0 Z = true := fun d hd => hw d ((by decide +kernel : ∀ d ∈ StrChars.Road.wordsChN, d ∈ tables_1) d hd)
theorem hws_sa {Z : State} {a0 : Array Value} (hw : ∀ d ∈ tables_1, d.before a0 Z = true) : ∀ d ∈ Bundle.stringAtoms, d.before a0 Z = true := fun d hd => hw d ((by decide +kernel : ∀ d ∈ Bundle.stringAtoms, d ∈ tables_1) d hd)
theorem u_all {P : Nat → Prop} {M : Nat} (h : ∀ k : Fin (M + 1), P k.val) {n : Nat} (hn : n ≤ M) : P n := h ⟨n, by omega⟩
theorem u_shl {n : Nat} (hn : n ≤ 9) : (Int32.ofNat n) <<< ((1 : Int32) &&& 31) = Int32.ofNat (2 * n) := u_all (P := fun n => (Int32.ofNat n) <<< ((1 : Int32) &&& 31) = Int32.ofNat (2 * n)) (M := 9) (by decide +kernel) hn
theorem u_cod {n : Nat} (hn : n ≤ 9) (h0 : 0 < n) : XT.ushr (Int32.ofNat n - Int32.ofNat (2 * n)) (31 : Int32) = 1 := u_all (P := fun n => 0 < n → XT.ushr (Int32.ofNat n - Int32.ofNat (2 * n)) (31 : Int32) = 1) (M := 9) (by decide +kernel) hn h0
theorem u_big {n : Nat} (hn : n ≤ 9) : Int32.ofNat n < (1073741823 : Int32) := u_all (P := fun n => Int32.ofNat n < (1073741823 : Int32)) (M := 9) (by decide +kernel) hn
theorem u_nn {n : Nat} (hn : n ≤ 8000) : ¬ Int32.ofNat n < 0 := by
  rw [Int32.lt_iff_toInt_lt, len_toInt (n := n) (by omega)]; show ¬ ((n : Int) < 0); omega
theorem u_cl {n : Nat} (hn : n ≤ 8000) : (Int32.ofNat n).toNatClampNeg = n := Int32.toNatClampNeg_ofNat_of_lt (by omega)
theorem u_lt {i n : Nat} (h : i < n) (hn : n ≤ 8000) : Int32.ofNat i < Int32.ofNat n := by
  rw [Int32.lt_iff_toInt_lt, len_toInt (n := i) (by omega), len_toInt (n := n) (by omega)]; omega
theorem u_nlt {n : Nat} : ¬ Int32.ofNat n < Int32.ofNat n := by rw [Int32.lt_iff_toInt_lt]; omega
theorem u_ne {i n : Nat} (h : i ≠ n) (hi : i ≤ 8000) (hn : n ≤ 8000) : ¬ Int32.ofNat i = Int32.ofNat n := fun r => h (by
  have e := congrArg Int32.toInt r
  rw [len_toInt (n := i) (by omega), len_toInt (n := n) (by omega)] at e; omega)
theorem u_ne0 {n : Nat} (h : 0 < n) (hn : n ≤ 8000) : ¬ Int32.ofNat n = 0 := u_ne (n := 0) (by omega) hn (by omega)
theorem u_succ (i : Nat) : Int32.ofNat i + (1 : Int32) = Int32.ofNat (i + 1) := (Int32.ofNat_add i 1).symm
theorem u_mem {cs : List Int32} {i : Nat} (hi : i < cs.length) {P : Int32 → Prop} (h : ∀ c ∈ cs, P c) : P (cs.getD i 0) := by
  have e : cs.getD i 0 = cs[i] := by simp [List.getD_eq_getElem?_getD, hi]
  rw [e]; exact h _ (List.getElem_mem _)
theorem own_ltinv {i n : Nat} (hi : i ≤ 8000) (hn : n ≤ 4000) (h : Int32.ofNat i < Int32.ofNat n) : i < n := by
  rw [Int32.lt_iff_toInt_lt, len_toInt (n := i) (by omega), len_toInt (n := n) (by omega)] at h; omega
theorem own_and3 (x : Int32) : x &&& (3 : Int32) = 0 ∨ x &&& (3 : Int32) = 1 ∨ x &&& (3 : Int32) = 2 ∨ x &&& (3 : Int32) = 3 := by
  have q := c_and x 3 (by decide)
  have e3 : (3 : Int32).toInt = 3 := rfl
  generalize x &&& (3 : Int32) = y at q
  have h : y.toInt = 0 ∨ y.toInt = 1 ∨ y.toInt = 2 ∨ y.toInt = 3 := by omega
  rcases h with h | h | h | h
  · exact Or.inl (Int32.toInt_inj.mp h)
  · exact Or.inr (Or.inl (Int32.toInt_inj.mp h))
  · exact Or.inr (Or.inr (Or.inl (Int32.toInt_inj.mp h)))
  · exact Or.inr (Or.inr (Or.inr (Int32.toInt_inj.mp h)))
theorem own_ush (x : Int32) : 0 ≤ (XT.ushr x (5 : Int32)).toInt := by
  have e : ((5 : Int32) &&& 31).toUInt32 = 5 := by decide
  unfold XT.ushr
  rw [e]
  have h1 : (x.toUInt32 >>> 5).toNat < 2 ^ 27 := by
    rw [UInt32.toNat_shiftRight]
    have := x.toUInt32.toNat_lt
    show x.toUInt32.toNat >>> 5 < 2 ^ 27
    rw [Nat.shiftRight_eq_div_pow]; omega
  show 0 ≤ ((x.toUInt32 >>> 5).toInt32).toInt
  have h2 : (x.toUInt32 >>> 5).toInt32.toInt = ((x.toUInt32 >>> 5).toNat : Int) := by
    show (x.toUInt32 >>> 5).toBitVec.toInt = _
    rw [BitVec.toInt_eq_toNat_cond, if_pos (by show 2 * (x.toUInt32 >>> 5).toNat < 2 ^ 32; omega)]; rfl
  omega
theorem own_rem10 (x : Int32) : XT.ushr x (5 : Int32) % (10 : Int32) = 0 ∨ XT.ushr x (5 : Int32) % (10 : Int32) = 1 ∨ XT.ushr x (5 : Int32) % (10 : Int32) = 2 ∨ XT.ushr x (5 : Int32) % (10 : Int32) = 3 ∨ XT.ushr x (5 : Int32) % (10 : Int32) = 4 ∨ XT.ushr x (5 : Int32) % (10 : Int32) = 5 ∨ XT.ushr x (5 : Int32) % (10 : Int32) = 6 ∨ XT.ushr x (5 : Int32) % (10 : Int32) = 7 ∨ XT.ushr x (5 : Int32) % (10 : Int32) = 8 ∨ XT.ushr x (5 : Int32) % (10 : Int32) = 9 := by
  have q := own_ush x
  generalize XT.ushr x (5 : Int32) = z at q
  have r := (c_irem z 10 10 rfl).1 (by omega)
  generalize z % (10 : Int32) = y at r
  have h : y.toInt = 0 ∨ y.toInt = 1 ∨ y.toInt = 2 ∨ y.toInt = 3 ∨ y.toInt = 4 ∨ y.toInt = 5 ∨ y.toInt = 6 ∨ y.toInt = 7 ∨ y.toInt = 8 ∨ y.toInt = 9 := by omega
  rcases h with h | h | h | h | h | h | h | h | h | h
  · exact Or.inl (Int32.toInt_inj.mp h)
  · exact Or.inr (Or.inl (Int32.toInt_inj.mp h))
  · exact Or.inr (Or.inr (Or.inl (Int32.toInt_inj.mp h)))
  · exact Or.inr (Or.inr (Or.inr (Or.inl (Int32.toInt_inj.mp h))))
  · exact Or.inr (Or.inr (Or.inr (Or.inr (Or.inl (Int32.toInt_inj.mp h)))))
  · exact Or.inr (Or.inr (Or.inr (Or.inr (Or.inr (Or.inl (Int32.toInt_inj.mp h))))))
  · exact Or.inr (Or.inr (Or.inr (Or.inr (Or.inr (Or.inr (Or.inl (Int32.toInt_inj.mp h)))))))
  · exact Or.inr (Or.inr (Or.inr (Or.inr (Or.inr (Or.inr (Or.inr (Or.inl (Int32.toInt_inj.mp h))))))))
  · exact Or.inr (Or.inr (Or.inr (Or.inr (Or.inr (Or.inr (Or.inr (Or.inr (Or.inl (Int32.toInt_inj.mp h)))))))))
  · exact Or.inr (Or.inr (Or.inr (Or.inr (Or.inr (Or.inr (Or.inr (Or.inr (Or.inr (Int32.toInt_inj.mp h)))))))))
abbrev iv (x : Int32) : Slot := .val (.int x)
abbrev rv (x : Addr) : Slot := .val (.ref x)
theorem wd {Z : State} {a0 : Array Value} (hw : ∀ d ∈ tables_1, d.before a0 Z = true) (i : Nat) {d : Jvm.Cond} (q : tables_1[i]? = some d) : d.before a0 Z = true := hw _ (List.mem_of_getElem? q)
def Base (Z : State) (a0 : Array Value) (zc : Int32) (fm : Value) (aV : Addr) (kV : ClassId) (aA : Addr) (sA : Addr) (tA : Addr) (aF : Addr) (sF : Addr) (tF : Addr) (aD : Addr) (sD : Addr) (tD : Addr) : Prop := (∀ d ∈ tables_1, d.before a0 Z = true) ∧ (Sta Z Z.heap "java/lang/String" "COMPACT_STRINGS" "Z" (.int zc)) ∧ (¬ zc = 0) ∧ (Sta Z Z.heap "jdk/internal/util/Preconditions" "SIOOBE_FORMATTER" "Ljava/util/function/BiFunction;" fm) ∧ (fm.isRef = true) ∧ (Jvm.Lit.constHeld Z "java/lang/String" 7) ∧ (Jvm.Lit.constHeld Z "com/example/calm_inbox/calminbox/webhook/WebhookStatusFromWireNamePinLaw" 7) ∧ (Jvm.Lit.constHeld Z "com/example/calm_inbox/calminbox/webhook/WebhookStatusFromWireNamePinLaw" 9) ∧ (Jvm.Lit.constHeld Z "com/example/calm_inbox/calminbox/webhook/WebhookStatusFromWireNamePinLaw" 11) ∧ (Jvm.Lit.constHeld Z "com/example/calm_inbox/calminbox/webhook/WebhookStatusFromWireNamePinLaw" 13) ∧ (Jvm.Lit.compactW.before a0 Z = true) ∧ (Sta Z Z.heap "com/example/calm_inbox/calminbox/webhook/WebhookStatus" "ACTIVE" "Lcom/example/calm_inbox/calminbox/webhook/WebhookStatus;" (.ref aA)) ∧ (Fld Z Z.heap aA "com/example/calm_inbox/calminbox/webhook/WebhookStatus" "wireName" "Ljava/lang/String;" (.ref sA)) ∧ (Str Z Z.heap sA tA [(97 : Int32), (99 : Int32), (116 : Int32), (105 : Int32), (118 : Int32), (101 : Int32)]) ∧ (Sta Z Z.heap "com/example/calm_inbox/calminbox/webhook/WebhookStatus" "FAILING" "Lcom/example/calm_inbox/calminbox/webhook/WebhookStatus;" (.ref aF)) ∧ (Fld Z Z.heap aF "com/example/calm_inbox/calminbox/webhook/WebhookStatus" "wireName" "Ljava/lang/String;" (.ref sF)) ∧ (Str Z Z.heap sF tF [(102 : Int32), (97 : Int32), (105 : Int32), (108 : Int32), (105 : Int32), (110 : Int32), (103 : Int32)]) ∧ (Sta Z Z.heap "com/example/calm_inbox/calminbox/webhook/WebhookStatus" "DISABLED" "Lcom/example/calm_inbox/calminbox/webhook/WebhookStatus;" (.ref aD)) ∧ (Fld Z Z.heap aD "com/example/calm_inbox/calminbox/webhook/WebhookStatus" "wireName" "Ljava/lang/String;" (.ref sD)) ∧ (Str Z Z.heap sD tD [(100 : Int32), (105 : Int32), (115 : Int32), (97 : Int32), (98 : Int32), (108 : Int32), (101 : Int32), (100 : Int32)]) ∧ (Sta Z Z.heap "com/example/calm_inbox/calminbox/webhook/WebhookStatus" "$VALUES" "[Lcom/example/calm_inbox/calminbox/webhook/WebhookStatus;" (.ref aV)) ∧ (Exa Z Z.heap aV "[Lcom/example/calm_inbox/calminbox/webhook/WebhookStatus;") ∧ (Arv Z Z.heap aV kV (.object "com/example/calm_inbox/calminbox/webhook/WebhookStatus") 3 [.ref aA, .ref aF, .ref aD] .null)
theorem ef_c_new0 (m : MethodId) (x0 : Addr) (x1 : Addr) (x2 : Int32) (x3 : Int32) : entryFrame m #[(.ref x0), (.ref x1), (.int x2), (.int x3), .null] 6 = mkF m 0 #[rv x0, rv x1, iv x2, iv x3, .val .null, .unset] [] := by first | (simp [entryFrame, mkF, argsToLocals, Value.category]; done) | rfl
theorem pn_java_lang_String : plainName "java/lang/String" = true := by first | (simp [plainName, overriddenIn]; done) | decide +kernel
theorem d_jdk_42_m149_0 : decode jdk_42_method_149_code 0 = .ok (.aload_n 0, 1) := by decide +kernel
theorem d_jdk_42_m149_1 : decode jdk_42_method_149_code 1 = .ok (.invokespecial 1, 3) := by decide +kernel
theorem d_jdk_42_m149_4 : decode jdk_42_method_149_code 4 = .ok (.iload_n 3, 1) := by decide +kernel
theorem d_jdk_42_m149_5 : decode jdk_42_method_149_code 5 = .ok (.ifCond .ne 22, 3) := by decide +kernel
theorem d_jdk_42_m149_8 : decode jdk_42_method_149_code 8 = .ok (.aload_n 0, 1) := by decide +kernel
theorem d_jdk_42_m149_9 : decode jdk_42_method_149_code 9 = .ok (.ldc 7, 2) := by decide +kernel
theorem d_jdk_42_m149_11 : decode jdk_42_method_149_code 11 = .ok (.getfield 9, 3) := by decide +kernel
theorem d_jdk_42_m149_14 : decode jdk_42_method_149_code 14 = .ok (.putfield 9, 3) := by decide +kernel
theorem d_jdk_42_m149_17 : decode jdk_42_method_149_code 17 = .ok (.aload_n 0, 1) := by decide +kernel
theorem d_jdk_42_m149_18 : decode jdk_42_method_149_code 18 = .ok (.ldc 7, 2) := by decide +kernel
theorem d_jdk_42_m149_20 : decode jdk_42_method_149_code 20 = .ok (.getfield 15, 3) := by decide +kernel
theorem d_jdk_42_m149_23 : decode jdk_42_method_149_code 23 = .ok (.putfield 15, 3) := by decide +kernel
theorem d_jdk_42_m149_26 : decode jdk_42_method_149_code 26 = .ok (.return_, 1) := by decide +kernel
theorem ef_c_new1 (m : MethodId) (x0 : Addr) (x1 : Addr) : entryFrame m #[(.ref x0), (.ref x1)] 2 = mkF m 0 #[rv x0, rv x1] [] := by first | (simp [entryFrame, mkF, argsToLocals, Value.category]; done) | rfl
theorem d_jdk_42_m3_0 : decode jdk_42_method_3_code 0 = .ok (.aload_n 0, 1) := by decide +kernel
theorem d_jdk_42_m3_1 : decode jdk_42_method_3_code 1 = .ok (.aload_n 1, 1) := by decide +kernel
theorem d_jdk_42_m3_2 : decode jdk_42_method_3_code 2 = .ok (.iconst 0, 1) := by decide +kernel
theorem d_jdk_42_m3_3 : decode jdk_42_method_3_code 3 = .ok (.aload_n 1, 1) := by decide +kernel
theorem d_jdk_42_m3_4 : decode jdk_42_method_3_code 4 = .ok (.arraylength, 1) := by decide +kernel
theorem d_jdk_42_m3_5 : decode jdk_42_method_3_code 5 = .ok (.aconst_null, 1) := by decide +kernel
theorem d_jdk_42_m3_6 : decode jdk_42_method_3_code 6 = .ok (.invokespecial 27, 3) := by decide +kernel
theorem pd__ACIILjava_lang_Void__V : parseMethodDescriptor "([CIILjava/lang/Void;)V" = some ⟨[(.array .char), .int, .int, (.object "java/lang/Void")], none⟩ := by decide +kernel
theorem d_jdk_42_m3_9 : decode jdk_42_method_3_code 9 = .ok (.return_, 1) := by decide +kernel
theorem ef_c_ch (m : MethodId) (x0 : Addr) (x1 : Int32) (x2 : Int32) (x3 : Int32) (x4 : Int32) (x5 : Int32) : entryFrame m #[(.ref x0), (.int x1), (.int x2), (.int x3), (.int x4), (.int x5)] 7 = mkF m 0 #[rv x0, iv x1, iv x2, iv x3, iv x4, iv x5, .unset] [] := by first | (simp [entryFrame, mkF, argsToLocals, Value.category]; done) | rfl
theorem pn_com_example_calm_inbox_calminbox_webhook_WebhookStatusFromWireNamePinLaw : plainName "com/example/calm_inbox/calminbox/webhook/WebhookStatusFromWireNamePinLaw" = true := by first | (simp [plainName, overriddenIn]; done) | decide +kernel
theorem d_m3_0 : decode method_3_code 0 = .ok (.iload_n 2, 1) := by decide +kernel
theorem d_m3_1 : decode method_3_code 1 = .ok (.aload_n 0, 1) := by decide +kernel
theorem d_m3_2 : decode method_3_code 2 = .ok (.invokevirtual 15, 3) := by decide +kernel
theorem pd___I : parseMethodDescriptor "()I" = some ⟨[], some .int⟩ := by decide +kernel
theorem d_m3_5 : decode method_3_code 5 = .ok (.if_icmp .ge 17, 3) := by decide +kernel
theorem d_m3_8 : decode method_3_code 8 = .ok (.iload_n 1, 1) := by decide +kernel
theorem d_m3_9 : decode method_3_code 9 = .ok (.iload_n 2, 1) := by decide +kernel
theorem d_m3_10 : decode method_3_code 10 = .ok (.iushr, 1) := by decide +kernel
theorem d_m3_11 : decode method_3_code 11 = .ok (.iconst 1, 1) := by decide +kernel
theorem d_m3_12 : decode method_3_code 12 = .ok (.iand, 1) := by decide +kernel
theorem d_m3_13 : decode method_3_code 13 = .ok (.ifCond .ne 9, 3) := by decide +kernel
theorem d_m3_16 : decode method_3_code 16 = .ok (.aload_n 0, 1) := by decide +kernel
theorem d_m3_17 : decode method_3_code 17 = .ok (.iload_n 2, 1) := by decide +kernel
theorem d_m3_18 : decode method_3_code 18 = .ok (.invokevirtual 51, 3) := by decide +kernel
theorem pd__I_C : parseMethodDescriptor "(I)C" = some ⟨[.int], some .char⟩ := by decide +kernel
theorem d_m3_21 : decode method_3_code 21 = .ok (.ireturn, 1) := by decide +kernel
theorem d_m3_22 : decode method_3_code 22 = .ok (.iload_n 2, 1) := by decide +kernel
theorem d_m3_23 : decode method_3_code 23 = .ok (.iconst 4, 1) := by decide +kernel
theorem d_m3_24 : decode method_3_code 24 = .ok (.if_icmp .ge 7, 3) := by decide +kernel
theorem d_m3_27 : decode method_3_code 27 = .ok (.iload_n 3, 1) := by decide +kernel
theorem d_m3_28 : decode method_3_code 28 = .ok (.goto 16, 3) := by decide +kernel
theorem d_m3_44 : decode method_3_code 44 = .ok (.istore 6, 2) := by decide +kernel
theorem d_m3_46 : decode method_3_code 46 = .ok (.iload 6, 2) := by decide +kernel
theorem d_m3_48 : decode method_3_code 48 = .ok (.bipush 8, 2) := by decide +kernel
theorem d_m3_50 : decode method_3_code 50 = .ok (.iload_n 2, 1) := by decide +kernel
theorem d_m3_51 : decode method_3_code 51 = .ok (.iconst 3, 1) := by decide +kernel
theorem d_m3_52 : decode method_3_code 52 = .ok (.iand, 1) := by decide +kernel
theorem d_m3_53 : decode method_3_code 53 = .ok (.imul, 1) := by decide +kernel
theorem d_m3_54 : decode method_3_code 54 = .ok (.iushr, 1) := by decide +kernel
theorem d_m3_55 : decode method_3_code 55 = .ok (.sipush 255, 3) := by decide +kernel
theorem d_m3_58 : decode method_3_code 58 = .ok (.iand, 1) := by decide +kernel
theorem d_m3_59 : decode method_3_code 59 = .ok (.i2c, 1) := by decide +kernel
theorem d_m3_60 : decode method_3_code 60 = .ok (.ireturn, 1) := by decide +kernel
theorem d_m3_31 : decode method_3_code 31 = .ok (.iload_n 2, 1) := by decide +kernel
theorem d_m3_32 : decode method_3_code 32 = .ok (.bipush 8, 2) := by decide +kernel
theorem d_m3_34 : decode method_3_code 34 = .ok (.if_icmp .ge 8, 3) := by decide +kernel
theorem d_m3_37 : decode method_3_code 37 = .ok (.iload 4, 2) := by decide +kernel
theorem d_m3_39 : decode method_3_code 39 = .ok (.goto 5, 3) := by decide +kernel
theorem d_m3_42 : decode method_3_code 42 = .ok (.iload 5, 2) := by decide +kernel
theorem ef_c_cut (m : MethodId) (x0 : Addr) (x1 : Int32) : entryFrame m #[(.ref x0), (.int x1)] 2 = mkF m 0 #[rv x0, iv x1] [] := by first | (simp [entryFrame, mkF, argsToLocals, Value.category]; done) | rfl
theorem d_m4_0 : decode method_4_code 0 = .ok (.iload_n 1, 1) := by decide +kernel
theorem d_m4_1 : decode method_4_code 1 = .ok (.ifCond .ne 14, 3) := by decide +kernel
theorem d_m4_4 : decode method_4_code 4 = .ok (.new 16, 3) := by decide +kernel
theorem d_m4_7 : decode method_4_code 7 = .ok (.dup, 1) := by decide +kernel
theorem d_m4_8 : decode method_4_code 8 = .ok (.iconst 0, 1) := by decide +kernel
theorem d_m4_9 : decode method_4_code 9 = .ok (.newarray .char, 2) := by decide +kernel
theorem d_m4_11 : decode method_4_code 11 = .ok (.invokespecial 55, 3) := by decide +kernel
theorem pd__AC_V : parseMethodDescriptor "([C)V" = some ⟨[(.array .char)], none⟩ := by decide +kernel
theorem d_m4_14 : decode method_4_code 14 = .ok (.areturn, 1) := by decide +kernel
theorem d_m4_15 : decode method_4_code 15 = .ok (.iload_n 1, 1) := by decide +kernel
theorem d_m4_16 : decode method_4_code 16 = .ok (.iconst 1, 1) := by decide +kernel
theorem d_m4_17 : decode method_4_code 17 = .ok (.if_icmp .ne 20, 3) := by decide +kernel
theorem d_m4_20 : decode method_4_code 20 = .ok (.new 16, 3) := by decide +kernel
theorem d_m4_23 : decode method_4_code 23 = .ok (.dup, 1) := by decide +kernel
theorem d_m4_24 : decode method_4_code 24 = .ok (.iconst 1, 1) := by decide +kernel
theorem d_m4_25 : decode method_4_code 25 = .ok (.newarray .char, 2) := by decide +kernel
theorem d_m4_27 : decode method_4_code 27 = .ok (.dup, 1) := by decide +kernel
theorem d_m4_28 : decode method_4_code 28 = .ok (.iconst 0, 1) := by decide +kernel
theorem d_m4_29 : decode method_4_code 29 = .ok (.aload_n 0, 1) := by decide +kernel
theorem d_m4_30 : decode method_4_code 30 = .ok (.iconst 0, 1) := by decide +kernel
theorem d_m4_31 : decode method_4_code 31 = .ok (.caload, 1) := by decide +kernel
theorem d_m4_32 : decode method_4_code 32 = .ok (.castore, 1) := by decide +kernel
theorem d_m4_33 : decode method_4_code 33 = .ok (.invokespecial 55, 3) := by decide +kernel
theorem d_m4_36 : decode method_4_code 36 = .ok (.areturn, 1) := by decide +kernel
theorem d_m4_37 : decode method_4_code 37 = .ok (.iload_n 1, 1) := by decide +kernel
theorem d_m4_38 : decode method_4_code 38 = .ok (.iconst 2, 1) := by decide +kernel
theorem d_m4_39 : decode method_4_code 39 = .ok (.if_icmp .ne 26, 3) := by decide +kernel
theorem d_m4_42 : decode method_4_code 42 = .ok (.new 16, 3) := by decide +kernel
theorem d_m4_45 : decode method_4_code 45 = .ok (.dup, 1) := by decide +kernel
theorem d_m4_46 : decode method_4_code 46 = .ok (.iconst 2, 1) := by decide +kernel
theorem d_m4_47 : decode method_4_code 47 = .ok (.newarray .char, 2) := by decide +kernel
theorem d_m4_49 : decode method_4_code 49 = .ok (.dup, 1) := by decide +kernel
theorem d_m4_50 : decode method_4_code 50 = .ok (.iconst 0, 1) := by decide +kernel
theorem d_m4_51 : decode method_4_code 51 = .ok (.aload_n 0, 1) := by decide +kernel
theorem d_m4_52 : decode method_4_code 52 = .ok (.iconst 0, 1) := by decide +kernel
theorem d_m4_53 : decode method_4_code 53 = .ok (.caload, 1) := by decide +kernel
theorem d_m4_54 : decode method_4_code 54 = .ok (.castore, 1) := by decide +kernel
theorem d_m4_55 : decode method_4_code 55 = .ok (.dup, 1) := by decide +kernel
theorem d_m4_56 : decode method_4_code 56 = .ok (.iconst 1, 1) := by decide +kernel
theorem d_m4_57 : decode method_4_code 57 = .ok (.aload_n 0, 1) := by decide +kernel
theorem d_m4_58 : decode method_4_code 58 = .ok (.iconst 1, 1) := by decide +kernel
theorem d_m4_59 : decode method_4_code 59 = .ok (.caload, 1) := by decide +kernel
theorem d_m4_60 : decode method_4_code 60 = .ok (.castore, 1) := by decide +kernel
theorem d_m4_61 : decode method_4_code 61 = .ok (.invokespecial 55, 3) := by decide +kernel
theorem d_m4_64 : decode method_4_code 64 = .ok (.areturn, 1) := by decide +kernel
theorem d_m4_65 : decode method_4_code 65 = .ok (.iload_n 1, 1) := by decide +kernel
theorem d_m4_66 : decode method_4_code 66 = .ok (.iconst 3, 1) := by decide +kernel
theorem d_m4_67 : decode method_4_code 67 = .ok (.if_icmp .ne 32, 3) := by decide +kernel
theorem d_m4_70 : decode method_4_code 70 = .ok (.new 16, 3) := by decide +kernel
theorem d_m4_73 : decode method_4_code 73 = .ok (.dup, 1) := by decide +kernel
theorem d_m4_74 : decode method_4_code 74 = .ok (.iconst 3, 1) := by decide +kernel
theorem d_m4_75 : decode method_4_code 75 = .ok (.newarray .char, 2) := by decide +kernel
theorem d_m4_77 : decode method_4_code 77 = .ok (.dup, 1) := by decide +kernel
theorem d_m4_78 : decode method_4_code 78 = .ok (.iconst 0, 1) := by decide +kernel
theorem d_m4_79 : decode method_4_code 79 = .ok (.aload_n 0, 1) := by decide +kernel
theorem d_m4_80 : decode method_4_code 80 = .ok (.iconst 0, 1) := by decide +kernel
theorem d_m4_81 : decode method_4_code 81 = .ok (.caload, 1) := by decide +kernel
theorem d_m4_82 : decode method_4_code 82 = .ok (.castore, 1) := by decide +kernel
theorem d_m4_83 : decode method_4_code 83 = .ok (.dup, 1) := by decide +kernel
theorem d_m4_84 : decode method_4_code 84 = .ok (.iconst 1, 1) := by decide +kernel
theorem d_m4_85 : decode method_4_code 85 = .ok (.aload_n 0, 1) := by decide +kernel
theorem d_m4_86 : decode method_4_code 86 = .ok (.iconst 1, 1) := by decide +kernel
theorem d_m4_87 : decode method_4_code 87 = .ok (.caload, 1) := by decide +kernel
theorem d_m4_88 : decode method_4_code 88 = .ok (.castore, 1) := by decide +kernel
theorem d_m4_89 : decode method_4_code 89 = .ok (.dup, 1) := by decide +kernel
theorem d_m4_90 : decode method_4_code 90 = .ok (.iconst 2, 1) := by decide +kernel
theorem d_m4_91 : decode method_4_code 91 = .ok (.aload_n 0, 1) := by decide +kernel
theorem d_m4_92 : decode method_4_code 92 = .ok (.iconst 2, 1) := by decide +kernel
theorem d_m4_93 : decode method_4_code 93 = .ok (.caload, 1) := by decide +kernel
theorem d_m4_94 : decode method_4_code 94 = .ok (.castore, 1) := by decide +kernel
theorem d_m4_95 : decode method_4_code 95 = .ok (.invokespecial 55, 3) := by decide +kernel
theorem d_m4_98 : decode method_4_code 98 = .ok (.areturn, 1) := by decide +kernel
theorem d_m4_99 : decode method_4_code 99 = .ok (.iload_n 1, 1) := by decide +kernel
theorem d_m4_100 : decode method_4_code 100 = .ok (.iconst 4, 1) := by decide +kernel
theorem d_m4_101 : decode method_4_code 101 = .ok (.if_icmp .ne 38, 3) := by decide +kernel
theorem d_m4_104 : decode method_4_code 104 = .ok (.new 16, 3) := by decide +kernel
theorem d_m4_107 : decode method_4_code 107 = .ok (.dup, 1) := by decide +kernel
theorem d_m4_108 : decode method_4_code 108 = .ok (.iconst 4, 1) := by decide +kernel
theorem d_m4_109 : decode method_4_code 109 = .ok (.newarray .char, 2) := by decide +kernel
theorem d_m4_111 : decode method_4_code 111 = .ok (.dup, 1) := by decide +kernel
theorem d_m4_112 : decode method_4_code 112 = .ok (.iconst 0, 1) := by decide +kernel
theorem d_m4_113 : decode method_4_code 113 = .ok (.aload_n 0, 1) := by decide +kernel
theorem d_m4_114 : decode method_4_code 114 = .ok (.iconst 0, 1) := by decide +kernel
theorem d_m4_115 : decode method_4_code 115 = .ok (.caload, 1) := by decide +kernel
theorem d_m4_116 : decode method_4_code 116 = .ok (.castore, 1) := by decide +kernel
theorem d_m4_117 : decode method_4_code 117 = .ok (.dup, 1) := by decide +kernel
theorem d_m4_118 : decode method_4_code 118 = .ok (.iconst 1, 1) := by decide +kernel
theorem d_m4_119 : decode method_4_code 119 = .ok (.aload_n 0, 1) := by decide +kernel
theorem d_m4_120 : decode method_4_code 120 = .ok (.iconst 1, 1) := by decide +kernel
theorem d_m4_121 : decode method_4_code 121 = .ok (.caload, 1) := by decide +kernel
theorem d_m4_122 : decode method_4_code 122 = .ok (.castore, 1) := by decide +kernel
theorem d_m4_123 : decode method_4_code 123 = .ok (.dup, 1) := by decide +kernel
theorem d_m4_124 : decode method_4_code 124 = .ok (.iconst 2, 1) := by decide +kernel
theorem d_m4_125 : decode method_4_code 125 = .ok (.aload_n 0, 1) := by decide +kernel
theorem d_m4_126 : decode method_4_code 126 = .ok (.iconst 2, 1) := by decide +kernel
theorem d_m4_127 : decode method_4_code 127 = .ok (.caload, 1) := by decide +kernel
theorem d_m4_128 : decode method_4_code 128 = .ok (.castore, 1) := by decide +kernel
theorem d_m4_129 : decode method_4_code 129 = .ok (.dup, 1) := by decide +kernel
theorem d_m4_130 : decode method_4_code 130 = .ok (.iconst 3, 1) := by decide +kernel
theorem d_m4_131 : decode method_4_code 131 = .ok (.aload_n 0, 1) := by decide +kernel
theorem d_m4_132 : decode method_4_code 132 = .ok (.iconst 3, 1) := by decide +kernel
theorem d_m4_133 : decode method_4_code 133 = .ok (.caload, 1) := by decide +kernel
theorem d_m4_134 : decode method_4_code 134 = .ok (.castore, 1) := by decide +kernel
theorem d_m4_135 : decode method_4_code 135 = .ok (.invokespecial 55, 3) := by decide +kernel
theorem d_m4_138 : decode method_4_code 138 = .ok (.areturn, 1) := by decide +kernel
theorem d_m4_139 : decode method_4_code 139 = .ok (.iload_n 1, 1) := by decide +kernel
theorem d_m4_140 : decode method_4_code 140 = .ok (.iconst 5, 1) := by decide +kernel
theorem d_m4_141 : decode method_4_code 141 = .ok (.if_icmp .ne 44, 3) := by decide +kernel
theorem d_m4_144 : decode method_4_code 144 = .ok (.new 16, 3) := by decide +kernel
theorem d_m4_147 : decode method_4_code 147 = .ok (.dup, 1) := by decide +kernel
theorem d_m4_148 : decode method_4_code 148 = .ok (.iconst 5, 1) := by decide +kernel
theorem d_m4_149 : decode method_4_code 149 = .ok (.newarray .char, 2) := by decide +kernel
theorem d_m4_151 : decode method_4_code 151 = .ok (.dup, 1) := by decide +kernel
theorem d_m4_152 : decode method_4_code 152 = .ok (.iconst 0, 1) := by decide +kernel
theorem d_m4_153 : decode method_4_code 153 = .ok (.aload_n 0, 1) := by decide +kernel
theorem d_m4_154 : decode method_4_code 154 = .ok (.iconst 0, 1) := by decide +kernel
theorem d_m4_155 : decode method_4_code 155 = .ok (.caload, 1) := by decide +kernel
theorem d_m4_156 : decode method_4_code 156 = .ok (.castore, 1) := by decide +kernel
theorem d_m4_157 : decode method_4_code 157 = .ok (.dup, 1) := by decide +kernel
theorem d_m4_158 : decode method_4_code 158 = .ok (.iconst 1, 1) := by decide +kernel
theorem d_m4_159 : decode method_4_code 159 = .ok (.aload_n 0, 1) := by decide +kernel
theorem d_m4_160 : decode method_4_code 160 = .ok (.iconst 1, 1) := by decide +kernel
theorem d_m4_161 : decode method_4_code 161 = .ok (.caload, 1) := by decide +kernel
theorem d_m4_162 : decode method_4_code 162 = .ok (.castore, 1) := by decide +kernel
theorem d_m4_163 : decode method_4_code 163 = .ok (.dup, 1) := by decide +kernel
theorem d_m4_164 : decode method_4_code 164 = .ok (.iconst 2, 1) := by decide +kernel
theorem d_m4_165 : decode method_4_code 165 = .ok (.aload_n 0, 1) := by decide +kernel
theorem d_m4_166 : decode method_4_code 166 = .ok (.iconst 2, 1) := by decide +kernel
theorem d_m4_167 : decode method_4_code 167 = .ok (.caload, 1) := by decide +kernel
theorem d_m4_168 : decode method_4_code 168 = .ok (.castore, 1) := by decide +kernel
theorem d_m4_169 : decode method_4_code 169 = .ok (.dup, 1) := by decide +kernel
theorem d_m4_170 : decode method_4_code 170 = .ok (.iconst 3, 1) := by decide +kernel
theorem d_m4_171 : decode method_4_code 171 = .ok (.aload_n 0, 1) := by decide +kernel
theorem d_m4_172 : decode method_4_code 172 = .ok (.iconst 3, 1) := by decide +kernel
theorem d_m4_173 : decode method_4_code 173 = .ok (.caload, 1) := by decide +kernel
theorem d_m4_174 : decode method_4_code 174 = .ok (.castore, 1) := by decide +kernel
theorem d_m4_175 : decode method_4_code 175 = .ok (.dup, 1) := by decide +kernel
theorem d_m4_176 : decode method_4_code 176 = .ok (.iconst 4, 1) := by decide +kernel
theorem d_m4_177 : decode method_4_code 177 = .ok (.aload_n 0, 1) := by decide +kernel
theorem d_m4_178 : decode method_4_code 178 = .ok (.iconst 4, 1) := by decide +kernel
theorem d_m4_179 : decode method_4_code 179 = .ok (.caload, 1) := by decide +kernel
theorem d_m4_180 : decode method_4_code 180 = .ok (.castore, 1) := by decide +kernel
theorem d_m4_181 : decode method_4_code 181 = .ok (.invokespecial 55, 3) := by decide +kernel
theorem d_m4_184 : decode method_4_code 184 = .ok (.areturn, 1) := by decide +kernel
theorem d_m4_185 : decode method_4_code 185 = .ok (.iload_n 1, 1) := by decide +kernel
theorem d_m4_186 : decode method_4_code 186 = .ok (.bipush 6, 2) := by decide +kernel
theorem d_m4_188 : decode method_4_code 188 = .ok (.if_icmp .ne 51, 3) := by decide +kernel
theorem d_m4_191 : decode method_4_code 191 = .ok (.new 16, 3) := by decide +kernel
theorem d_m4_194 : decode method_4_code 194 = .ok (.dup, 1) := by decide +kernel
theorem d_m4_195 : decode method_4_code 195 = .ok (.bipush 6, 2) := by decide +kernel
theorem d_m4_197 : decode method_4_code 197 = .ok (.newarray .char, 2) := by decide +kernel
theorem d_m4_199 : decode method_4_code 199 = .ok (.dup, 1) := by decide +kernel
theorem d_m4_200 : decode method_4_code 200 = .ok (.iconst 0, 1) := by decide +kernel
theorem d_m4_201 : decode method_4_code 201 = .ok (.aload_n 0, 1) := by decide +kernel
theorem d_m4_202 : decode method_4_code 202 = .ok (.iconst 0, 1) := by decide +kernel
theorem d_m4_203 : decode method_4_code 203 = .ok (.caload, 1) := by decide +kernel
theorem d_m4_204 : decode method_4_code 204 = .ok (.castore, 1) := by decide +kernel
theorem d_m4_205 : decode method_4_code 205 = .ok (.dup, 1) := by decide +kernel
theorem d_m4_206 : decode method_4_code 206 = .ok (.iconst 1, 1) := by decide +kernel
theorem d_m4_207 : decode method_4_code 207 = .ok (.aload_n 0, 1) := by decide +kernel
theorem d_m4_208 : decode method_4_code 208 = .ok (.iconst 1, 1) := by decide +kernel
theorem d_m4_209 : decode method_4_code 209 = .ok (.caload, 1) := by decide +kernel
theorem d_m4_210 : decode method_4_code 210 = .ok (.castore, 1) := by decide +kernel
theorem d_m4_211 : decode method_4_code 211 = .ok (.dup, 1) := by decide +kernel
theorem d_m4_212 : decode method_4_code 212 = .ok (.iconst 2, 1) := by decide +kernel
theorem d_m4_213 : decode method_4_code 213 = .ok (.aload_n 0, 1) := by decide +kernel
theorem d_m4_214 : decode method_4_code 214 = .ok (.iconst 2, 1) := by decide +kernel
theorem d_m4_215 : decode method_4_code 215 = .ok (.caload, 1) := by decide +kernel
theorem d_m4_216 : decode method_4_code 216 = .ok (.castore, 1) := by decide +kernel
theorem d_m4_217 : decode method_4_code 217 = .ok (.dup, 1) := by decide +kernel
theorem d_m4_218 : decode method_4_code 218 = .ok (.iconst 3, 1) := by decide +kernel
theorem d_m4_219 : decode method_4_code 219 = .ok (.aload_n 0, 1) := by decide +kernel
theorem d_m4_220 : decode method_4_code 220 = .ok (.iconst 3, 1) := by decide +kernel
theorem d_m4_221 : decode method_4_code 221 = .ok (.caload, 1) := by decide +kernel
theorem d_m4_222 : decode method_4_code 222 = .ok (.castore, 1) := by decide +kernel
theorem d_m4_223 : decode method_4_code 223 = .ok (.dup, 1) := by decide +kernel
theorem d_m4_224 : decode method_4_code 224 = .ok (.iconst 4, 1) := by decide +kernel
theorem d_m4_225 : decode method_4_code 225 = .ok (.aload_n 0, 1) := by decide +kernel
theorem d_m4_226 : decode method_4_code 226 = .ok (.iconst 4, 1) := by decide +kernel
theorem d_m4_227 : decode method_4_code 227 = .ok (.caload, 1) := by decide +kernel
theorem d_m4_228 : decode method_4_code 228 = .ok (.castore, 1) := by decide +kernel
theorem d_m4_229 : decode method_4_code 229 = .ok (.dup, 1) := by decide +kernel
theorem d_m4_230 : decode method_4_code 230 = .ok (.iconst 5, 1) := by decide +kernel
theorem d_m4_231 : decode method_4_code 231 = .ok (.aload_n 0, 1) := by decide +kernel
theorem d_m4_232 : decode method_4_code 232 = .ok (.iconst 5, 1) := by decide +kernel
theorem d_m4_233 : decode method_4_code 233 = .ok (.caload, 1) := by decide +kernel
theorem d_m4_234 : decode method_4_code 234 = .ok (.castore, 1) := by decide +kernel
theorem d_m4_235 : decode method_4_code 235 = .ok (.invokespecial 55, 3) := by decide +kernel
theorem d_m4_238 : decode method_4_code 238 = .ok (.areturn, 1) := by decide +kernel
theorem d_m4_239 : decode method_4_code 239 = .ok (.iload_n 1, 1) := by decide +kernel
theorem d_m4_240 : decode method_4_code 240 = .ok (.bipush 7, 2) := by decide +kernel
theorem d_m4_242 : decode method_4_code 242 = .ok (.if_icmp .ne 59, 3) := by decide +kernel
theorem d_m4_245 : decode method_4_code 245 = .ok (.new 16, 3) := by decide +kernel
theorem d_m4_248 : decode method_4_code 248 = .ok (.dup, 1) := by decide +kernel
theorem d_m4_249 : decode method_4_code 249 = .ok (.bipush 7, 2) := by decide +kernel
theorem d_m4_251 : decode method_4_code 251 = .ok (.newarray .char, 2) := by decide +kernel
theorem d_m4_253 : decode method_4_code 253 = .ok (.dup, 1) := by decide +kernel
theorem d_m4_254 : decode method_4_code 254 = .ok (.iconst 0, 1) := by decide +kernel
theorem d_m4_255 : decode method_4_code 255 = .ok (.aload_n 0, 1) := by decide +kernel
theorem d_m4_256 : decode method_4_code 256 = .ok (.iconst 0, 1) := by decide +kernel
theorem d_m4_257 : decode method_4_code 257 = .ok (.caload, 1) := by decide +kernel
theorem d_m4_258 : decode method_4_code 258 = .ok (.castore, 1) := by decide +kernel
theorem d_m4_259 : decode method_4_code 259 = .ok (.dup, 1) := by decide +kernel
theorem d_m4_260 : decode method_4_code 260 = .ok (.iconst 1, 1) := by decide +kernel
theorem d_m4_261 : decode method_4_code 261 = .ok (.aload_n 0, 1) := by decide +kernel
theorem d_m4_262 : decode method_4_code 262 = .ok (.iconst 1, 1) := by decide +kernel
theorem d_m4_263 : decode method_4_code 263 = .ok (.caload, 1) := by decide +kernel
theorem d_m4_264 : decode method_4_code 264 = .ok (.castore, 1) := by decide +kernel
theorem d_m4_265 : decode method_4_code 265 = .ok (.dup, 1) := by decide +kernel
theorem d_m4_266 : decode method_4_code 266 = .ok (.iconst 2, 1) := by decide +kernel
theorem d_m4_267 : decode method_4_code 267 = .ok (.aload_n 0, 1) := by decide +kernel
theorem d_m4_268 : decode method_4_code 268 = .ok (.iconst 2, 1) := by decide +kernel
theorem d_m4_269 : decode method_4_code 269 = .ok (.caload, 1) := by decide +kernel
theorem d_m4_270 : decode method_4_code 270 = .ok (.castore, 1) := by decide +kernel
theorem d_m4_271 : decode method_4_code 271 = .ok (.dup, 1) := by decide +kernel
theorem d_m4_272 : decode method_4_code 272 = .ok (.iconst 3, 1) := by decide +kernel
theorem d_m4_273 : decode method_4_code 273 = .ok (.aload_n 0, 1) := by decide +kernel
theorem d_m4_274 : decode method_4_code 274 = .ok (.iconst 3, 1) := by decide +kernel
theorem d_m4_275 : decode method_4_code 275 = .ok (.caload, 1) := by decide +kernel
theorem d_m4_276 : decode method_4_code 276 = .ok (.castore, 1) := by decide +kernel
theorem d_m4_277 : decode method_4_code 277 = .ok (.dup, 1) := by decide +kernel
theorem d_m4_278 : decode method_4_code 278 = .ok (.iconst 4, 1) := by decide +kernel
theorem d_m4_279 : decode method_4_code 279 = .ok (.aload_n 0, 1) := by decide +kernel
theorem d_m4_280 : decode method_4_code 280 = .ok (.iconst 4, 1) := by decide +kernel
theorem d_m4_281 : decode method_4_code 281 = .ok (.caload, 1) := by decide +kernel
theorem d_m4_282 : decode method_4_code 282 = .ok (.castore, 1) := by decide +kernel
theorem d_m4_283 : decode method_4_code 283 = .ok (.dup, 1) := by decide +kernel
theorem d_m4_284 : decode method_4_code 284 = .ok (.iconst 5, 1) := by decide +kernel
theorem d_m4_285 : decode method_4_code 285 = .ok (.aload_n 0, 1) := by decide +kernel
theorem d_m4_286 : decode method_4_code 286 = .ok (.iconst 5, 1) := by decide +kernel
theorem d_m4_287 : decode method_4_code 287 = .ok (.caload, 1) := by decide +kernel
theorem d_m4_288 : decode method_4_code 288 = .ok (.castore, 1) := by decide +kernel
theorem d_m4_289 : decode method_4_code 289 = .ok (.dup, 1) := by decide +kernel
theorem d_m4_290 : decode method_4_code 290 = .ok (.bipush 6, 2) := by decide +kernel
theorem d_m4_292 : decode method_4_code 292 = .ok (.aload_n 0, 1) := by decide +kernel
theorem d_m4_293 : decode method_4_code 293 = .ok (.bipush 6, 2) := by decide +kernel
theorem d_m4_295 : decode method_4_code 295 = .ok (.caload, 1) := by decide +kernel
theorem d_m4_296 : decode method_4_code 296 = .ok (.castore, 1) := by decide +kernel
theorem d_m4_297 : decode method_4_code 297 = .ok (.invokespecial 55, 3) := by decide +kernel
theorem d_m4_300 : decode method_4_code 300 = .ok (.areturn, 1) := by decide +kernel
theorem d_m4_301 : decode method_4_code 301 = .ok (.iload_n 1, 1) := by decide +kernel
theorem d_m4_302 : decode method_4_code 302 = .ok (.bipush 8, 2) := by decide +kernel
theorem d_m4_304 : decode method_4_code 304 = .ok (.if_icmp .ne 67, 3) := by decide +kernel
theorem d_m4_307 : decode method_4_code 307 = .ok (.new 16, 3) := by decide +kernel
theorem d_m4_310 : decode method_4_code 310 = .ok (.dup, 1) := by decide +kernel
theorem d_m4_311 : decode method_4_code 311 = .ok (.bipush 8, 2) := by decide +kernel
theorem d_m4_313 : decode method_4_code 313 = .ok (.newarray .char, 2) := by decide +kernel
theorem d_m4_315 : decode method_4_code 315 = .ok (.dup, 1) := by decide +kernel
theorem d_m4_316 : decode method_4_code 316 = .ok (.iconst 0, 1) := by decide +kernel
theorem d_m4_317 : decode method_4_code 317 = .ok (.aload_n 0, 1) := by decide +kernel
theorem d_m4_318 : decode method_4_code 318 = .ok (.iconst 0, 1) := by decide +kernel
theorem d_m4_319 : decode method_4_code 319 = .ok (.caload, 1) := by decide +kernel
theorem d_m4_320 : decode method_4_code 320 = .ok (.castore, 1) := by decide +kernel
theorem d_m4_321 : decode method_4_code 321 = .ok (.dup, 1) := by decide +kernel
theorem d_m4_322 : decode method_4_code 322 = .ok (.iconst 1, 1) := by decide +kernel
theorem d_m4_323 : decode method_4_code 323 = .ok (.aload_n 0, 1) := by decide +kernel
theorem d_m4_324 : decode method_4_code 324 = .ok (.iconst 1, 1) := by decide +kernel
theorem d_m4_325 : decode method_4_code 325 = .ok (.caload, 1) := by decide +kernel
theorem d_m4_326 : decode method_4_code 326 = .ok (.castore, 1) := by decide +kernel
theorem d_m4_327 : decode method_4_code 327 = .ok (.dup, 1) := by decide +kernel
theorem d_m4_328 : decode method_4_code 328 = .ok (.iconst 2, 1) := by decide +kernel
theorem d_m4_329 : decode method_4_code 329 = .ok (.aload_n 0, 1) := by decide +kernel
theorem d_m4_330 : decode method_4_code 330 = .ok (.iconst 2, 1) := by decide +kernel
theorem d_m4_331 : decode method_4_code 331 = .ok (.caload, 1) := by decide +kernel
theorem d_m4_332 : decode method_4_code 332 = .ok (.castore, 1) := by decide +kernel
theorem d_m4_333 : decode method_4_code 333 = .ok (.dup, 1) := by decide +kernel
theorem d_m4_334 : decode method_4_code 334 = .ok (.iconst 3, 1) := by decide +kernel
theorem d_m4_335 : decode method_4_code 335 = .ok (.aload_n 0, 1) := by decide +kernel
theorem d_m4_336 : decode method_4_code 336 = .ok (.iconst 3, 1) := by decide +kernel
theorem d_m4_337 : decode method_4_code 337 = .ok (.caload, 1) := by decide +kernel
theorem d_m4_338 : decode method_4_code 338 = .ok (.castore, 1) := by decide +kernel
theorem d_m4_339 : decode method_4_code 339 = .ok (.dup, 1) := by decide +kernel
theorem d_m4_340 : decode method_4_code 340 = .ok (.iconst 4, 1) := by decide +kernel
theorem d_m4_341 : decode method_4_code 341 = .ok (.aload_n 0, 1) := by decide +kernel
theorem d_m4_342 : decode method_4_code 342 = .ok (.iconst 4, 1) := by decide +kernel
theorem d_m4_343 : decode method_4_code 343 = .ok (.caload, 1) := by decide +kernel
theorem d_m4_344 : decode method_4_code 344 = .ok (.castore, 1) := by decide +kernel
theorem d_m4_345 : decode method_4_code 345 = .ok (.dup, 1) := by decide +kernel
theorem d_m4_346 : decode method_4_code 346 = .ok (.iconst 5, 1) := by decide +kernel
theorem d_m4_347 : decode method_4_code 347 = .ok (.aload_n 0, 1) := by decide +kernel
theorem d_m4_348 : decode method_4_code 348 = .ok (.iconst 5, 1) := by decide +kernel
theorem d_m4_349 : decode method_4_code 349 = .ok (.caload, 1) := by decide +kernel
theorem d_m4_350 : decode method_4_code 350 = .ok (.castore, 1) := by decide +kernel
theorem d_m4_351 : decode method_4_code 351 = .ok (.dup, 1) := by decide +kernel
theorem d_m4_352 : decode method_4_code 352 = .ok (.bipush 6, 2) := by decide +kernel
theorem d_m4_354 : decode method_4_code 354 = .ok (.aload_n 0, 1) := by decide +kernel
theorem d_m4_355 : decode method_4_code 355 = .ok (.bipush 6, 2) := by decide +kernel
theorem d_m4_357 : decode method_4_code 357 = .ok (.caload, 1) := by decide +kernel
theorem d_m4_358 : decode method_4_code 358 = .ok (.castore, 1) := by decide +kernel
theorem d_m4_359 : decode method_4_code 359 = .ok (.dup, 1) := by decide +kernel
theorem d_m4_360 : decode method_4_code 360 = .ok (.bipush 7, 2) := by decide +kernel
theorem d_m4_362 : decode method_4_code 362 = .ok (.aload_n 0, 1) := by decide +kernel
theorem d_m4_363 : decode method_4_code 363 = .ok (.bipush 7, 2) := by decide +kernel
theorem d_m4_365 : decode method_4_code 365 = .ok (.caload, 1) := by decide +kernel
theorem d_m4_366 : decode method_4_code 366 = .ok (.castore, 1) := by decide +kernel
theorem d_m4_367 : decode method_4_code 367 = .ok (.invokespecial 55, 3) := by decide +kernel
theorem d_m4_370 : decode method_4_code 370 = .ok (.areturn, 1) := by decide +kernel
theorem d_m4_371 : decode method_4_code 371 = .ok (.new 16, 3) := by decide +kernel
theorem d_m4_374 : decode method_4_code 374 = .ok (.dup, 1) := by decide +kernel
theorem d_m4_375 : decode method_4_code 375 = .ok (.bipush 9, 2) := by decide +kernel
theorem d_m4_377 : decode method_4_code 377 = .ok (.newarray .char, 2) := by decide +kernel
theorem d_m4_379 : decode method_4_code 379 = .ok (.dup, 1) := by decide +kernel
theorem d_m4_380 : decode method_4_code 380 = .ok (.iconst 0, 1) := by decide +kernel
theorem d_m4_381 : decode method_4_code 381 = .ok (.aload_n 0, 1) := by decide +kernel
theorem d_m4_382 : decode method_4_code 382 = .ok (.iconst 0, 1) := by decide +kernel
theorem d_m4_383 : decode method_4_code 383 = .ok (.caload, 1) := by decide +kernel
theorem d_m4_384 : decode method_4_code 384 = .ok (.castore, 1) := by decide +kernel
theorem d_m4_385 : decode method_4_code 385 = .ok (.dup, 1) := by decide +kernel
theorem d_m4_386 : decode method_4_code 386 = .ok (.iconst 1, 1) := by decide +kernel
theorem d_m4_387 : decode method_4_code 387 = .ok (.aload_n 0, 1) := by decide +kernel
theorem d_m4_388 : decode method_4_code 388 = .ok (.iconst 1, 1) := by decide +kernel
theorem d_m4_389 : decode method_4_code 389 = .ok (.caload, 1) := by decide +kernel
theorem d_m4_390 : decode method_4_code 390 = .ok (.castore, 1) := by decide +kernel
theorem d_m4_391 : decode method_4_code 391 = .ok (.dup, 1) := by decide +kernel
theorem d_m4_392 : decode method_4_code 392 = .ok (.iconst 2, 1) := by decide +kernel
theorem d_m4_393 : decode method_4_code 393 = .ok (.aload_n 0, 1) := by decide +kernel
theorem d_m4_394 : decode method_4_code 394 = .ok (.iconst 2, 1) := by decide +kernel
theorem d_m4_395 : decode method_4_code 395 = .ok (.caload, 1) := by decide +kernel
theorem d_m4_396 : decode method_4_code 396 = .ok (.castore, 1) := by decide +kernel
theorem d_m4_397 : decode method_4_code 397 = .ok (.dup, 1) := by decide +kernel
theorem d_m4_398 : decode method_4_code 398 = .ok (.iconst 3, 1) := by decide +kernel
theorem d_m4_399 : decode method_4_code 399 = .ok (.aload_n 0, 1) := by decide +kernel
theorem d_m4_400 : decode method_4_code 400 = .ok (.iconst 3, 1) := by decide +kernel
theorem d_m4_401 : decode method_4_code 401 = .ok (.caload, 1) := by decide +kernel
theorem d_m4_402 : decode method_4_code 402 = .ok (.castore, 1) := by decide +kernel
theorem d_m4_403 : decode method_4_code 403 = .ok (.dup, 1) := by decide +kernel
theorem d_m4_404 : decode method_4_code 404 = .ok (.iconst 4, 1) := by decide +kernel
theorem d_m4_405 : decode method_4_code 405 = .ok (.aload_n 0, 1) := by decide +kernel
theorem d_m4_406 : decode method_4_code 406 = .ok (.iconst 4, 1) := by decide +kernel
theorem d_m4_407 : decode method_4_code 407 = .ok (.caload, 1) := by decide +kernel
theorem d_m4_408 : decode method_4_code 408 = .ok (.castore, 1) := by decide +kernel
theorem d_m4_409 : decode method_4_code 409 = .ok (.dup, 1) := by decide +kernel
theorem d_m4_410 : decode method_4_code 410 = .ok (.iconst 5, 1) := by decide +kernel
theorem d_m4_411 : decode method_4_code 411 = .ok (.aload_n 0, 1) := by decide +kernel
theorem d_m4_412 : decode method_4_code 412 = .ok (.iconst 5, 1) := by decide +kernel
theorem d_m4_413 : decode method_4_code 413 = .ok (.caload, 1) := by decide +kernel
theorem d_m4_414 : decode method_4_code 414 = .ok (.castore, 1) := by decide +kernel
theorem d_m4_415 : decode method_4_code 415 = .ok (.dup, 1) := by decide +kernel
theorem d_m4_416 : decode method_4_code 416 = .ok (.bipush 6, 2) := by decide +kernel
theorem d_m4_418 : decode method_4_code 418 = .ok (.aload_n 0, 1) := by decide +kernel
theorem d_m4_419 : decode method_4_code 419 = .ok (.bipush 6, 2) := by decide +kernel
theorem d_m4_421 : decode method_4_code 421 = .ok (.caload, 1) := by decide +kernel
theorem d_m4_422 : decode method_4_code 422 = .ok (.castore, 1) := by decide +kernel
theorem d_m4_423 : decode method_4_code 423 = .ok (.dup, 1) := by decide +kernel
theorem d_m4_424 : decode method_4_code 424 = .ok (.bipush 7, 2) := by decide +kernel
theorem d_m4_426 : decode method_4_code 426 = .ok (.aload_n 0, 1) := by decide +kernel
theorem d_m4_427 : decode method_4_code 427 = .ok (.bipush 7, 2) := by decide +kernel
theorem d_m4_429 : decode method_4_code 429 = .ok (.caload, 1) := by decide +kernel
theorem d_m4_430 : decode method_4_code 430 = .ok (.castore, 1) := by decide +kernel
theorem d_m4_431 : decode method_4_code 431 = .ok (.dup, 1) := by decide +kernel
theorem d_m4_432 : decode method_4_code 432 = .ok (.bipush 8, 2) := by decide +kernel
theorem d_m4_434 : decode method_4_code 434 = .ok (.aload_n 0, 1) := by decide +kernel
theorem d_m4_435 : decode method_4_code 435 = .ok (.bipush 8, 2) := by decide +kernel
theorem d_m4_437 : decode method_4_code 437 = .ok (.caload, 1) := by decide +kernel
theorem d_m4_438 : decode method_4_code 438 = .ok (.castore, 1) := by decide +kernel
theorem d_m4_439 : decode method_4_code 439 = .ok (.invokespecial 55, 3) := by decide +kernel
theorem d_m4_442 : decode method_4_code 442 = .ok (.areturn, 1) := by decide +kernel
theorem ef_c_values (m : MethodId)  : entryFrame m #[] 0 = mkF m 0 #[] [] := by first | (simp [entryFrame, mkF, argsToLocals, Value.category]; done) | rfl
theorem pn_com_example_calm_inbox_calminbox_webhook_WebhookStatus : plainName "com/example/calm_inbox/calminbox/webhook/WebhookStatus" = true := by first | (simp [plainName, overriddenIn]; done) | decide +kernel
theorem d_prog_22_m1_0 : decode prog_22_method_1_code 0 = .ok (.getstatic 13, 3) := by decide +kernel
theorem d_prog_22_m1_3 : decode prog_22_method_1_code 3 = .ok (.invokevirtual 17, 3) := by decide +kernel
theorem d_prog_22_m1_6 : decode prog_22_method_1_code 6 = .ok (.checkcast 18, 3) := by decide +kernel
theorem d_prog_22_m1_9 : decode prog_22_method_1_code 9 = .ok (.areturn, 1) := by decide +kernel
theorem ef_c_fw0 (m : MethodId) (x0 : Addr) : entryFrame m #[(.ref x0)] 5 = mkF m 0 #[rv x0, .unset, .unset, .unset, .unset] [] := by first | (simp [entryFrame, mkF, argsToLocals, Value.category]; done) | rfl
theorem d_prog_22_m5_0 : decode prog_22_method_5_code 0 = .ok (.invokestatic 36, 3) := by decide +kernel
theorem pd___ALcom_example_calm_inbox_calminbox_webhook_WebhookStatus_ : parseMethodDescriptor "()[Lcom/example/calm_inbox/calminbox/webhook/WebhookStatus;" = some ⟨[], some (.array (.object "com/example/calm_inbox/calminbox/webhook/WebhookStatus"))⟩ := by decide +kernel
theorem d_prog_22_m5_3 : decode prog_22_method_5_code 3 = .ok (.astore_n 1, 1) := by decide +kernel
theorem d_prog_22_m5_4 : decode prog_22_method_5_code 4 = .ok (.aload_n 1, 1) := by decide +kernel
theorem d_prog_22_m5_5 : decode prog_22_method_5_code 5 = .ok (.arraylength, 1) := by decide +kernel
theorem d_prog_22_m5_6 : decode prog_22_method_5_code 6 = .ok (.istore_n 2, 1) := by decide +kernel
theorem d_prog_22_m5_7 : decode prog_22_method_5_code 7 = .ok (.iconst 0, 1) := by decide +kernel
theorem d_prog_22_m5_8 : decode prog_22_method_5_code 8 = .ok (.istore_n 3, 1) := by decide +kernel
theorem d_prog_22_m5_9 : decode prog_22_method_5_code 9 = .ok (.iload_n 3, 1) := by decide +kernel
theorem d_prog_22_m5_10 : decode prog_22_method_5_code 10 = .ok (.iload_n 2, 1) := by decide +kernel
theorem d_prog_22_m5_11 : decode prog_22_method_5_code 11 = .ok (.if_icmp .ge 29, 3) := by decide +kernel
theorem d_prog_22_m5_14 : decode prog_22_method_5_code 14 = .ok (.aload_n 1, 1) := by decide +kernel
theorem d_prog_22_m5_15 : decode prog_22_method_5_code 15 = .ok (.iload_n 3, 1) := by decide +kernel
theorem d_prog_22_m5_16 : decode prog_22_method_5_code 16 = .ok (.aaload, 1) := by decide +kernel
theorem d_prog_22_m5_17 : decode prog_22_method_5_code 17 = .ok (.astore 4, 2) := by decide +kernel
theorem d_prog_22_m5_19 : decode prog_22_method_5_code 19 = .ok (.aload 4, 2) := by decide +kernel
theorem d_prog_22_m5_21 : decode prog_22_method_5_code 21 = .ok (.getfield 32, 3) := by decide +kernel
theorem d_prog_22_m5_24 : decode prog_22_method_5_code 24 = .ok (.aload_n 0, 1) := by decide +kernel
theorem d_prog_22_m5_25 : decode prog_22_method_5_code 25 = .ok (.invokevirtual 40, 3) := by decide +kernel
theorem pd__Ljava_lang_Object__Z : parseMethodDescriptor "(Ljava/lang/Object;)Z" = some ⟨[(.object "java/lang/Object")], some .boolean⟩ := by decide +kernel
theorem d_prog_22_m5_28 : decode prog_22_method_5_code 28 = .ok (.ifCond .eq 6, 3) := by decide +kernel
theorem d_prog_22_m5_31 : decode prog_22_method_5_code 31 = .ok (.aload 4, 2) := by decide +kernel
theorem d_prog_22_m5_33 : decode prog_22_method_5_code 33 = .ok (.areturn, 1) := by decide +kernel
theorem ef_c_fw1 (m : MethodId) (x0 : Addr) : entryFrame m #[(.ref x0)] 5 = mkF m 0 #[rv x0, .unset, .unset, .unset, .unset] [] := by first | (simp [entryFrame, mkF, argsToLocals, Value.category]; done) | rfl
theorem d_prog_22_m5_34 : decode prog_22_method_5_code 34 = .ok (.iinc 3 1, 3) := by decide +kernel
theorem d_prog_22_m5_37 : decode prog_22_method_5_code 37 = .ok (.goto (-28), 3) := by decide +kernel
theorem ef_c_fw2 (m : MethodId) (x0 : Addr) : entryFrame m #[(.ref x0)] 5 = mkF m 0 #[rv x0, .unset, .unset, .unset, .unset] [] := by first | (simp [entryFrame, mkF, argsToLocals, Value.category]; done) | rfl
theorem ef_c_fw3 (m : MethodId) (x0 : Addr) : entryFrame m #[(.ref x0)] 5 = mkF m 0 #[rv x0, .unset, .unset, .unset, .unset] [] := by first | (simp [entryFrame, mkF, argsToLocals, Value.category]; done) | rfl
theorem d_prog_22_m5_40 : decode prog_22_method_5_code 40 = .ok (.aconst_null, 1) := by decide +kernel
theorem d_prog_22_m5_41 : decode prog_22_method_5_code 41 = .ok (.areturn, 1) := by decide +kernel
theorem ef_c_law (m : MethodId) (x0 : Int32) (x1 : Int32) (x2 : Int32) (x3 : Int32) (x4 : Int32) : entryFrame m #[(.int x0), (.int x1), (.int x2), (.int x3), (.int x4)] maxLocals = mkF m 0 #[iv x0, iv x1, iv x2, iv x3, iv x4, .unset, .unset, .unset, .unset, .unset, .unset, .unset] [] := by first | (simp [entryFrame, mkF, argsToLocals, Value.category, maxLocals]; done) | rfl
theorem pd__Ljava_lang_String_IIIII_C : parseMethodDescriptor "(Ljava/lang/String;IIIII)C" = some ⟨[(.object "java/lang/String"), .int, .int, .int, .int, .int], some .char⟩ := by decide +kernel
theorem pd__ACI_Ljava_lang_String_ : parseMethodDescriptor "([CI)Ljava/lang/String;" = some ⟨[(.array .char), .int], some (.object "java/lang/String")⟩ := by decide +kernel
theorem pd__Ljava_lang_String__Lcom_example_calm_inbox_calminbox_webhook_WebhookStatus_ : parseMethodDescriptor "(Ljava/lang/String;)Lcom/example/calm_inbox/calminbox/webhook/WebhookStatus;" = some ⟨[(.object "java/lang/String")], some (.object "com/example/calm_inbox/calminbox/webhook/WebhookStatus")⟩ := by decide +kernel
set_option maxRecDepth 65536 in
set_option maxHeartbeats 40000000 in
theorem c_new0 (l : Launch) {Z : State} {a0 : Array Value} {zc : Int32} {fm : Value} {aV : Addr} {kV : ClassId} {aA : Addr} {sA : Addr} {tA : Addr} {aF : Addr} {sF : Addr} {tF : Addr} {aD : Addr} {sD : Addr} {tD : Addr} (B : Base Z a0 zc fm aV kV aA sA tA aF sF tF aD sD tD) (Ts : List String) (P : Vm → Prop) (hP : ∀ (U : State) (vm1 : Vm), U.Warmed39 vm1 → P U.vm → P vm1) (x b : Addr) (h0 : Heap) (O : Ext Z.heap h0) (E : Exa Z h0 x "java/lang/String") (G1 : Fld Z h0 x "java/lang/String" "value" "[B" .null) (G2 : Fld Z h0 x "java/lang/String" "coder" "B" (.int (0 : Int32))) (gx : Z.heap.size ≤ x) :
    MetW l Z (⟨"java/lang/String", "<init>", "([CIILjava/lang/Void;)V"⟩ : MethodName) jdk_42_method_149_code 6 none [] ({ frames := 1, cells := 2, slots := 4, locals := 12 } : Room) #[(.ref x), (.ref b), (.int (0 : Int32)), (.int (0 : Int32)), .null] h0 [x] ((EG Z Ts P h0)) (fun v vm h => v = none ∧ (P vm ∧ IB Z vm ("" :: Ts)) ∧ ∃ t, Str Z h x t [] ∧ h.size > t) := by
  have B0 := B
  obtain ⟨hw, SC0, hz0, SF1, rf1, hh7, hhA, hhF, hhD, hhE, hcw, SaA, FaA, TaA, SaF, FaF, TaF, SaD, FaD, TaD, SaV, XaV, AaV⟩ := B
  refine MetW.mk (plainFor_of_name pn_java_lang_String) (fun m => ef_c_new0 m x b (0 : Int32) (0 : Int32)) O ?_
  intro p e s m below meth c T0 hx hby hml hret hlk hnm hsh H0
  have zs : s.heap.size = h0.size := by rw [hsh]
  have lx := natlt (E).lt
  refine Rn.pu (T' := T0) (g' := (mkF m 1 #[rv x, rv b, iv 0, iv 0, .val .null, .unset] [(.ref x)])) ?_ fun _ zk => XS.aloadN H0.here hx rfl (hb hby d_jdk_42_m149_0) rfl rfl zk
  obtain ⟨T1, H1, st1⟩ := H0.initO (wd hw 59 rfl) (wd hw 60 rfl) (wd hw 61 rfl) (g := (mkF m 1 #[rv x, rv b, iv 0, iv 0, .val .null, .unset] [(.ref x)])) rfl (by rw [hml]; rfl) rfl (hb hby d_jdk_42_m149_1) (by decide) (W := 0) (Nat.le_of_eq rfl) (by decide)
  refine Rn.pu (g' := (mkF m 4 #[rv x, rv b, iv 0, iv 0, .val .null, .unset] [])) ?_ st1
  refine Rn.pu (T' := T1) (g' := (mkF m 5 #[rv x, rv b, iv 0, iv 0, .val .null, .unset] [(.int (0 : Int32))])) ?_ fun _ zk => XS.iloadN H1.here hx rfl (hb hby d_jdk_42_m149_4) rfl zk
  refine Rn.pu (T' := T1) (g' := (mkF m 8 #[rv x, rv b, iv 0, iv 0, .val .null, .unset] [])) ?_ fun _ zk => XS.ifNo H1.here hx rfl (hb hby d_jdk_42_m149_5) rfl (z_ne_f rfl) zk
  refine Rn.pu (T' := T1) (g' := (mkF m 9 #[rv x, rv b, iv 0, iv 0, .val .null, .unset] [(.ref x)])) ?_ fun _ zk => XS.aloadN H1.here hx rfl (hb hby d_jdk_42_m149_8) rfl rfl zk
  obtain ⟨al, tl, T9, h9, H9, K9, S9, st9⟩ := H1.ldcO (own2 := "java/lang/String") (i2 := 7) (Ts := "" :: Ts) (P := P) (fun vm q => ⟨by rw [hsh]; exact q.2.2, by rw [hsh]; exact q.2.2, q.2.1, q.1⟩) hP (wd hw 108 rfl) (hws_sa hw) (g := (mkF m 9 #[rv x, rv b, iv 0, iv 0, .val .null, .unset] [(.ref x)])) rfl (hb hby d_jdk_42_m149_9) (by decide) (by decide)
  have zh9 := K9.1
  have H9 := H9.reV (V' := (fun vm => P vm ∧ IB Z vm ("" :: "" :: Ts) ∧ Lv Z "java/lang/String" 7 al vm)) (fun _ q => ⟨q.2.2.1, q.1, q.2.1⟩)
  obtain ⟨nea, net⟩ := S9.ne_new (E.keep K9) (G1.keep K9 nin0) (wd hw 2 rfl)
  have H9 := H9.weak (ws' := [x]) (fun _ q => nomatch q) (allS gx all0)
  refine Rn.pu (g' := (mkF m 11 #[rv x, rv b, iv 0, iv 0, .val .null, .unset] [(.ref al), (.ref x)])) ?_ st9
  obtain ⟨T2, H2, st2⟩ := H9.getF (host := "") (Or.inl (wd hw 13 rfl)) Via.refl S9.fv (g := (mkF m 11 #[rv x, rv b, iv 0, iv 0, .val .null, .unset] [(.ref al), (.ref x)])) rfl rfl (hb hby d_jdk_42_m149_11)
  refine Rn.pu (g' := (mkF m 14 #[rv x, rv b, iv 0, iv 0, .val .null, .unset] [(.ref tl), (.ref x)])) ?_ st2
  obtain ⟨T3, h3, H3, K3, W3, st3⟩ := H2.putF (host := "") (Or.inl (wd hw 13 rfl)) Via.refl (G1.keep K9 nin0) (E.keep K9) (Or.inr ⟨(wd hw 4 rfl), rfl, hnm⟩) (wd hw 2 rfl) (ty := (.array .byte)) (by decide) rfl rfl (Or.inl (List.mem_singleton.mpr rfl)) (g := (mkF m 14 #[rv x, rv b, iv 0, iv 0, .val .null, .unset] [(.ref tl), (.ref x)])) rfl rfl (hb hby d_jdk_42_m149_14)
  have zh3 := K3.1
  have F3_value : Fld Z h3 x "java/lang/String" "value" "[B" (.ref tl) := (G1.keep K9 nin0).same W3
  have E3 := (E.keep K9).keep K3
  have F3_coder : Fld Z h3 x "java/lang/String" "coder" "B" (.int (0 : Int32)) := (G2.keep K9 nin0).other W3 (Or.inr (slot_ne (Or.inr (wd hw 5 rfl)) (Or.inr (wd hw 4 rfl)) (by decide) (t := .byte) (t' := (.array .byte)) (by decide) (by decide)))
  refine Rn.pu (g' := (mkF m 17 #[rv x, rv b, iv 0, iv 0, .val .null, .unset] [])) ?_ st3
  refine Rn.pu (T' := T3) (g' := (mkF m 18 #[rv x, rv b, iv 0, iv 0, .val .null, .unset] [(.ref x)])) ?_ fun _ zk => XS.aloadN H3.here hx rfl (hb hby d_jdk_42_m149_17) rfl rfl zk
  refine Rn.pu (g' := (mkF m 20 #[rv x, rv b, iv 0, iv 0, .val .null, .unset] [(.ref al), (.ref x)])) ?_ (H3.ldcA (a := al) (fun _ q => q.2.2) (wd hw 108 rfl) (g := (mkF m 18 #[rv x, rv b, iv 0, iv 0, .val .null, .unset] [(.ref x)])) rfl (hb hby d_jdk_42_m149_18))
  obtain ⟨T4, H4, st4⟩ := H3.getF (host := "") (Or.inl (wd hw 20 rfl)) Via.refl ((S9.fc mem0).keep K3 (ninS (adne (by omega)) nin0)) (g := (mkF m 20 #[rv x, rv b, iv 0, iv 0, .val .null, .unset] [(.ref al), (.ref x)])) rfl rfl (hb hby d_jdk_42_m149_20)
  refine Rn.pu (g' := (mkF m 23 #[rv x, rv b, iv 0, iv 0, .val .null, .unset] [(.int (0 : Int32)), (.ref x)])) ?_ st4
  obtain ⟨T5, h5, H5, K5, W5, st5⟩ := H4.putF (host := "") (Or.inl (wd hw 20 rfl)) Via.refl F3_coder E3 (Or.inr ⟨(wd hw 5 rfl), rfl, hnm⟩) (wd hw 2 rfl) (ty := .byte) (by decide) rfl rfl (Or.inl (List.mem_singleton.mpr rfl)) (g := (mkF m 23 #[rv x, rv b, iv 0, iv 0, .val .null, .unset] [(.int (0 : Int32)), (.ref x)])) rfl rfl (hb hby d_jdk_42_m149_23)
  have zh5 := K5.1
  have F5_coder : Fld Z h5 x "java/lang/String" "coder" "B" (.int (0 : Int32)) := F3_coder.same W5
  have E5 := E3.keep K5
  have F5_value : Fld Z h5 x "java/lang/String" "value" "[B" (.ref tl) := F3_value.other W5 (Or.inr (slot_ne (Or.inr (wd hw 4 rfl)) (Or.inr (wd hw 5 rfl)) (by decide) (t := (.array .byte)) (t' := .byte) (by decide) (by decide)))
  refine Rn.pu (g' := (mkF m 26 #[rv x, rv b, iv 0, iv 0, .val .null, .unset] [])) ?_ st5
  have SE := ((S9.keep K3 (ninS (adne (by omega)) nin0) (ninS (adne (by omega)) nin0)).keep K5 (ninS (adne (by omega)) nin0) (ninS (adne (by omega)) nin0))
  have ltl := natlt (SE).ltt
  have qv := H5.vm (fun U vm1 hW q => ⟨hP _ _ hW.wide q.1, ib_stab hW q.2.1, q.2.2.stab hW.wide⟩)
  exact H5.retV ends_W hlk hret (hb hby d_jdk_42_m149_26) (by decide) (by decide) (fun _ q => q) ⟨rfl, ⟨qv.1, ib_sub qv.2.1 (by simp)⟩, tl, SE.re mem0 E5 F5_value F5_coder, ltl⟩
set_option maxRecDepth 65536 in
set_option maxHeartbeats 40000000 in
theorem c_new1 (l : Launch) {Z : State} {a0 : Array Value} {zc : Int32} {fm : Value} {aV : Addr} {kV : ClassId} {aA : Addr} {sA : Addr} {tA : Addr} {aF : Addr} {sF : Addr} {tF : Addr} {aD : Addr} {sD : Addr} {tD : Addr} (B : Base Z a0 zc fm aV kV aA sA tA aF sF tF aD sD tD) (Ts : List String) (P : Vm → Prop) (hP : ∀ (U : State) (vm1 : Vm), U.Warmed39 vm1 → P U.vm → P vm1) (x b : Addr) (kB : ClassId) (dv : Value) (h0 : Heap) (O : Ext Z.heap h0) (E : Exa Z h0 x "java/lang/String") (G1 : Fld Z h0 x "java/lang/String" "value" "[B" .null) (G2 : Fld Z h0 x "java/lang/String" "coder" "B" (.int (0 : Int32))) (gx : Z.heap.size ≤ x) (AB : Arv Z h0 b kB .char (0 : Int32) [] dv) :
    MetW l Z (⟨"java/lang/String", "<init>", "([C)V"⟩ : MethodName) jdk_42_method_3_code 2 none [] ({ frames := 2, cells := 2, slots := 4, locals := 29 } : Room) #[(.ref x), (.ref b)] h0 [x] ((EG Z Ts P h0)) (fun v vm h => v = none ∧ (P vm ∧ IB Z vm ("" :: Ts)) ∧ ∃ t, Str Z h x t [] ∧ h.size > t) := by
  have B0 := B
  obtain ⟨hw, SC0, hz0, SF1, rf1, hh7, hhA, hhF, hhD, hhE, hcw, SaA, FaA, TaA, SaF, FaF, TaF, SaD, FaD, TaD, SaV, XaV, AaV⟩ := B
  refine MetW.mk (plainFor_of_name pn_java_lang_String) (fun m => ef_c_new1 m x b) O ?_
  intro p e s m below meth c T0 hx hby hml hret hlk hnm hsh H0
  have zs : s.heap.size = h0.size := by rw [hsh]
  have lx := natlt (E).lt
  have H0 := H0.weak (ws' := [x]) (fun _ q => nomatch q) (allS gx all0)
  refine Rn.pu (T' := T0) (g' := (mkF m 1 #[rv x, rv b] [(.ref x)])) ?_ fun _ zk => XS.aloadN H0.here hx rfl (hb hby d_jdk_42_m3_0) rfl rfl zk
  refine Rn.pu (T' := T0) (g' := (mkF m 2 #[rv x, rv b] [(.ref b), (.ref x)])) ?_ fun _ zk => XS.aloadN H0.here hx rfl (hb hby d_jdk_42_m3_1) rfl rfl zk
  refine Rn.pu (T' := T0) (g' := (mkF m 3 #[rv x, rv b] [(.int (0 : Int32)), (.ref b), (.ref x)])) ?_ fun _ zk => XS.iconst H0.here hx rfl (hb hby d_jdk_42_m3_2) zk
  refine Rn.pu (T' := T0) (g' := (mkF m 4 #[rv x, rv b] [(.ref b), (.int (0 : Int32)), (.ref b), (.ref x)])) ?_ fun _ zk => XS.aloadN H0.here hx rfl (hb hby d_jdk_42_m3_3) rfl rfl zk
  refine Rn.pu (g' := (mkF m 5 #[rv x, rv b] [(.int (0 : Int32)), (.int (0 : Int32)), (.ref b), (.ref x)])) ?_ (H0.alen AB (g := (mkF m 4 #[rv x, rv b] [(.ref b), (.int (0 : Int32)), (.ref b), (.ref x)])) rfl rfl (hb hby d_jdk_42_m3_4))
  refine Rn.pu (T' := T0) (g' := (mkF m 6 #[rv x, rv b] [.null, (.int (0 : Int32)), (.int (0 : Int32)), (.ref b), (.ref x)])) ?_ fun _ zk => XS.aconstNull H0.here hx rfl (hb hby d_jdk_42_m3_5) zk
  obtain ⟨_, T1, h1, H1, ⟨rfl, V1, t1, S1, lt1⟩, K1, st1⟩ := H0.callIW rfl (wd hw 55 rfl) (wd hw 56 rfl) (wd hw 58 rfl) (by decide) (MetW.pay (W := 0) (c_new0 l B0 Ts P hP x b h0 H0.old E G1 G2 gx) (wd hw 58 rfl) (wd hw 1 rfl) (by decide) (by decide)) (g := (mkF m 6 #[rv x, rv b] [.null, (.int (0 : Int32)), (.int (0 : Int32)), (.ref b), (.ref x)])) rfl (by rw [hml]; rfl) (argsL := [(.ref b), (.int (0 : Int32)), (.int (0 : Int32)), .null]) (rest := []) (lenOf pd__ACIILjava_lang_Void__V rfl) rfl rfl (Nat.le_of_eq rfl) (hb hby d_jdk_42_m3_6) (by decide) (by decide) (allS (Or.inl (List.mem_singleton.mpr rfl)) all0) (fun U vm1 hV hW => EG.stab hP hW hV)
  have zh1 := K1.1
  have H1 := H1.reV (V' := (fun vm => P vm ∧ IB Z vm ("" :: Ts))) (fun v hv => by rw [hv]; exact V1)
  refine Rn.pu (g' := (mkF m 9 #[rv x, rv b] [])) ?_ st1
  exact H1.retV ends_W hlk hret (hb hby d_jdk_42_m3_9) (by decide) (by decide) (fun _ q => q) ⟨rfl, H1.vm (fun U vm1 hW q => ⟨hP _ _ hW.wide q.1, ib_stab hW q.2⟩), t1, S1, lt1⟩
set_option maxRecDepth 65536 in
set_option maxHeartbeats 40000000 in
theorem c_ch (l : Launch) {Z : State} {a0 : Array Value} {zc : Int32} {fm : Value} {aV : Addr} {kV : ClassId} {aA : Addr} {sA : Addr} {tA : Addr} {aF : Addr} {sF : Addr} {tF : Addr} {aD : Addr} {sD : Addr} {tD : Addr} (B : Base Z a0 zc fm aV kV aA sA tA aF sF tF aD sD tD) (x t : Addr) (mk da db dc : Int32) (cs : List Int32) (i : Nat) (h0 : Heap) (O : Ext Z.heap h0) (F : Str Z h0 x t cs) (hl : ∀ c ∈ cs, ¬ c < 0 ∧ ¬ (255 : Int32) < c) (hi : i ≤ 8) :
    MetN l Z (⟨"com/example/calm_inbox/calminbox/webhook/WebhookStatusFromWireNamePinLaw", "ch", "(Ljava/lang/String;IIIII)C"⟩ : MethodName) method_3_code 7 (some .char) [] ({ frames := 5, cells := 0, slots := 0, locals := 60 } : Room) #[(.ref x), (.int mk), (.int (Int32.ofNat i)), (.int da), (.int db), (.int dc)] h0 [] (fun v h => ∃ r, v = some (.int r) ∧ (¬ r < 0 ∧ ¬ (255 : Int32) < r) ∧ h0 = h) := by
  have B0 := B
  obtain ⟨hw, SC0, hz0, SF1, rf1, hh7, hhA, hhF, hhD, hhE, hcw, SaA, FaA, TaA, SaF, FaF, TaF, SaD, FaD, TaD, SaV, XaV, AaV⟩ := B
  refine MetN.mk (plainFor_of_name pn_com_example_calm_inbox_calminbox_webhook_WebhookStatusFromWireNamePinLaw) (fun m => ef_c_ch m x mk (Int32.ofNat i) da db dc) O ?_
  intro p e s m below meth c T0 hx hby hml hret hlk hnm hsh H0
  have zs : s.heap.size = h0.size := by rw [hsh]
  have n1 := F.2.1
  refine Rn.pu (T' := T0) (g' := (mkF m 1 #[rv x, iv mk, .val (.int (Int32.ofNat i)), iv da, iv db, iv dc, .unset] [(.int (Int32.ofNat i))])) ?_ fun _ zk => XS.iloadN H0.here hx rfl (hb hby d_m3_0) rfl zk
  refine Rn.pu (T' := T0) (g' := (mkF m 2 #[rv x, iv mk, .val (.int (Int32.ofNat i)), iv da, iv db, iv dc, .unset] [(.ref x), (.int (Int32.ofNat i))])) ?_ fun _ zk => XS.aloadN H0.here hx rfl (hb hby d_m3_1) rfl rfl zk
  obtain ⟨_, T1, h1, H1, ⟨rfl, rfl⟩, -, st1⟩ := H0.callV (C := "java/lang/String") (wd hw 8 rfl) (wd hw 9 rfl) (wd hw 11 rfl) (wd hw 10 rfl) (by decide) (payLen (W := 1) (hws_len hw) (wd hw 2 rfl) F (SC0.ext H0.old) hz0 (by decide) (by decide)) F.exa (g := (mkF m 2 #[rv x, iv mk, .val (.int (Int32.ofNat i)), iv da, iv db, iv dc, .unset] [(.ref x), (.int (Int32.ofNat i))])) rfl (by rw [hml]; rfl) (argsL := []) (rest := [(.int (Int32.ofNat i))]) (lenOf pd___I rfl) rfl rfl (Nat.le_of_eq rfl) (hb hby d_m3_2) (by decide) (by decide) all0
  refine Rn.pu (g' := (mkF m 5 #[rv x, iv mk, .val (.int (Int32.ofNat i)), iv da, iv db, iv dc, .unset] [(.int (Int32.ofNat (cs).length)), (.int (Int32.ofNat i))])) ?_ st1
  by_cases b5_2 : (Int32.ofNat i) < (Int32.ofNat (cs).length)
  ·
    refine Rn.pu (T' := T1) (g' := (mkF m 8 #[rv x, iv mk, .val (.int (Int32.ofNat i)), iv da, iv db, iv dc, .unset] [])) ?_ fun _ zk => XS.icmpNo H1.here hx rfl (hb hby d_m3_5) rfl (c_ge_f b5_2) zk
    refine Rn.pu (T' := T1) (g' := (mkF m 9 #[rv x, iv mk, .val (.int (Int32.ofNat i)), iv da, iv db, iv dc, .unset] [(.int mk)])) ?_ fun _ zk => XS.iloadN H1.here hx rfl (hb hby d_m3_8) rfl zk
    refine Rn.pu (T' := T1) (g' := (mkF m 10 #[rv x, iv mk, .val (.int (Int32.ofNat i)), iv da, iv db, iv dc, .unset] [(.int (Int32.ofNat i)), (.int mk)])) ?_ fun _ zk => XS.iloadN H1.here hx rfl (hb hby d_m3_9) rfl zk
    refine Rn.pu (T' := T1) (g' := (mkF m 11 #[rv x, iv mk, .val (.int (Int32.ofNat i)), iv da, iv db, iv dc, .unset] [(.int (XT.ushr mk (Int32.ofNat i)))])) ?_ fun _ zk => XT.iushr H1.here hx rfl (hb hby d_m3_10) rfl zk
    refine Rn.pu (T' := T1) (g' := (mkF m 12 #[rv x, iv mk, .val (.int (Int32.ofNat i)), iv da, iv db, iv dc, .unset] [(.int (1 : Int32)), (.int (XT.ushr mk (Int32.ofNat i)))])) ?_ fun _ zk => XS.iconst H1.here hx rfl (hb hby d_m3_11) zk
    refine Rn.pu (T' := T1) (g' := (mkF m 13 #[rv x, iv mk, .val (.int (Int32.ofNat i)), iv da, iv db, iv dc, .unset] [(.int ((XT.ushr mk (Int32.ofNat i)) &&& (1 : Int32)))])) ?_ fun _ zk => XS.iand H1.here hx rfl (hb hby d_m3_12) rfl zk
    by_cases b13_3 : ((XT.ushr mk (Int32.ofNat i)) &&& (1 : Int32)) = 0
    ·
      refine Rn.pu (T' := T1) (g' := (mkF m 16 #[rv x, iv mk, .val (.int (Int32.ofNat i)), iv da, iv db, iv dc, .unset] [])) ?_ fun _ zk => XS.ifNo H1.here hx rfl (hb hby d_m3_13) rfl (z_ne_f b13_3) zk
      refine Rn.pu (T' := T1) (g' := (mkF m 17 #[rv x, iv mk, .val (.int (Int32.ofNat i)), iv da, iv db, iv dc, .unset] [(.ref x)])) ?_ fun _ zk => XS.aloadN H1.here hx rfl (hb hby d_m3_16) rfl rfl zk
      refine Rn.pu (T' := T1) (g' := (mkF m 18 #[rv x, iv mk, .val (.int (Int32.ofNat i)), iv da, iv db, iv dc, .unset] [(.int (Int32.ofNat i)), (.ref x)])) ?_ fun _ zk => XS.iloadN H1.here hx rfl (hb hby d_m3_17) rfl zk
      obtain ⟨_, T4, h4, H4, ⟨rfl, rfl⟩, -, st4⟩ := H1.callV (C := "java/lang/String") (wd hw 26 rfl) (wd hw 27 rfl) (wd hw 29 rfl) (wd hw 28 rfl) (by decide) (payCh (W := 0) (hws_ch hw) (wd hw 2 rfl) F (fun c hc => (hl c hc).2) (SC0.ext H1.old) hz0 (SF1.ext H1.old) rf1 (i := i) (own_ltinv (by omega) n1 b5_2) rfl (by decide) (by decide)) F.exa (g := (mkF m 18 #[rv x, iv mk, .val (.int (Int32.ofNat i)), iv da, iv db, iv dc, .unset] [(.int (Int32.ofNat i)), (.ref x)])) rfl (by rw [hml]; rfl) (argsL := [(.int (Int32.ofNat i))]) (rest := []) (lenOf pd__I_C rfl) rfl rfl (Nat.le_of_eq rfl) (hb hby d_m3_18) (by decide) (by decide) all0
      refine Rn.pu (g' := (mkF m 21 #[rv x, iv mk, .val (.int (Int32.ofNat i)), iv da, iv db, iv dc, .unset] [(.int ((cs).getD i 0))])) ?_ st4
      exact H4.retS ends_N hlk (t := .char) hret (by simp) (hb hby d_m3_21) (by decide) (by decide) (fun _ q => nomatch q) ⟨_, rfl, lat_nar (u_mem (own_ltinv (by omega) n1 b5_2) hl), rfl⟩
    ·
      refine Rn.pu (T' := T1) (g' := (mkF m 22 #[rv x, iv mk, .val (.int (Int32.ofNat i)), iv da, iv db, iv dc, .unset] [])) ?_ fun _ zk => XS.ifYes H1.here hx rfl (pc0 := 13) (pc' := 22) rfl (hb hby d_m3_13) rfl (z_ne_t b13_3) (by decide) (by decide) zk
      refine Rn.pu (T' := T1) (g' := (mkF m 23 #[rv x, iv mk, .val (.int (Int32.ofNat i)), iv da, iv db, iv dc, .unset] [(.int (Int32.ofNat i))])) ?_ fun _ zk => XS.iloadN H1.here hx rfl (hb hby d_m3_22) rfl zk
      refine Rn.pu (T' := T1) (g' := (mkF m 24 #[rv x, iv mk, .val (.int (Int32.ofNat i)), iv da, iv db, iv dc, .unset] [(.int (4 : Int32)), (.int (Int32.ofNat i))])) ?_ fun _ zk => XS.iconst H1.here hx rfl (hb hby d_m3_23) zk
      by_cases b24_5 : (Int32.ofNat i) < (4 : Int32)
      ·
        refine Rn.pu (T' := T1) (g' := (mkF m 27 #[rv x, iv mk, .val (.int (Int32.ofNat i)), iv da, iv db, iv dc, .unset] [])) ?_ fun _ zk => XS.icmpNo H1.here hx rfl (hb hby d_m3_24) rfl (c_ge_f b24_5) zk
        refine Rn.pu (T' := T1) (g' := (mkF m 28 #[rv x, iv mk, .val (.int (Int32.ofNat i)), iv da, iv db, iv dc, .unset] [(.int da)])) ?_ fun _ zk => XS.iloadN H1.here hx rfl (hb hby d_m3_27) rfl zk
        refine Rn.pu (T' := T1) (g' := (mkF m 44 #[rv x, iv mk, .val (.int (Int32.ofNat i)), iv da, iv db, iv dc, .unset] [(.int da)])) ?_ fun _ zk => XS.goto H1.here hx rfl (pc0 := 28) (pc' := 44) rfl (hb hby d_m3_28) (by decide) (by decide) zk
        refine Rn.pu (T' := T1) (g' := (mkF m 46 #[rv x, iv mk, .val (.int (Int32.ofNat i)), iv da, iv db, iv dc, iv da] [])) ?_ fun _ zk => XS.istore H1.here hx rfl (hb hby d_m3_44) rfl (l' := #[rv x, iv mk, .val (.int (Int32.ofNat i)), iv da, iv db, iv dc, iv da]) rfl zk
        refine Rn.pu (T' := T1) (g' := (mkF m 48 #[rv x, iv mk, .val (.int (Int32.ofNat i)), iv da, iv db, iv dc, iv da] [(.int da)])) ?_ fun _ zk => XS.iload H1.here hx rfl (hb hby d_m3_46) rfl zk
        refine Rn.pu (T' := T1) (g' := (mkF m 50 #[rv x, iv mk, .val (.int (Int32.ofNat i)), iv da, iv db, iv dc, iv da] [(.int (8 : Int32)), (.int da)])) ?_ fun _ zk => XS.bipush H1.here hx rfl (hb hby d_m3_48) zk
        refine Rn.pu (T' := T1) (g' := (mkF m 51 #[rv x, iv mk, .val (.int (Int32.ofNat i)), iv da, iv db, iv dc, iv da] [(.int (Int32.ofNat i)), (.int (8 : Int32)), (.int da)])) ?_ fun _ zk => XS.iloadN H1.here hx rfl (hb hby d_m3_50) rfl zk
        refine Rn.pu (T' := T1) (g' := (mkF m 52 #[rv x, iv mk, .val (.int (Int32.ofNat i)), iv da, iv db, iv dc, iv da] [(.int (3 : Int32)), (.int (Int32.ofNat i)), (.int (8 : Int32)), (.int da)])) ?_ fun _ zk => XS.iconst H1.here hx rfl (hb hby d_m3_51) zk
        refine Rn.pu (T' := T1) (g' := (mkF m 53 #[rv x, iv mk, .val (.int (Int32.ofNat i)), iv da, iv db, iv dc, iv da] [(.int ((Int32.ofNat i) &&& (3 : Int32))), (.int (8 : Int32)), (.int da)])) ?_ fun _ zk => XS.iand H1.here hx rfl (hb hby d_m3_52) rfl zk
        refine Rn.pu (T' := T1) (g' := (mkF m 54 #[rv x, iv mk, .val (.int (Int32.ofNat i)), iv da, iv db, iv dc, iv da] [(.int ((8 : Int32) * ((Int32.ofNat i) &&& (3 : Int32)))), (.int da)])) ?_ fun _ zk => XS.imul H1.here hx rfl (hb hby d_m3_53) rfl zk
        refine Rn.pu (T' := T1) (g' := (mkF m 55 #[rv x, iv mk, .val (.int (Int32.ofNat i)), iv da, iv db, iv dc, iv da] [(.int (XT.ushr da ((8 : Int32) * ((Int32.ofNat i) &&& (3 : Int32)))))])) ?_ fun _ zk => XT.iushr H1.here hx rfl (hb hby d_m3_54) rfl zk
        refine Rn.pu (T' := T1) (g' := (mkF m 58 #[rv x, iv mk, .val (.int (Int32.ofNat i)), iv da, iv db, iv dc, iv da] [(.int (255 : Int32)), (.int (XT.ushr da ((8 : Int32) * ((Int32.ofNat i) &&& (3 : Int32)))))])) ?_ fun _ zk => XS.sipush H1.here hx rfl (hb hby d_m3_55) zk
        refine Rn.pu (T' := T1) (g' := (mkF m 59 #[rv x, iv mk, .val (.int (Int32.ofNat i)), iv da, iv db, iv dc, iv da] [(.int ((XT.ushr da ((8 : Int32) * ((Int32.ofNat i) &&& (3 : Int32)))) &&& (255 : Int32)))])) ?_ fun _ zk => XS.iand H1.here hx rfl (hb hby d_m3_58) rfl zk
        refine Rn.pu (T' := T1) (g' := (mkF m 60 #[rv x, iv mk, .val (.int (Int32.ofNat i)), iv da, iv db, iv dc, iv da] [(.int (nar .char ((XT.ushr da ((8 : Int32) * ((Int32.ofNat i) &&& (3 : Int32)))) &&& (255 : Int32))))])) ?_ fun _ zk => XT.i2c H1.here hx rfl (hb hby d_m3_59) rfl zk
        exact H1.retS ends_N hlk (t := .char) hret (by simp) (hb hby d_m3_60) (by decide) (by decide) (fun _ q => nomatch q) ⟨_, rfl, lat_nar (lat_nar (lat_and _)), rfl⟩
      ·
        refine Rn.pu (T' := T1) (g' := (mkF m 31 #[rv x, iv mk, .val (.int (Int32.ofNat i)), iv da, iv db, iv dc, .unset] [])) ?_ fun _ zk => XS.icmpYes H1.here hx rfl (pc0 := 24) (pc' := 31) rfl (hb hby d_m3_24) rfl (c_ge_t b24_5) (by decide) (by decide) zk
        refine Rn.pu (T' := T1) (g' := (mkF m 32 #[rv x, iv mk, .val (.int (Int32.ofNat i)), iv da, iv db, iv dc, .unset] [(.int (Int32.ofNat i))])) ?_ fun _ zk => XS.iloadN H1.here hx rfl (hb hby d_m3_31) rfl zk
        refine Rn.pu (T' := T1) (g' := (mkF m 34 #[rv x, iv mk, .val (.int (Int32.ofNat i)), iv da, iv db, iv dc, .unset] [(.int (8 : Int32)), (.int (Int32.ofNat i))])) ?_ fun _ zk => XS.bipush H1.here hx rfl (hb hby d_m3_32) zk
        by_cases b34_6 : (Int32.ofNat i) < (8 : Int32)
        ·
          refine Rn.pu (T' := T1) (g' := (mkF m 37 #[rv x, iv mk, .val (.int (Int32.ofNat i)), iv da, iv db, iv dc, .unset] [])) ?_ fun _ zk => XS.icmpNo H1.here hx rfl (hb hby d_m3_34) rfl (c_ge_f b34_6) zk
          refine Rn.pu (T' := T1) (g' := (mkF m 39 #[rv x, iv mk, .val (.int (Int32.ofNat i)), iv da, iv db, iv dc, .unset] [(.int db)])) ?_ fun _ zk => XS.iload H1.here hx rfl (hb hby d_m3_37) rfl zk
          refine Rn.pu (T' := T1) (g' := (mkF m 44 #[rv x, iv mk, .val (.int (Int32.ofNat i)), iv da, iv db, iv dc, .unset] [(.int db)])) ?_ fun _ zk => XS.goto H1.here hx rfl (pc0 := 39) (pc' := 44) rfl (hb hby d_m3_39) (by decide) (by decide) zk
          refine Rn.pu (T' := T1) (g' := (mkF m 46 #[rv x, iv mk, .val (.int (Int32.ofNat i)), iv da, iv db, iv dc, iv db] [])) ?_ fun _ zk => XS.istore H1.here hx rfl (hb hby d_m3_44) rfl (l' := #[rv x, iv mk, .val (.int (Int32.ofNat i)), iv da, iv db, iv dc, iv db]) rfl zk
          refine Rn.pu (T' := T1) (g' := (mkF m 48 #[rv x, iv mk, .val (.int (Int32.ofNat i)), iv da, iv db, iv dc, iv db] [(.int db)])) ?_ fun _ zk => XS.iload H1.here hx rfl (hb hby d_m3_46) rfl zk
          refine Rn.pu (T' := T1) (g' := (mkF m 50 #[rv x, iv mk, .val (.int (Int32.ofNat i)), iv da, iv db, iv dc, iv db] [(.int (8 : Int32)), (.int db)])) ?_ fun _ zk => XS.bipush H1.here hx rfl (hb hby d_m3_48) zk
          refine Rn.pu (T' := T1) (g' := (mkF m 51 #[rv x, iv mk, .val (.int (Int32.ofNat i)), iv da, iv db, iv dc, iv db] [(.int (Int32.ofNat i)), (.int (8 : Int32)), (.int db)])) ?_ fun _ zk => XS.iloadN H1.here hx rfl (hb hby d_m3_50) rfl zk
          refine Rn.pu (T' := T1) (g' := (mkF m 52 #[rv x, iv mk, .val (.int (Int32.ofNat i)), iv da, iv db, iv dc, iv db] [(.int (3 : Int32)), (.int (Int32.ofNat i)), (.int (8 : Int32)), (.int db)])) ?_ fun _ zk => XS.iconst H1.here hx rfl (hb hby d_m3_51) zk
          refine Rn.pu (T' := T1) (g' := (mkF m 53 #[rv x, iv mk, .val (.int (Int32.ofNat i)), iv da, iv db, iv dc, iv db] [(.int ((Int32.ofNat i) &&& (3 : Int32))), (.int (8 : Int32)), (.int db)])) ?_ fun _ zk => XS.iand H1.here hx rfl (hb hby d_m3_52) rfl zk
          refine Rn.pu (T' := T1) (g' := (mkF m 54 #[rv x, iv mk, .val (.int (Int32.ofNat i)), iv da, iv db, iv dc, iv db] [(.int ((8 : Int32) * ((Int32.ofNat i) &&& (3 : Int32)))), (.int db)])) ?_ fun _ zk => XS.imul H1.here hx rfl (hb hby d_m3_53) rfl zk
          refine Rn.pu (T' := T1) (g' := (mkF m 55 #[rv x, iv mk, .val (.int (Int32.ofNat i)), iv da, iv db, iv dc, iv db] [(.int (XT.ushr db ((8 : Int32) * ((Int32.ofNat i) &&& (3 : Int32)))))])) ?_ fun _ zk => XT.iushr H1.here hx rfl (hb hby d_m3_54) rfl zk
          refine Rn.pu (T' := T1) (g' := (mkF m 58 #[rv x, iv mk, .val (.int (Int32.ofNat i)), iv da, iv db, iv dc, iv db] [(.int (255 : Int32)), (.int (XT.ushr db ((8 : Int32) * ((Int32.ofNat i) &&& (3 : Int32)))))])) ?_ fun _ zk => XS.sipush H1.here hx rfl (hb hby d_m3_55) zk
          refine Rn.pu (T' := T1) (g' := (mkF m 59 #[rv x, iv mk, .val (.int (Int32.ofNat i)), iv da, iv db, iv dc, iv db] [(.int ((XT.ushr db ((8 : Int32) * ((Int32.ofNat i) &&& (3 : Int32)))) &&& (255 : Int32)))])) ?_ fun _ zk => XS.iand H1.here hx rfl (hb hby d_m3_58) rfl zk
          refine Rn.pu (T' := T1) (g' := (mkF m 60 #[rv x, iv mk, .val (.int (Int32.ofNat i)), iv da, iv db, iv dc, iv db] [(.int (nar .char ((XT.ushr db ((8 : Int32) * ((Int32.ofNat i) &&& (3 : Int32)))) &&& (255 : Int32))))])) ?_ fun _ zk => XT.i2c H1.here hx rfl (hb hby d_m3_59) rfl zk
          exact H1.retS ends_N hlk (t := .char) hret (by simp) (hb hby d_m3_60) (by decide) (by decide) (fun _ q => nomatch q) ⟨_, rfl, lat_nar (lat_nar (lat_and _)), rfl⟩
        ·
          refine Rn.pu (T' := T1) (g' := (mkF m 42 #[rv x, iv mk, .val (.int (Int32.ofNat i)), iv da, iv db, iv dc, .unset] [])) ?_ fun _ zk => XS.icmpYes H1.here hx rfl (pc0 := 34) (pc' := 42) rfl (hb hby d_m3_34) rfl (c_ge_t b34_6) (by decide) (by decide) zk
          refine Rn.pu (T' := T1) (g' := (mkF m 44 #[rv x, iv mk, .val (.int (Int32.ofNat i)), iv da, iv db, iv dc, .unset] [(.int dc)])) ?_ fun _ zk => XS.iload H1.here hx rfl (hb hby d_m3_42) rfl zk
          refine Rn.pu (T' := T1) (g' := (mkF m 46 #[rv x, iv mk, .val (.int (Int32.ofNat i)), iv da, iv db, iv dc, iv dc] [])) ?_ fun _ zk => XS.istore H1.here hx rfl (hb hby d_m3_44) rfl (l' := #[rv x, iv mk, .val (.int (Int32.ofNat i)), iv da, iv db, iv dc, iv dc]) rfl zk
          refine Rn.pu (T' := T1) (g' := (mkF m 48 #[rv x, iv mk, .val (.int (Int32.ofNat i)), iv da, iv db, iv dc, iv dc] [(.int dc)])) ?_ fun _ zk => XS.iload H1.here hx rfl (hb hby d_m3_46) rfl zk
          refine Rn.pu (T' := T1) (g' := (mkF m 50 #[rv x, iv mk, .val (.int (Int32.ofNat i)), iv da, iv db, iv dc, iv dc] [(.int (8 : Int32)), (.int dc)])) ?_ fun _ zk => XS.bipush H1.here hx rfl (hb hby d_m3_48) zk
          refine Rn.pu (T' := T1) (g' := (mkF m 51 #[rv x, iv mk, .val (.int (Int32.ofNat i)), iv da, iv db, iv dc, iv dc] [(.int (Int32.ofNat i)), (.int (8 : Int32)), (.int dc)])) ?_ fun _ zk => XS.iloadN H1.here hx rfl (hb hby d_m3_50) rfl zk
          refine Rn.pu (T' := T1) (g' := (mkF m 52 #[rv x, iv mk, .val (.int (Int32.ofNat i)), iv da, iv db, iv dc, iv dc] [(.int (3 : Int32)), (.int (Int32.ofNat i)), (.int (8 : Int32)), (.int dc)])) ?_ fun _ zk => XS.iconst H1.here hx rfl (hb hby d_m3_51) zk
          refine Rn.pu (T' := T1) (g' := (mkF m 53 #[rv x, iv mk, .val (.int (Int32.ofNat i)), iv da, iv db, iv dc, iv dc] [(.int ((Int32.ofNat i) &&& (3 : Int32))), (.int (8 : Int32)), (.int dc)])) ?_ fun _ zk => XS.iand H1.here hx rfl (hb hby d_m3_52) rfl zk
          refine Rn.pu (T' := T1) (g' := (mkF m 54 #[rv x, iv mk, .val (.int (Int32.ofNat i)), iv da, iv db, iv dc, iv dc] [(.int ((8 : Int32) * ((Int32.ofNat i) &&& (3 : Int32)))), (.int dc)])) ?_ fun _ zk => XS.imul H1.here hx rfl (hb hby d_m3_53) rfl zk
          refine Rn.pu (T' := T1) (g' := (mkF m 55 #[rv x, iv mk, .val (.int (Int32.ofNat i)), iv da, iv db, iv dc, iv dc] [(.int (XT.ushr dc ((8 : Int32) * ((Int32.ofNat i) &&& (3 : Int32)))))])) ?_ fun _ zk => XT.iushr H1.here hx rfl (hb hby d_m3_54) rfl zk
          refine Rn.pu (T' := T1) (g' := (mkF m 58 #[rv x, iv mk, .val (.int (Int32.ofNat i)), iv da, iv db, iv dc, iv dc] [(.int (255 : Int32)), (.int (XT.ushr dc ((8 : Int32) * ((Int32.ofNat i) &&& (3 : Int32)))))])) ?_ fun _ zk => XS.sipush H1.here hx rfl (hb hby d_m3_55) zk
          refine Rn.pu (T' := T1) (g' := (mkF m 59 #[rv x, iv mk, .val (.int (Int32.ofNat i)), iv da, iv db, iv dc, iv dc] [(.int ((XT.ushr dc ((8 : Int32) * ((Int32.ofNat i) &&& (3 : Int32)))) &&& (255 : Int32)))])) ?_ fun _ zk => XS.iand H1.here hx rfl (hb hby d_m3_58) rfl zk
          refine Rn.pu (T' := T1) (g' := (mkF m 60 #[rv x, iv mk, .val (.int (Int32.ofNat i)), iv da, iv db, iv dc, iv dc] [(.int (nar .char ((XT.ushr dc ((8 : Int32) * ((Int32.ofNat i) &&& (3 : Int32)))) &&& (255 : Int32))))])) ?_ fun _ zk => XT.i2c H1.here hx rfl (hb hby d_m3_59) rfl zk
          exact H1.retS ends_N hlk (t := .char) hret (by simp) (hb hby d_m3_60) (by decide) (by decide) (fun _ q => nomatch q) ⟨_, rfl, lat_nar (lat_nar (lat_and _)), rfl⟩
  ·
    refine Rn.pu (T' := T1) (g' := (mkF m 22 #[rv x, iv mk, .val (.int (Int32.ofNat i)), iv da, iv db, iv dc, .unset] [])) ?_ fun _ zk => XS.icmpYes H1.here hx rfl (pc0 := 5) (pc' := 22) rfl (hb hby d_m3_5) rfl (c_ge_t b5_2) (by decide) (by decide) zk
    refine Rn.pu (T' := T1) (g' := (mkF m 23 #[rv x, iv mk, .val (.int (Int32.ofNat i)), iv da, iv db, iv dc, .unset] [(.int (Int32.ofNat i))])) ?_ fun _ zk => XS.iloadN H1.here hx rfl (hb hby d_m3_22) rfl zk
    refine Rn.pu (T' := T1) (g' := (mkF m 24 #[rv x, iv mk, .val (.int (Int32.ofNat i)), iv da, iv db, iv dc, .unset] [(.int (4 : Int32)), (.int (Int32.ofNat i))])) ?_ fun _ zk => XS.iconst H1.here hx rfl (hb hby d_m3_23) zk
    by_cases b24_7 : (Int32.ofNat i) < (4 : Int32)
    ·
      refine Rn.pu (T' := T1) (g' := (mkF m 27 #[rv x, iv mk, .val (.int (Int32.ofNat i)), iv da, iv db, iv dc, .unset] [])) ?_ fun _ zk => XS.icmpNo H1.here hx rfl (hb hby d_m3_24) rfl (c_ge_f b24_7) zk
      refine Rn.pu (T' := T1) (g' := (mkF m 28 #[rv x, iv mk, .val (.int (Int32.ofNat i)), iv da, iv db, iv dc, .unset] [(.int da)])) ?_ fun _ zk => XS.iloadN H1.here hx rfl (hb hby d_m3_27) rfl zk
      refine Rn.pu (T' := T1) (g' := (mkF m 44 #[rv x, iv mk, .val (.int (Int32.ofNat i)), iv da, iv db, iv dc, .unset] [(.int da)])) ?_ fun _ zk => XS.goto H1.here hx rfl (pc0 := 28) (pc' := 44) rfl (hb hby d_m3_28) (by decide) (by decide) zk
      refine Rn.pu (T' := T1) (g' := (mkF m 46 #[rv x, iv mk, .val (.int (Int32.ofNat i)), iv da, iv db, iv dc, iv da] [])) ?_ fun _ zk => XS.istore H1.here hx rfl (hb hby d_m3_44) rfl (l' := #[rv x, iv mk, .val (.int (Int32.ofNat i)), iv da, iv db, iv dc, iv da]) rfl zk
      refine Rn.pu (T' := T1) (g' := (mkF m 48 #[rv x, iv mk, .val (.int (Int32.ofNat i)), iv da, iv db, iv dc, iv da] [(.int da)])) ?_ fun _ zk => XS.iload H1.here hx rfl (hb hby d_m3_46) rfl zk
      refine Rn.pu (T' := T1) (g' := (mkF m 50 #[rv x, iv mk, .val (.int (Int32.ofNat i)), iv da, iv db, iv dc, iv da] [(.int (8 : Int32)), (.int da)])) ?_ fun _ zk => XS.bipush H1.here hx rfl (hb hby d_m3_48) zk
      refine Rn.pu (T' := T1) (g' := (mkF m 51 #[rv x, iv mk, .val (.int (Int32.ofNat i)), iv da, iv db, iv dc, iv da] [(.int (Int32.ofNat i)), (.int (8 : Int32)), (.int da)])) ?_ fun _ zk => XS.iloadN H1.here hx rfl (hb hby d_m3_50) rfl zk
      refine Rn.pu (T' := T1) (g' := (mkF m 52 #[rv x, iv mk, .val (.int (Int32.ofNat i)), iv da, iv db, iv dc, iv da] [(.int (3 : Int32)), (.int (Int32.ofNat i)), (.int (8 : Int32)), (.int da)])) ?_ fun _ zk => XS.iconst H1.here hx rfl (hb hby d_m3_51) zk
      refine Rn.pu (T' := T1) (g' := (mkF m 53 #[rv x, iv mk, .val (.int (Int32.ofNat i)), iv da, iv db, iv dc, iv da] [(.int ((Int32.ofNat i) &&& (3 : Int32))), (.int (8 : Int32)), (.int da)])) ?_ fun _ zk => XS.iand H1.here hx rfl (hb hby d_m3_52) rfl zk
      refine Rn.pu (T' := T1) (g' := (mkF m 54 #[rv x, iv mk, .val (.int (Int32.ofNat i)), iv da, iv db, iv dc, iv da] [(.int ((8 : Int32) * ((Int32.ofNat i) &&& (3 : Int32)))), (.int da)])) ?_ fun _ zk => XS.imul H1.here hx rfl (hb hby d_m3_53) rfl zk
      refine Rn.pu (T' := T1) (g' := (mkF m 55 #[rv x, iv mk, .val (.int (Int32.ofNat i)), iv da, iv db, iv dc, iv da] [(.int (XT.ushr da ((8 : Int32) * ((Int32.ofNat i) &&& (3 : Int32)))))])) ?_ fun _ zk => XT.iushr H1.here hx rfl (hb hby d_m3_54) rfl zk
      refine Rn.pu (T' := T1) (g' := (mkF m 58 #[rv x, iv mk, .val (.int (Int32.ofNat i)), iv da, iv db, iv dc, iv da] [(.int (255 : Int32)), (.int (XT.ushr da ((8 : Int32) * ((Int32.ofNat i) &&& (3 : Int32)))))])) ?_ fun _ zk => XS.sipush H1.here hx rfl (hb hby d_m3_55) zk
      refine Rn.pu (T' := T1) (g' := (mkF m 59 #[rv x, iv mk, .val (.int (Int32.ofNat i)), iv da, iv db, iv dc, iv da] [(.int ((XT.ushr da ((8 : Int32) * ((Int32.ofNat i) &&& (3 : Int32)))) &&& (255 : Int32)))])) ?_ fun _ zk => XS.iand H1.here hx rfl (hb hby d_m3_58) rfl zk
      refine Rn.pu (T' := T1) (g' := (mkF m 60 #[rv x, iv mk, .val (.int (Int32.ofNat i)), iv da, iv db, iv dc, iv da] [(.int (nar .char ((XT.ushr da ((8 : Int32) * ((Int32.ofNat i) &&& (3 : Int32)))) &&& (255 : Int32))))])) ?_ fun _ zk => XT.i2c H1.here hx rfl (hb hby d_m3_59) rfl zk
      exact H1.retS ends_N hlk (t := .char) hret (by simp) (hb hby d_m3_60) (by decide) (by decide) (fun _ q => nomatch q) ⟨_, rfl, lat_nar (lat_nar (lat_and _)), rfl⟩
    ·
      refine Rn.pu (T' := T1) (g' := (mkF m 31 #[rv x, iv mk, .val (.int (Int32.ofNat i)), iv da, iv db, iv dc, .unset] [])) ?_ fun _ zk => XS.icmpYes H1.here hx rfl (pc0 := 24) (pc' := 31) rfl (hb hby d_m3_24) rfl (c_ge_t b24_7) (by decide) (by decide) zk
      refine Rn.pu (T' := T1) (g' := (mkF m 32 #[rv x, iv mk, .val (.int (Int32.ofNat i)), iv da, iv db, iv dc, .unset] [(.int (Int32.ofNat i))])) ?_ fun _ zk => XS.iloadN H1.here hx rfl (hb hby d_m3_31) rfl zk
      refine Rn.pu (T' := T1) (g' := (mkF m 34 #[rv x, iv mk, .val (.int (Int32.ofNat i)), iv da, iv db, iv dc, .unset] [(.int (8 : Int32)), (.int (Int32.ofNat i))])) ?_ fun _ zk => XS.bipush H1.here hx rfl (hb hby d_m3_32) zk
      by_cases b34_8 : (Int32.ofNat i) < (8 : Int32)
      ·
        refine Rn.pu (T' := T1) (g' := (mkF m 37 #[rv x, iv mk, .val (.int (Int32.ofNat i)), iv da, iv db, iv dc, .unset] [])) ?_ fun _ zk => XS.icmpNo H1.here hx rfl (hb hby d_m3_34) rfl (c_ge_f b34_8) zk
        refine Rn.pu (T' := T1) (g' := (mkF m 39 #[rv x, iv mk, .val (.int (Int32.ofNat i)), iv da, iv db, iv dc, .unset] [(.int db)])) ?_ fun _ zk => XS.iload H1.here hx rfl (hb hby d_m3_37) rfl zk
        refine Rn.pu (T' := T1) (g' := (mkF m 44 #[rv x, iv mk, .val (.int (Int32.ofNat i)), iv da, iv db, iv dc, .unset] [(.int db)])) ?_ fun _ zk => XS.goto H1.here hx rfl (pc0 := 39) (pc' := 44) rfl (hb hby d_m3_39) (by decide) (by decide) zk
        refine Rn.pu (T' := T1) (g' := (mkF m 46 #[rv x, iv mk, .val (.int (Int32.ofNat i)), iv da, iv db, iv dc, iv db] [])) ?_ fun _ zk => XS.istore H1.here hx rfl (hb hby d_m3_44) rfl (l' := #[rv x, iv mk, .val (.int (Int32.ofNat i)), iv da, iv db, iv dc, iv db]) rfl zk
        refine Rn.pu (T' := T1) (g' := (mkF m 48 #[rv x, iv mk, .val (.int (Int32.ofNat i)), iv da, iv db, iv dc, iv db] [(.int db)])) ?_ fun _ zk => XS.iload H1.here hx rfl (hb hby d_m3_46) rfl zk
        refine Rn.pu (T' := T1) (g' := (mkF m 50 #[rv x, iv mk, .val (.int (Int32.ofNat i)), iv da, iv db, iv dc, iv db] [(.int (8 : Int32)), (.int db)])) ?_ fun _ zk => XS.bipush H1.here hx rfl (hb hby d_m3_48) zk
        refine Rn.pu (T' := T1) (g' := (mkF m 51 #[rv x, iv mk, .val (.int (Int32.ofNat i)), iv da, iv db, iv dc, iv db] [(.int (Int32.ofNat i)), (.int (8 : Int32)), (.int db)])) ?_ fun _ zk => XS.iloadN H1.here hx rfl (hb hby d_m3_50) rfl zk
        refine Rn.pu (T' := T1) (g' := (mkF m 52 #[rv x, iv mk, .val (.int (Int32.ofNat i)), iv da, iv db, iv dc, iv db] [(.int (3 : Int32)), (.int (Int32.ofNat i)), (.int (8 : Int32)), (.int db)])) ?_ fun _ zk => XS.iconst H1.here hx rfl (hb hby d_m3_51) zk
        refine Rn.pu (T' := T1) (g' := (mkF m 53 #[rv x, iv mk, .val (.int (Int32.ofNat i)), iv da, iv db, iv dc, iv db] [(.int ((Int32.ofNat i) &&& (3 : Int32))), (.int (8 : Int32)), (.int db)])) ?_ fun _ zk => XS.iand H1.here hx rfl (hb hby d_m3_52) rfl zk
        refine Rn.pu (T' := T1) (g' := (mkF m 54 #[rv x, iv mk, .val (.int (Int32.ofNat i)), iv da, iv db, iv dc, iv db] [(.int ((8 : Int32) * ((Int32.ofNat i) &&& (3 : Int32)))), (.int db)])) ?_ fun _ zk => XS.imul H1.here hx rfl (hb hby d_m3_53) rfl zk
        refine Rn.pu (T' := T1) (g' := (mkF m 55 #[rv x, iv mk, .val (.int (Int32.ofNat i)), iv da, iv db, iv dc, iv db] [(.int (XT.ushr db ((8 : Int32) * ((Int32.ofNat i) &&& (3 : Int32)))))])) ?_ fun _ zk => XT.iushr H1.here hx rfl (hb hby d_m3_54) rfl zk
        refine Rn.pu (T' := T1) (g' := (mkF m 58 #[rv x, iv mk, .val (.int (Int32.ofNat i)), iv da, iv db, iv dc, iv db] [(.int (255 : Int32)), (.int (XT.ushr db ((8 : Int32) * ((Int32.ofNat i) &&& (3 : Int32)))))])) ?_ fun _ zk => XS.sipush H1.here hx rfl (hb hby d_m3_55) zk
        refine Rn.pu (T' := T1) (g' := (mkF m 59 #[rv x, iv mk, .val (.int (Int32.ofNat i)), iv da, iv db, iv dc, iv db] [(.int ((XT.ushr db ((8 : Int32) * ((Int32.ofNat i) &&& (3 : Int32)))) &&& (255 : Int32)))])) ?_ fun _ zk => XS.iand H1.here hx rfl (hb hby d_m3_58) rfl zk
        refine Rn.pu (T' := T1) (g' := (mkF m 60 #[rv x, iv mk, .val (.int (Int32.ofNat i)), iv da, iv db, iv dc, iv db] [(.int (nar .char ((XT.ushr db ((8 : Int32) * ((Int32.ofNat i) &&& (3 : Int32)))) &&& (255 : Int32))))])) ?_ fun _ zk => XT.i2c H1.here hx rfl (hb hby d_m3_59) rfl zk
        exact H1.retS ends_N hlk (t := .char) hret (by simp) (hb hby d_m3_60) (by decide) (by decide) (fun _ q => nomatch q) ⟨_, rfl, lat_nar (lat_nar (lat_and _)), rfl⟩
      ·
        refine Rn.pu (T' := T1) (g' := (mkF m 42 #[rv x, iv mk, .val (.int (Int32.ofNat i)), iv da, iv db, iv dc, .unset] [])) ?_ fun _ zk => XS.icmpYes H1.here hx rfl (pc0 := 34) (pc' := 42) rfl (hb hby d_m3_34) rfl (c_ge_t b34_8) (by decide) (by decide) zk
        refine Rn.pu (T' := T1) (g' := (mkF m 44 #[rv x, iv mk, .val (.int (Int32.ofNat i)), iv da, iv db, iv dc, .unset] [(.int dc)])) ?_ fun _ zk => XS.iload H1.here hx rfl (hb hby d_m3_42) rfl zk
        refine Rn.pu (T' := T1) (g' := (mkF m 46 #[rv x, iv mk, .val (.int (Int32.ofNat i)), iv da, iv db, iv dc, iv dc] [])) ?_ fun _ zk => XS.istore H1.here hx rfl (hb hby d_m3_44) rfl (l' := #[rv x, iv mk, .val (.int (Int32.ofNat i)), iv da, iv db, iv dc, iv dc]) rfl zk
        refine Rn.pu (T' := T1) (g' := (mkF m 48 #[rv x, iv mk, .val (.int (Int32.ofNat i)), iv da, iv db, iv dc, iv dc] [(.int dc)])) ?_ fun _ zk => XS.iload H1.here hx rfl (hb hby d_m3_46) rfl zk
        refine Rn.pu (T' := T1) (g' := (mkF m 50 #[rv x, iv mk, .val (.int (Int32.ofNat i)), iv da, iv db, iv dc, iv dc] [(.int (8 : Int32)), (.int dc)])) ?_ fun _ zk => XS.bipush H1.here hx rfl (hb hby d_m3_48) zk
        refine Rn.pu (T' := T1) (g' := (mkF m 51 #[rv x, iv mk, .val (.int (Int32.ofNat i)), iv da, iv db, iv dc, iv dc] [(.int (Int32.ofNat i)), (.int (8 : Int32)), (.int dc)])) ?_ fun _ zk => XS.iloadN H1.here hx rfl (hb hby d_m3_50) rfl zk
        refine Rn.pu (T' := T1) (g' := (mkF m 52 #[rv x, iv mk, .val (.int (Int32.ofNat i)), iv da, iv db, iv dc, iv dc] [(.int (3 : Int32)), (.int (Int32.ofNat i)), (.int (8 : Int32)), (.int dc)])) ?_ fun _ zk => XS.iconst H1.here hx rfl (hb hby d_m3_51) zk
        refine Rn.pu (T' := T1) (g' := (mkF m 53 #[rv x, iv mk, .val (.int (Int32.ofNat i)), iv da, iv db, iv dc, iv dc] [(.int ((Int32.ofNat i) &&& (3 : Int32))), (.int (8 : Int32)), (.int dc)])) ?_ fun _ zk => XS.iand H1.here hx rfl (hb hby d_m3_52) rfl zk
        refine Rn.pu (T' := T1) (g' := (mkF m 54 #[rv x, iv mk, .val (.int (Int32.ofNat i)), iv da, iv db, iv dc, iv dc] [(.int ((8 : Int32) * ((Int32.ofNat i) &&& (3 : Int32)))), (.int dc)])) ?_ fun _ zk => XS.imul H1.here hx rfl (hb hby d_m3_53) rfl zk
        refine Rn.pu (T' := T1) (g' := (mkF m 55 #[rv x, iv mk, .val (.int (Int32.ofNat i)), iv da, iv db, iv dc, iv dc] [(.int (XT.ushr dc ((8 : Int32) * ((Int32.ofNat i) &&& (3 : Int32)))))])) ?_ fun _ zk => XT.iushr H1.here hx rfl (hb hby d_m3_54) rfl zk
        refine Rn.pu (T' := T1) (g' := (mkF m 58 #[rv x, iv mk, .val (.int (Int32.ofNat i)), iv da, iv db, iv dc, iv dc] [(.int (255 : Int32)), (.int (XT.ushr dc ((8 : Int32) * ((Int32.ofNat i) &&& (3 : Int32)))))])) ?_ fun _ zk => XS.sipush H1.here hx rfl (hb hby d_m3_55) zk
        refine Rn.pu (T' := T1) (g' := (mkF m 59 #[rv x, iv mk, .val (.int (Int32.ofNat i)), iv da, iv db, iv dc, iv dc] [(.int ((XT.ushr dc ((8 : Int32) * ((Int32.ofNat i) &&& (3 : Int32)))) &&& (255 : Int32)))])) ?_ fun _ zk => XS.iand H1.here hx rfl (hb hby d_m3_58) rfl zk
        refine Rn.pu (T' := T1) (g' := (mkF m 60 #[rv x, iv mk, .val (.int (Int32.ofNat i)), iv da, iv db, iv dc, iv dc] [(.int (nar .char ((XT.ushr dc ((8 : Int32) * ((Int32.ofNat i) &&& (3 : Int32)))) &&& (255 : Int32))))])) ?_ fun _ zk => XT.i2c H1.here hx rfl (hb hby d_m3_59) rfl zk
        exact H1.retS ends_N hlk (t := .char) hret (by simp) (hb hby d_m3_60) (by decide) (by decide) (fun _ q => nomatch q) ⟨_, rfl, lat_nar (lat_nar (lat_and _)), rfl⟩
set_option maxRecDepth 65536 in
set_option maxHeartbeats 40000000 in
theorem c_cut (l : Launch) {Z : State} {a0 : Array Value} {zc : Int32} {fm : Value} {aV : Addr} {kV : ClassId} {aA : Addr} {sA : Addr} {tA : Addr} {aF : Addr} {sF : Addr} {tF : Addr} {aD : Addr} {sD : Addr} {tD : Addr} (B : Base Z a0 zc fm aV kV aA sA tA aF sF tF aD sD tD) (Ts : List String) (P : Vm → Prop) (hP : ∀ (U : State) (vm1 : Vm), U.Warmed39 vm1 → P U.vm → P vm1) (b : Addr) (kC : ClassId) (dv : Value) (n c0 c1 c2 c3 c4 c5 c6 c7 c8 : Int32) (h0 : Heap) (O : Ext Z.heap h0) (rn : n = 0 ∨ n = 1 ∨ n = 2 ∨ n = 3 ∨ n = 4 ∨ n = 5 ∨ n = 6 ∨ n = 7 ∨ n = 8 ∨ n = 9) (AB : Arv Z h0 b kC .char (9 : Int32) [.int c0, .int c1, .int c2, .int c3, .int c4, .int c5, .int c6, .int c7, .int c8] dv) (qc0 : ¬ c0 < 0 ∧ ¬ (255 : Int32) < c0) (qc1 : ¬ c1 < 0 ∧ ¬ (255 : Int32) < c1) (qc2 : ¬ c2 < 0 ∧ ¬ (255 : Int32) < c2) (qc3 : ¬ c3 < 0 ∧ ¬ (255 : Int32) < c3) (qc4 : ¬ c4 < 0 ∧ ¬ (255 : Int32) < c4) (qc5 : ¬ c5 < 0 ∧ ¬ (255 : Int32) < c5) (qc6 : ¬ c6 < 0 ∧ ¬ (255 : Int32) < c6) (qc7 : ¬ c7 < 0 ∧ ¬ (255 : Int32) < c7) (qc8 : ¬ c8 < 0 ∧ ¬ (255 : Int32) < c8) :
    MetW l Z (⟨"com/example/calm_inbox/calminbox/webhook/WebhookStatusFromWireNamePinLaw", "cut", "([CI)Ljava/lang/String;"⟩ : MethodName) method_4_code 2 (some (.object "java/lang/String")) [] ({ frames := 4, cells := 4, slots := 22, locals := 66 } : Room) #[(.ref b), (.int n)] h0 [] ((EG Z Ts P h0)) (fun v vm h => (P vm ∧ IB Z vm ("" :: Ts)) ∧ ∃ a t cs, v = some (.ref a) ∧ Str Z h a t cs ∧ h0.size ≤ a ∧ h.size > a ∧ h.size > t) := by
  have B0 := B
  obtain ⟨hw, SC0, hz0, SF1, rf1, hh7, hhA, hhF, hhD, hhE, hcw, SaA, FaA, TaA, SaF, FaF, TaF, SaD, FaD, TaD, SaV, XaV, AaV⟩ := B
  refine MetW.mk (plainFor_of_name pn_com_example_calm_inbox_calminbox_webhook_WebhookStatusFromWireNamePinLaw) (fun m => ef_c_cut m b n) O ?_
  intro p e s m below meth c T0 hx hby hml hret hlk hnm hsh H0
  have zs : s.heap.size = h0.size := by rw [hsh]
  have lb := natlt (AB).lt
  rcases rn with rfl | rfl | rfl | rfl | rfl | rfl | rfl | rfl | rfl | rfl
  ·
    refine Rn.pu (T' := T0) (g' := (mkF m 1 #[rv b, iv 0] [(.int (0 : Int32))])) ?_ fun _ zk => XS.iloadN H0.here hx rfl (hb hby d_m4_0) rfl zk
    refine Rn.pu (T' := T0) (g' := (mkF m 4 #[rv b, iv 0] [])) ?_ fun _ zk => XS.ifNo H0.here hx rfl (hb hby d_m4_1) rfl (z_ne_f rfl) zk
    obtain ⟨a1, T1, h1, e1, H1, K1, E1, D1, st1⟩ := H0.newO (wd hw 51 rfl) (wd hw 2 rfl) (wd hw 1 rfl) (g := (mkF m 4 #[rv b, iv 0] [])) rfl (hb hby d_m4_4) (by decide) (by decide)
    have zh1 := K1.1
    have l1 := natlt (E1).lt
    have g1 : s.heap.size ≤ a1 := by omega
    have F1_value : Fld Z h1 a1 "java/lang/String" "value" "[B" .null := D1 (Or.inr (wd hw 4 rfl)) (ty := (.array .byte)) (by decide)
    have F1_coder : Fld Z h1 a1 "java/lang/String" "coder" "B" (.int (0 : Int32)) := D1 (Or.inr (wd hw 5 rfl)) (ty := .byte) (by decide)
    refine Rn.pu (g' := (mkF m 7 #[rv b, iv 0] [(.ref a1)])) ?_ st1
    refine Rn.pu (T' := T1) (g' := (mkF m 8 #[rv b, iv 0] [(.ref a1), (.ref a1)])) ?_ fun _ zk => XS.dup H1.here hx rfl (hb hby d_m4_7) rfl rfl zk
    refine Rn.pu (T' := T1) (g' := (mkF m 9 #[rv b, iv 0] [(.int (0 : Int32)), (.ref a1), (.ref a1)])) ?_ fun _ zk => XS.iconst H1.here hx rfl (hb hby d_m4_8) zk
    obtain ⟨a2, k2, T2, h2, e2, H2, K2, A2, st2⟩ := H1.newP (aty := .char) (wd hw 21 rfl) (g := (mkF m 9 #[rv b, iv 0] [(.int (0 : Int32)), (.ref a1), (.ref a1)])) rfl (hb hby d_m4_9) rfl (by decide) (cap := 0) (by decide) (by decide) (by decide) (by decide)
    have zh2 := K2.1
    have l2 := natlt (A2).lt
    have g2 : s.heap.size ≤ a2 := by omega
    refine Rn.pu (g' := (mkF m 11 #[rv b, iv 0] [(.ref a2), (.ref a1), (.ref a1)])) ?_ st2
    obtain ⟨_, T3, h3, H3, ⟨rfl, V3, t3, S3, lt3⟩, K3, st3⟩ := H2.callIW rfl (wd hw 52 rfl) (wd hw 53 rfl) (wd hw 54 rfl) (by decide) (MetW.pay (W := 1) (c_new1 l B0 Ts P hP a1 a2 k2 (.int 0) h2 H2.old (E1.keep K2) (F1_value.keep K2 nin0) (F1_coder.keep K2 nin0) (by have := H0.old.1; omega) A2) (wd hw 54 rfl) (wd hw 1 rfl) (by decide) (by decide)) (g := (mkF m 11 #[rv b, iv 0] [(.ref a2), (.ref a1), (.ref a1)])) rfl (by rw [hml]; rfl) (argsL := [(.ref a2)]) (rest := [(.ref a1)]) (lenOf pd__AC_V rfl) rfl rfl (Nat.le_of_eq rfl) (hb hby d_m4_11) (by decide) (by decide) (allS (Or.inr (by omega)) all0) (fun U vm1 hV hW => (EG.stab hP hW hV).keep (((Keep.refl _ []).trans K1 all0).trans K2 all0))
    have zh3 := K3.1
    have H3 := H3.reV (V' := (fun vm => P vm ∧ IB Z vm ("" :: Ts))) (fun v hv => by rw [hv]; exact V3)
    have l3 := natlt (S3).lt
    refine Rn.pu (g' := (mkF m 14 #[rv b, iv 0] [(.ref a1)])) ?_ st3
    have SX := S3
    have lSX := natlt (SX).lt
    have mSX := natlt (SX).ltt
    exact H3.retA ends_W hlk hret rfl rfl rfl (hb hby d_m4_14) (by decide) (by decide) (fun _ q => nomatch q) ⟨H3.vm (fun U vm1 hW q => ⟨hP _ _ hW.wide q.1, ib_stab hW q.2⟩), a1, t3, [], rfl, SX, by omega, by omega, by omega⟩
  ·
    refine Rn.pu (T' := T0) (g' := (mkF m 1 #[rv b, iv 1] [(.int (1 : Int32))])) ?_ fun _ zk => XS.iloadN H0.here hx rfl (hb hby d_m4_0) rfl zk
    refine Rn.pu (T' := T0) (g' := (mkF m 15 #[rv b, iv 1] [])) ?_ fun _ zk => XS.ifYes H0.here hx rfl (pc0 := 1) (pc' := 15) rfl (hb hby d_m4_1) rfl (z_ne_t (by decide)) (by decide) (by decide) zk
    refine Rn.pu (T' := T0) (g' := (mkF m 16 #[rv b, iv 1] [(.int (1 : Int32))])) ?_ fun _ zk => XS.iloadN H0.here hx rfl (hb hby d_m4_15) rfl zk
    refine Rn.pu (T' := T0) (g' := (mkF m 17 #[rv b, iv 1] [(.int (1 : Int32)), (.int (1 : Int32))])) ?_ fun _ zk => XS.iconst H0.here hx rfl (hb hby d_m4_16) zk
    refine Rn.pu (T' := T0) (g' := (mkF m 20 #[rv b, iv 1] [])) ?_ fun _ zk => XS.icmpNo H0.here hx rfl (hb hby d_m4_17) rfl (c_ne_f rfl) zk
    obtain ⟨a4, T4, h4, e4, H4, K4, E4, D4, st4⟩ := H0.newO (wd hw 51 rfl) (wd hw 2 rfl) (wd hw 1 rfl) (g := (mkF m 20 #[rv b, iv 1] [])) rfl (hb hby d_m4_20) (by decide) (by decide)
    have zh4 := K4.1
    have l4 := natlt (E4).lt
    have g4 : s.heap.size ≤ a4 := by omega
    have F4_value : Fld Z h4 a4 "java/lang/String" "value" "[B" .null := D4 (Or.inr (wd hw 4 rfl)) (ty := (.array .byte)) (by decide)
    have F4_coder : Fld Z h4 a4 "java/lang/String" "coder" "B" (.int (0 : Int32)) := D4 (Or.inr (wd hw 5 rfl)) (ty := .byte) (by decide)
    refine Rn.pu (g' := (mkF m 23 #[rv b, iv 1] [(.ref a4)])) ?_ st4
    refine Rn.pu (T' := T4) (g' := (mkF m 24 #[rv b, iv 1] [(.ref a4), (.ref a4)])) ?_ fun _ zk => XS.dup H4.here hx rfl (hb hby d_m4_23) rfl rfl zk
    refine Rn.pu (T' := T4) (g' := (mkF m 25 #[rv b, iv 1] [(.int (1 : Int32)), (.ref a4), (.ref a4)])) ?_ fun _ zk => XS.iconst H4.here hx rfl (hb hby d_m4_24) zk
    obtain ⟨a5, k5, T5, h5, e5, H5, K5, A5, st5⟩ := H4.newP (aty := .char) (wd hw 21 rfl) (g := (mkF m 25 #[rv b, iv 1] [(.int (1 : Int32)), (.ref a4), (.ref a4)])) rfl (hb hby d_m4_25) rfl (by decide) (cap := 1) (by decide) (by decide) (by decide) (by decide)
    have zh5 := K5.1
    have l5 := natlt (A5).lt
    have g5 : s.heap.size ≤ a5 := by omega
    refine Rn.pu (g' := (mkF m 27 #[rv b, iv 1] [(.ref a5), (.ref a4), (.ref a4)])) ?_ st5
    refine Rn.pu (T' := T5) (g' := (mkF m 28 #[rv b, iv 1] [(.ref a5), (.ref a5), (.ref a4), (.ref a4)])) ?_ fun _ zk => XS.dup H5.here hx rfl (hb hby d_m4_27) rfl rfl zk
    refine Rn.pu (T' := T5) (g' := (mkF m 29 #[rv b, iv 1] [(.int (0 : Int32)), (.ref a5), (.ref a5), (.ref a4), (.ref a4)])) ?_ fun _ zk => XS.iconst H5.here hx rfl (hb hby d_m4_28) zk
    refine Rn.pu (T' := T5) (g' := (mkF m 30 #[rv b, iv 1] [(.ref b), (.int (0 : Int32)), (.ref a5), (.ref a5), (.ref a4), (.ref a4)])) ?_ fun _ zk => XS.aloadN H5.here hx rfl (hb hby d_m4_29) rfl rfl zk
    refine Rn.pu (T' := T5) (g' := (mkF m 31 #[rv b, iv 1] [(.int (0 : Int32)), (.ref b), (.int (0 : Int32)), (.ref a5), (.ref a5), (.ref a4), (.ref a4)])) ?_ fun _ zk => XS.iconst H5.here hx rfl (hb hby d_m4_30) zk
    refine Rn.pu (g' := (mkF m 32 #[rv b, iv 1] [(.int c0), (.int (0 : Int32)), (.ref a5), (.ref a5), (.ref a4), (.ref a4)])) ?_ (H5.cald ((AB.keep K4 nin0).keep K5 nin0) (by decide) (v := .int c0) rfl (g := (mkF m 31 #[rv b, iv 1] [(.int (0 : Int32)), (.ref b), (.int (0 : Int32)), (.ref a5), (.ref a5), (.ref a4), (.ref a4)])) rfl rfl (hb hby d_m4_31))
    obtain ⟨T6, h6, H6, K6, A6, st6⟩ := H5.stC A5 (by decide) rfl (Or.inr (by omega)) (g := (mkF m 32 #[rv b, iv 1] [(.int c0), (.int (0 : Int32)), (.ref a5), (.ref a5), (.ref a4), (.ref a4)])) rfl rfl (hb hby d_m4_32)
    have zh6 := K6.1
    refine Rn.pu (g' := (mkF m 33 #[rv b, iv 1] [(.ref a5), (.ref a4), (.ref a4)])) ?_ st6
    obtain ⟨_, T7, h7, H7, ⟨rfl, t7, et7, lt7, S7⟩, K7, st7⟩ := H6.callI rfl (wd hw 52 rfl) (wd hw 53 rfl) (wd hw 54 rfl) (by decide) (payNew (cs := [(nar .char c0)]) (n := 1) (W := 1) (hws_new hw) (wd hw 2 rfl) ((E4.keep K5).keep K6) ((F4_value.keep K5 nin0).keep K6 (ninS (adne (by omega)) nin0)) ((F4_coder.keep K5 nin0).keep K6 (ninS (adne (by omega)) nin0)) A6 (SC0.ext H6.old) hz0 rfl rfl (by decide) (by decide) (mem2 (lat_nar qc0) mem0) (by decide) (by decide)) (g := (mkF m 33 #[rv b, iv 1] [(.ref a5), (.ref a4), (.ref a4)])) rfl (by rw [hml]; rfl) (argsL := [(.ref a5)]) (rest := [(.ref a4)]) (lenOf pd__AC_V rfl) rfl rfl (Nat.le_of_eq rfl) (hb hby d_m4_33) (by decide) (by decide) (allS (Or.inr (by omega)) all0)
    have zh7 := K7.1
    have l7 := natlt (S7).lt
    refine Rn.pu (g' := (mkF m 36 #[rv b, iv 1] [(.ref a4)])) ?_ st7
    have SX := S7
    have lSX := natlt (SX).lt
    have mSX := natlt (SX).ltt
    exact H7.retA ends_W hlk hret rfl rfl rfl (hb hby d_m4_36) (by decide) (by decide) (fun _ q => nomatch q) ⟨(fun z => ⟨z.1, z.2.1⟩) (H7.vm (fun U vm1 hW q => EG.stab hP hW q)), a4, t7, [(nar .char c0)], rfl, SX, by omega, by omega, by omega⟩
  ·
    refine Rn.pu (T' := T0) (g' := (mkF m 1 #[rv b, iv 2] [(.int (2 : Int32))])) ?_ fun _ zk => XS.iloadN H0.here hx rfl (hb hby d_m4_0) rfl zk
    refine Rn.pu (T' := T0) (g' := (mkF m 15 #[rv b, iv 2] [])) ?_ fun _ zk => XS.ifYes H0.here hx rfl (pc0 := 1) (pc' := 15) rfl (hb hby d_m4_1) rfl (z_ne_t (by decide)) (by decide) (by decide) zk
    refine Rn.pu (T' := T0) (g' := (mkF m 16 #[rv b, iv 2] [(.int (2 : Int32))])) ?_ fun _ zk => XS.iloadN H0.here hx rfl (hb hby d_m4_15) rfl zk
    refine Rn.pu (T' := T0) (g' := (mkF m 17 #[rv b, iv 2] [(.int (1 : Int32)), (.int (2 : Int32))])) ?_ fun _ zk => XS.iconst H0.here hx rfl (hb hby d_m4_16) zk
    refine Rn.pu (T' := T0) (g' := (mkF m 37 #[rv b, iv 2] [])) ?_ fun _ zk => XS.icmpYes H0.here hx rfl (pc0 := 17) (pc' := 37) rfl (hb hby d_m4_17) rfl (c_ne_t (by decide)) (by decide) (by decide) zk
    refine Rn.pu (T' := T0) (g' := (mkF m 38 #[rv b, iv 2] [(.int (2 : Int32))])) ?_ fun _ zk => XS.iloadN H0.here hx rfl (hb hby d_m4_37) rfl zk
    refine Rn.pu (T' := T0) (g' := (mkF m 39 #[rv b, iv 2] [(.int (2 : Int32)), (.int (2 : Int32))])) ?_ fun _ zk => XS.iconst H0.here hx rfl (hb hby d_m4_38) zk
    refine Rn.pu (T' := T0) (g' := (mkF m 42 #[rv b, iv 2] [])) ?_ fun _ zk => XS.icmpNo H0.here hx rfl (hb hby d_m4_39) rfl (c_ne_f rfl) zk
    obtain ⟨a8, T8, h8, e8, H8, K8, E8, D8, st8⟩ := H0.newO (wd hw 51 rfl) (wd hw 2 rfl) (wd hw 1 rfl) (g := (mkF m 42 #[rv b, iv 2] [])) rfl (hb hby d_m4_42) (by decide) (by decide)
    have zh8 := K8.1
    have l8 := natlt (E8).lt
    have g8 : s.heap.size ≤ a8 := by omega
    have F8_value : Fld Z h8 a8 "java/lang/String" "value" "[B" .null := D8 (Or.inr (wd hw 4 rfl)) (ty := (.array .byte)) (by decide)
    have F8_coder : Fld Z h8 a8 "java/lang/String" "coder" "B" (.int (0 : Int32)) := D8 (Or.inr (wd hw 5 rfl)) (ty := .byte) (by decide)
    refine Rn.pu (g' := (mkF m 45 #[rv b, iv 2] [(.ref a8)])) ?_ st8
    refine Rn.pu (T' := T8) (g' := (mkF m 46 #[rv b, iv 2] [(.ref a8), (.ref a8)])) ?_ fun _ zk => XS.dup H8.here hx rfl (hb hby d_m4_45) rfl rfl zk
    refine Rn.pu (T' := T8) (g' := (mkF m 47 #[rv b, iv 2] [(.int (2 : Int32)), (.ref a8), (.ref a8)])) ?_ fun _ zk => XS.iconst H8.here hx rfl (hb hby d_m4_46) zk
    obtain ⟨a9, k9, T9, h9, e9, H9, K9, A9, st9⟩ := H8.newP (aty := .char) (wd hw 21 rfl) (g := (mkF m 47 #[rv b, iv 2] [(.int (2 : Int32)), (.ref a8), (.ref a8)])) rfl (hb hby d_m4_47) rfl (by decide) (cap := 2) (by decide) (by decide) (by decide) (by decide)
    have zh9 := K9.1
    have l9 := natlt (A9).lt
    have g9 : s.heap.size ≤ a9 := by omega
    refine Rn.pu (g' := (mkF m 49 #[rv b, iv 2] [(.ref a9), (.ref a8), (.ref a8)])) ?_ st9
    refine Rn.pu (T' := T9) (g' := (mkF m 50 #[rv b, iv 2] [(.ref a9), (.ref a9), (.ref a8), (.ref a8)])) ?_ fun _ zk => XS.dup H9.here hx rfl (hb hby d_m4_49) rfl rfl zk
    refine Rn.pu (T' := T9) (g' := (mkF m 51 #[rv b, iv 2] [(.int (0 : Int32)), (.ref a9), (.ref a9), (.ref a8), (.ref a8)])) ?_ fun _ zk => XS.iconst H9.here hx rfl (hb hby d_m4_50) zk
    refine Rn.pu (T' := T9) (g' := (mkF m 52 #[rv b, iv 2] [(.ref b), (.int (0 : Int32)), (.ref a9), (.ref a9), (.ref a8), (.ref a8)])) ?_ fun _ zk => XS.aloadN H9.here hx rfl (hb hby d_m4_51) rfl rfl zk
    refine Rn.pu (T' := T9) (g' := (mkF m 53 #[rv b, iv 2] [(.int (0 : Int32)), (.ref b), (.int (0 : Int32)), (.ref a9), (.ref a9), (.ref a8), (.ref a8)])) ?_ fun _ zk => XS.iconst H9.here hx rfl (hb hby d_m4_52) zk
    refine Rn.pu (g' := (mkF m 54 #[rv b, iv 2] [(.int c0), (.int (0 : Int32)), (.ref a9), (.ref a9), (.ref a8), (.ref a8)])) ?_ (H9.cald ((AB.keep K8 nin0).keep K9 nin0) (by decide) (v := .int c0) rfl (g := (mkF m 53 #[rv b, iv 2] [(.int (0 : Int32)), (.ref b), (.int (0 : Int32)), (.ref a9), (.ref a9), (.ref a8), (.ref a8)])) rfl rfl (hb hby d_m4_53))
    obtain ⟨T10, h10, H10, K10, A10, st10⟩ := H9.stC A9 (by decide) rfl (Or.inr (by omega)) (g := (mkF m 54 #[rv b, iv 2] [(.int c0), (.int (0 : Int32)), (.ref a9), (.ref a9), (.ref a8), (.ref a8)])) rfl rfl (hb hby d_m4_54)
    have zh10 := K10.1
    refine Rn.pu (g' := (mkF m 55 #[rv b, iv 2] [(.ref a9), (.ref a8), (.ref a8)])) ?_ st10
    refine Rn.pu (T' := T10) (g' := (mkF m 56 #[rv b, iv 2] [(.ref a9), (.ref a9), (.ref a8), (.ref a8)])) ?_ fun _ zk => XS.dup H10.here hx rfl (hb hby d_m4_55) rfl rfl zk
    refine Rn.pu (T' := T10) (g' := (mkF m 57 #[rv b, iv 2] [(.int (1 : Int32)), (.ref a9), (.ref a9), (.ref a8), (.ref a8)])) ?_ fun _ zk => XS.iconst H10.here hx rfl (hb hby d_m4_56) zk
    refine Rn.pu (T' := T10) (g' := (mkF m 58 #[rv b, iv 2] [(.ref b), (.int (1 : Int32)), (.ref a9), (.ref a9), (.ref a8), (.ref a8)])) ?_ fun _ zk => XS.aloadN H10.here hx rfl (hb hby d_m4_57) rfl rfl zk
    refine Rn.pu (T' := T10) (g' := (mkF m 59 #[rv b, iv 2] [(.int (1 : Int32)), (.ref b), (.int (1 : Int32)), (.ref a9), (.ref a9), (.ref a8), (.ref a8)])) ?_ fun _ zk => XS.iconst H10.here hx rfl (hb hby d_m4_58) zk
    refine Rn.pu (g' := (mkF m 60 #[rv b, iv 2] [(.int c1), (.int (1 : Int32)), (.ref a9), (.ref a9), (.ref a8), (.ref a8)])) ?_ (H10.cald (((AB.keep K8 nin0).keep K9 nin0).keep K10 (ninS (adne (by omega)) nin0)) (by decide) (v := .int c1) rfl (g := (mkF m 59 #[rv b, iv 2] [(.int (1 : Int32)), (.ref b), (.int (1 : Int32)), (.ref a9), (.ref a9), (.ref a8), (.ref a8)])) rfl rfl (hb hby d_m4_59))
    obtain ⟨T11, h11, H11, K11, A11, st11⟩ := H10.stC A10 (by decide) rfl (Or.inr (by omega)) (g := (mkF m 60 #[rv b, iv 2] [(.int c1), (.int (1 : Int32)), (.ref a9), (.ref a9), (.ref a8), (.ref a8)])) rfl rfl (hb hby d_m4_60)
    have zh11 := K11.1
    refine Rn.pu (g' := (mkF m 61 #[rv b, iv 2] [(.ref a9), (.ref a8), (.ref a8)])) ?_ st11
    obtain ⟨_, T12, h12, H12, ⟨rfl, t12, et12, lt12, S12⟩, K12, st12⟩ := H11.callI rfl (wd hw 52 rfl) (wd hw 53 rfl) (wd hw 54 rfl) (by decide) (payNew (cs := [(nar .char c0), (nar .char c1)]) (n := 2) (W := 1) (hws_new hw) (wd hw 2 rfl) (((E8.keep K9).keep K10).keep K11) (((F8_value.keep K9 nin0).keep K10 (ninS (adne (by omega)) nin0)).keep K11 (ninS (adne (by omega)) nin0)) (((F8_coder.keep K9 nin0).keep K10 (ninS (adne (by omega)) nin0)).keep K11 (ninS (adne (by omega)) nin0)) A11 (SC0.ext H11.old) hz0 rfl rfl (by decide) (by decide) (mem2 (lat_nar qc0) (mem2 (lat_nar qc1) mem0)) (by decide) (by decide)) (g := (mkF m 61 #[rv b, iv 2] [(.ref a9), (.ref a8), (.ref a8)])) rfl (by rw [hml]; rfl) (argsL := [(.ref a9)]) (rest := [(.ref a8)]) (lenOf pd__AC_V rfl) rfl rfl (Nat.le_of_eq rfl) (hb hby d_m4_61) (by decide) (by decide) (allS (Or.inr (by omega)) all0)
    have zh12 := K12.1
    have l12 := natlt (S12).lt
    refine Rn.pu (g' := (mkF m 64 #[rv b, iv 2] [(.ref a8)])) ?_ st12
    have SX := S12
    have lSX := natlt (SX).lt
    have mSX := natlt (SX).ltt
    exact H12.retA ends_W hlk hret rfl rfl rfl (hb hby d_m4_64) (by decide) (by decide) (fun _ q => nomatch q) ⟨(fun z => ⟨z.1, z.2.1⟩) (H12.vm (fun U vm1 hW q => EG.stab hP hW q)), a8, t12, [(nar .char c0), (nar .char c1)], rfl, SX, by omega, by omega, by omega⟩
  ·
    refine Rn.pu (T' := T0) (g' := (mkF m 1 #[rv b, iv 3] [(.int (3 : Int32))])) ?_ fun _ zk => XS.iloadN H0.here hx rfl (hb hby d_m4_0) rfl zk
    refine Rn.pu (T' := T0) (g' := (mkF m 15 #[rv b, iv 3] [])) ?_ fun _ zk => XS.ifYes H0.here hx rfl (pc0 := 1) (pc' := 15) rfl (hb hby d_m4_1) rfl (z_ne_t (by decide)) (by decide) (by decide) zk
    refine Rn.pu (T' := T0) (g' := (mkF m 16 #[rv b, iv 3] [(.int (3 : Int32))])) ?_ fun _ zk => XS.iloadN H0.here hx rfl (hb hby d_m4_15) rfl zk
    refine Rn.pu (T' := T0) (g' := (mkF m 17 #[rv b, iv 3] [(.int (1 : Int32)), (.int (3 : Int32))])) ?_ fun _ zk => XS.iconst H0.here hx rfl (hb hby d_m4_16) zk
    refine Rn.pu (T' := T0) (g' := (mkF m 37 #[rv b, iv 3] [])) ?_ fun _ zk => XS.icmpYes H0.here hx rfl (pc0 := 17) (pc' := 37) rfl (hb hby d_m4_17) rfl (c_ne_t (by decide)) (by decide) (by decide) zk
    refine Rn.pu (T' := T0) (g' := (mkF m 38 #[rv b, iv 3] [(.int (3 : Int32))])) ?_ fun _ zk => XS.iloadN H0.here hx rfl (hb hby d_m4_37) rfl zk
    refine Rn.pu (T' := T0) (g' := (mkF m 39 #[rv b, iv 3] [(.int (2 : Int32)), (.int (3 : Int32))])) ?_ fun _ zk => XS.iconst H0.here hx rfl (hb hby d_m4_38) zk
    refine Rn.pu (T' := T0) (g' := (mkF m 65 #[rv b, iv 3] [])) ?_ fun _ zk => XS.icmpYes H0.here hx rfl (pc0 := 39) (pc' := 65) rfl (hb hby d_m4_39) rfl (c_ne_t (by decide)) (by decide) (by decide) zk
    refine Rn.pu (T' := T0) (g' := (mkF m 66 #[rv b, iv 3] [(.int (3 : Int32))])) ?_ fun _ zk => XS.iloadN H0.here hx rfl (hb hby d_m4_65) rfl zk
    refine Rn.pu (T' := T0) (g' := (mkF m 67 #[rv b, iv 3] [(.int (3 : Int32)), (.int (3 : Int32))])) ?_ fun _ zk => XS.iconst H0.here hx rfl (hb hby d_m4_66) zk
    refine Rn.pu (T' := T0) (g' := (mkF m 70 #[rv b, iv 3] [])) ?_ fun _ zk => XS.icmpNo H0.here hx rfl (hb hby d_m4_67) rfl (c_ne_f rfl) zk
    obtain ⟨a13, T13, h13, e13, H13, K13, E13, D13, st13⟩ := H0.newO (wd hw 51 rfl) (wd hw 2 rfl) (wd hw 1 rfl) (g := (mkF m 70 #[rv b, iv 3] [])) rfl (hb hby d_m4_70) (by decide) (by decide)
    have zh13 := K13.1
    have l13 := natlt (E13).lt
    have g13 : s.heap.size ≤ a13 := by omega
    have F13_value : Fld Z h13 a13 "java/lang/String" "value" "[B" .null := D13 (Or.inr (wd hw 4 rfl)) (ty := (.array .byte)) (by decide)
    have F13_coder : Fld Z h13 a13 "java/lang/String" "coder" "B" (.int (0 : Int32)) := D13 (Or.inr (wd hw 5 rfl)) (ty := .byte) (by decide)
    refine Rn.pu (g' := (mkF m 73 #[rv b, iv 3] [(.ref a13)])) ?_ st13
    refine Rn.pu (T' := T13) (g' := (mkF m 74 #[rv b, iv 3] [(.ref a13), (.ref a13)])) ?_ fun _ zk => XS.dup H13.here hx rfl (hb hby d_m4_73) rfl rfl zk
    refine Rn.pu (T' := T13) (g' := (mkF m 75 #[rv b, iv 3] [(.int (3 : Int32)), (.ref a13), (.ref a13)])) ?_ fun _ zk => XS.iconst H13.here hx rfl (hb hby d_m4_74) zk
    obtain ⟨a14, k14, T14, h14, e14, H14, K14, A14, st14⟩ := H13.newP (aty := .char) (wd hw 21 rfl) (g := (mkF m 75 #[rv b, iv 3] [(.int (3 : Int32)), (.ref a13), (.ref a13)])) rfl (hb hby d_m4_75) rfl (by decide) (cap := 3) (by decide) (by decide) (by decide) (by decide)
    have zh14 := K14.1
    have l14 := natlt (A14).lt
    have g14 : s.heap.size ≤ a14 := by omega
    refine Rn.pu (g' := (mkF m 77 #[rv b, iv 3] [(.ref a14), (.ref a13), (.ref a13)])) ?_ st14
    refine Rn.pu (T' := T14) (g' := (mkF m 78 #[rv b, iv 3] [(.ref a14), (.ref a14), (.ref a13), (.ref a13)])) ?_ fun _ zk => XS.dup H14.here hx rfl (hb hby d_m4_77) rfl rfl zk
    refine Rn.pu (T' := T14) (g' := (mkF m 79 #[rv b, iv 3] [(.int (0 : Int32)), (.ref a14), (.ref a14), (.ref a13), (.ref a13)])) ?_ fun _ zk => XS.iconst H14.here hx rfl (hb hby d_m4_78) zk
    refine Rn.pu (T' := T14) (g' := (mkF m 80 #[rv b, iv 3] [(.ref b), (.int (0 : Int32)), (.ref a14), (.ref a14), (.ref a13), (.ref a13)])) ?_ fun _ zk => XS.aloadN H14.here hx rfl (hb hby d_m4_79) rfl rfl zk
    refine Rn.pu (T' := T14) (g' := (mkF m 81 #[rv b, iv 3] [(.int (0 : Int32)), (.ref b), (.int (0 : Int32)), (.ref a14), (.ref a14), (.ref a13), (.ref a13)])) ?_ fun _ zk => XS.iconst H14.here hx rfl (hb hby d_m4_80) zk
    refine Rn.pu (g' := (mkF m 82 #[rv b, iv 3] [(.int c0), (.int (0 : Int32)), (.ref a14), (.ref a14), (.ref a13), (.ref a13)])) ?_ (H14.cald ((AB.keep K13 nin0).keep K14 nin0) (by decide) (v := .int c0) rfl (g := (mkF m 81 #[rv b, iv 3] [(.int (0 : Int32)), (.ref b), (.int (0 : Int32)), (.ref a14), (.ref a14), (.ref a13), (.ref a13)])) rfl rfl (hb hby d_m4_81))
    obtain ⟨T15, h15, H15, K15, A15, st15⟩ := H14.stC A14 (by decide) rfl (Or.inr (by omega)) (g := (mkF m 82 #[rv b, iv 3] [(.int c0), (.int (0 : Int32)), (.ref a14), (.ref a14), (.ref a13), (.ref a13)])) rfl rfl (hb hby d_m4_82)
    have zh15 := K15.1
    refine Rn.pu (g' := (mkF m 83 #[rv b, iv 3] [(.ref a14), (.ref a13), (.ref a13)])) ?_ st15
    refine Rn.pu (T' := T15) (g' := (mkF m 84 #[rv b, iv 3] [(.ref a14), (.ref a14), (.ref a13), (.ref a13)])) ?_ fun _ zk => XS.dup H15.here hx rfl (hb hby d_m4_83) rfl rfl zk
    refine Rn.pu (T' := T15) (g' := (mkF m 85 #[rv b, iv 3] [(.int (1 : Int32)), (.ref a14), (.ref a14), (.ref a13), (.ref a13)])) ?_ fun _ zk => XS.iconst H15.here hx rfl (hb hby d_m4_84) zk
    refine Rn.pu (T' := T15) (g' := (mkF m 86 #[rv b, iv 3] [(.ref b), (.int (1 : Int32)), (.ref a14), (.ref a14), (.ref a13), (.ref a13)])) ?_ fun _ zk => XS.aloadN H15.here hx rfl (hb hby d_m4_85) rfl rfl zk
    refine Rn.pu (T' := T15) (g' := (mkF m 87 #[rv b, iv 3] [(.int (1 : Int32)), (.ref b), (.int (1 : Int32)), (.ref a14), (.ref a14), (.ref a13), (.ref a13)])) ?_ fun _ zk => XS.iconst H15.here hx rfl (hb hby d_m4_86) zk
    refine Rn.pu (g' := (mkF m 88 #[rv b, iv 3] [(.int c1), (.int (1 : Int32)), (.ref a14), (.ref a14), (.ref a13), (.ref a13)])) ?_ (H15.cald (((AB.keep K13 nin0).keep K14 nin0).keep K15 (ninS (adne (by omega)) nin0)) (by decide) (v := .int c1) rfl (g := (mkF m 87 #[rv b, iv 3] [(.int (1 : Int32)), (.ref b), (.int (1 : Int32)), (.ref a14), (.ref a14), (.ref a13), (.ref a13)])) rfl rfl (hb hby d_m4_87))
    obtain ⟨T16, h16, H16, K16, A16, st16⟩ := H15.stC A15 (by decide) rfl (Or.inr (by omega)) (g := (mkF m 88 #[rv b, iv 3] [(.int c1), (.int (1 : Int32)), (.ref a14), (.ref a14), (.ref a13), (.ref a13)])) rfl rfl (hb hby d_m4_88)
    have zh16 := K16.1
    refine Rn.pu (g' := (mkF m 89 #[rv b, iv 3] [(.ref a14), (.ref a13), (.ref a13)])) ?_ st16
    refine Rn.pu (T' := T16) (g' := (mkF m 90 #[rv b, iv 3] [(.ref a14), (.ref a14), (.ref a13), (.ref a13)])) ?_ fun _ zk => XS.dup H16.here hx rfl (hb hby d_m4_89) rfl rfl zk
    refine Rn.pu (T' := T16) (g' := (mkF m 91 #[rv b, iv 3] [(.int (2 : Int32)), (.ref a14), (.ref a14), (.ref a13), (.ref a13)])) ?_ fun _ zk => XS.iconst H16.here hx rfl (hb hby d_m4_90) zk
    refine Rn.pu (T' := T16) (g' := (mkF m 92 #[rv b, iv 3] [(.ref b), (.int (2 : Int32)), (.ref a14), (.ref a14), (.ref a13), (.ref a13)])) ?_ fun _ zk => XS.aloadN H16.here hx rfl (hb hby d_m4_91) rfl rfl zk
    refine Rn.pu (T' := T16) (g' := (mkF m 93 #[rv b, iv 3] [(.int (2 : Int32)), (.ref b), (.int (2 : Int32)), (.ref a14), (.ref a14), (.ref a13), (.ref a13)])) ?_ fun _ zk => XS.iconst H16.here hx rfl (hb hby d_m4_92) zk
    refine Rn.pu (g' := (mkF m 94 #[rv b, iv 3] [(.int c2), (.int (2 : Int32)), (.ref a14), (.ref a14), (.ref a13), (.ref a13)])) ?_ (H16.cald ((((AB.keep K13 nin0).keep K14 nin0).keep K15 (ninS (adne (by omega)) nin0)).keep K16 (ninS (adne (by omega)) nin0)) (by decide) (v := .int c2) rfl (g := (mkF m 93 #[rv b, iv 3] [(.int (2 : Int32)), (.ref b), (.int (2 : Int32)), (.ref a14), (.ref a14), (.ref a13), (.ref a13)])) rfl rfl (hb hby d_m4_93))
    obtain ⟨T17, h17, H17, K17, A17, st17⟩ := H16.stC A16 (by decide) rfl (Or.inr (by omega)) (g := (mkF m 94 #[rv b, iv 3] [(.int c2), (.int (2 : Int32)), (.ref a14), (.ref a14), (.ref a13), (.ref a13)])) rfl rfl (hb hby d_m4_94)
    have zh17 := K17.1
    refine Rn.pu (g' := (mkF m 95 #[rv b, iv 3] [(.ref a14), (.ref a13), (.ref a13)])) ?_ st17
    obtain ⟨_, T18, h18, H18, ⟨rfl, t18, et18, lt18, S18⟩, K18, st18⟩ := H17.callI rfl (wd hw 52 rfl) (wd hw 53 rfl) (wd hw 54 rfl) (by decide) (payNew (cs := [(nar .char c0), (nar .char c1), (nar .char c2)]) (n := 3) (W := 1) (hws_new hw) (wd hw 2 rfl) ((((E13.keep K14).keep K15).keep K16).keep K17) ((((F13_value.keep K14 nin0).keep K15 (ninS (adne (by omega)) nin0)).keep K16 (ninS (adne (by omega)) nin0)).keep K17 (ninS (adne (by omega)) nin0)) ((((F13_coder.keep K14 nin0).keep K15 (ninS (adne (by omega)) nin0)).keep K16 (ninS (adne (by omega)) nin0)).keep K17 (ninS (adne (by omega)) nin0)) A17 (SC0.ext H17.old) hz0 rfl rfl (by decide) (by decide) (mem2 (lat_nar qc0) (mem2 (lat_nar qc1) (mem2 (lat_nar qc2) mem0))) (by decide) (by decide)) (g := (mkF m 95 #[rv b, iv 3] [(.ref a14), (.ref a13), (.ref a13)])) rfl (by rw [hml]; rfl) (argsL := [(.ref a14)]) (rest := [(.ref a13)]) (lenOf pd__AC_V rfl) rfl rfl (Nat.le_of_eq rfl) (hb hby d_m4_95) (by decide) (by decide) (allS (Or.inr (by omega)) all0)
    have zh18 := K18.1
    have l18 := natlt (S18).lt
    refine Rn.pu (g' := (mkF m 98 #[rv b, iv 3] [(.ref a13)])) ?_ st18
    have SX := S18
    have lSX := natlt (SX).lt
    have mSX := natlt (SX).ltt
    exact H18.retA ends_W hlk hret rfl rfl rfl (hb hby d_m4_98) (by decide) (by decide) (fun _ q => nomatch q) ⟨(fun z => ⟨z.1, z.2.1⟩) (H18.vm (fun U vm1 hW q => EG.stab hP hW q)), a13, t18, [(nar .char c0), (nar .char c1), (nar .char c2)], rfl, SX, by omega, by omega, by omega⟩
  ·
    refine Rn.pu (T' := T0) (g' := (mkF m 1 #[rv b, iv 4] [(.int (4 : Int32))])) ?_ fun _ zk => XS.iloadN H0.here hx rfl (hb hby d_m4_0) rfl zk
    refine Rn.pu (T' := T0) (g' := (mkF m 15 #[rv b, iv 4] [])) ?_ fun _ zk => XS.ifYes H0.here hx rfl (pc0 := 1) (pc' := 15) rfl (hb hby d_m4_1) rfl (z_ne_t (by decide)) (by decide) (by decide) zk
    refine Rn.pu (T' := T0) (g' := (mkF m 16 #[rv b, iv 4] [(.int (4 : Int32))])) ?_ fun _ zk => XS.iloadN H0.here hx rfl (hb hby d_m4_15) rfl zk
    refine Rn.pu (T' := T0) (g' := (mkF m 17 #[rv b, iv 4] [(.int (1 : Int32)), (.int (4 : Int32))])) ?_ fun _ zk => XS.iconst H0.here hx rfl (hb hby d_m4_16) zk
    refine Rn.pu (T' := T0) (g' := (mkF m 37 #[rv b, iv 4] [])) ?_ fun _ zk => XS.icmpYes H0.here hx rfl (pc0 := 17) (pc' := 37) rfl (hb hby d_m4_17) rfl (c_ne_t (by decide)) (by decide) (by decide) zk
    refine Rn.pu (T' := T0) (g' := (mkF m 38 #[rv b, iv 4] [(.int (4 : Int32))])) ?_ fun _ zk => XS.iloadN H0.here hx rfl (hb hby d_m4_37) rfl zk
    refine Rn.pu (T' := T0) (g' := (mkF m 39 #[rv b, iv 4] [(.int (2 : Int32)), (.int (4 : Int32))])) ?_ fun _ zk => XS.iconst H0.here hx rfl (hb hby d_m4_38) zk
    refine Rn.pu (T' := T0) (g' := (mkF m 65 #[rv b, iv 4] [])) ?_ fun _ zk => XS.icmpYes H0.here hx rfl (pc0 := 39) (pc' := 65) rfl (hb hby d_m4_39) rfl (c_ne_t (by decide)) (by decide) (by decide) zk
    refine Rn.pu (T' := T0) (g' := (mkF m 66 #[rv b, iv 4] [(.int (4 : Int32))])) ?_ fun _ zk => XS.iloadN H0.here hx rfl (hb hby d_m4_65) rfl zk
    refine Rn.pu (T' := T0) (g' := (mkF m 67 #[rv b, iv 4] [(.int (3 : Int32)), (.int (4 : Int32))])) ?_ fun _ zk => XS.iconst H0.here hx rfl (hb hby d_m4_66) zk
    refine Rn.pu (T' := T0) (g' := (mkF m 99 #[rv b, iv 4] [])) ?_ fun _ zk => XS.icmpYes H0.here hx rfl (pc0 := 67) (pc' := 99) rfl (hb hby d_m4_67) rfl (c_ne_t (by decide)) (by decide) (by decide) zk
    refine Rn.pu (T' := T0) (g' := (mkF m 100 #[rv b, iv 4] [(.int (4 : Int32))])) ?_ fun _ zk => XS.iloadN H0.here hx rfl (hb hby d_m4_99) rfl zk
    refine Rn.pu (T' := T0) (g' := (mkF m 101 #[rv b, iv 4] [(.int (4 : Int32)), (.int (4 : Int32))])) ?_ fun _ zk => XS.iconst H0.here hx rfl (hb hby d_m4_100) zk
    refine Rn.pu (T' := T0) (g' := (mkF m 104 #[rv b, iv 4] [])) ?_ fun _ zk => XS.icmpNo H0.here hx rfl (hb hby d_m4_101) rfl (c_ne_f rfl) zk
    obtain ⟨a19, T19, h19, e19, H19, K19, E19, D19, st19⟩ := H0.newO (wd hw 51 rfl) (wd hw 2 rfl) (wd hw 1 rfl) (g := (mkF m 104 #[rv b, iv 4] [])) rfl (hb hby d_m4_104) (by decide) (by decide)
    have zh19 := K19.1
    have l19 := natlt (E19).lt
    have g19 : s.heap.size ≤ a19 := by omega
    have F19_value : Fld Z h19 a19 "java/lang/String" "value" "[B" .null := D19 (Or.inr (wd hw 4 rfl)) (ty := (.array .byte)) (by decide)
    have F19_coder : Fld Z h19 a19 "java/lang/String" "coder" "B" (.int (0 : Int32)) := D19 (Or.inr (wd hw 5 rfl)) (ty := .byte) (by decide)
    refine Rn.pu (g' := (mkF m 107 #[rv b, iv 4] [(.ref a19)])) ?_ st19
    refine Rn.pu (T' := T19) (g' := (mkF m 108 #[rv b, iv 4] [(.ref a19), (.ref a19)])) ?_ fun _ zk => XS.dup H19.here hx rfl (hb hby d_m4_107) rfl rfl zk
    refine Rn.pu (T' := T19) (g' := (mkF m 109 #[rv b, iv 4] [(.int (4 : Int32)), (.ref a19), (.ref a19)])) ?_ fun _ zk => XS.iconst H19.here hx rfl (hb hby d_m4_108) zk
    obtain ⟨a20, k20, T20, h20, e20, H20, K20, A20, st20⟩ := H19.newP (aty := .char) (wd hw 21 rfl) (g := (mkF m 109 #[rv b, iv 4] [(.int (4 : Int32)), (.ref a19), (.ref a19)])) rfl (hb hby d_m4_109) rfl (by decide) (cap := 4) (by decide) (by decide) (by decide) (by decide)
    have zh20 := K20.1
    have l20 := natlt (A20).lt
    have g20 : s.heap.size ≤ a20 := by omega
    refine Rn.pu (g' := (mkF m 111 #[rv b, iv 4] [(.ref a20), (.ref a19), (.ref a19)])) ?_ st20
    refine Rn.pu (T' := T20) (g' := (mkF m 112 #[rv b, iv 4] [(.ref a20), (.ref a20), (.ref a19), (.ref a19)])) ?_ fun _ zk => XS.dup H20.here hx rfl (hb hby d_m4_111) rfl rfl zk
    refine Rn.pu (T' := T20) (g' := (mkF m 113 #[rv b, iv 4] [(.int (0 : Int32)), (.ref a20), (.ref a20), (.ref a19), (.ref a19)])) ?_ fun _ zk => XS.iconst H20.here hx rfl (hb hby d_m4_112) zk
    refine Rn.pu (T' := T20) (g' := (mkF m 114 #[rv b, iv 4] [(.ref b), (.int (0 : Int32)), (.ref a20), (.ref a20), (.ref a19), (.ref a19)])) ?_ fun _ zk => XS.aloadN H20.here hx rfl (hb hby d_m4_113) rfl rfl zk
    refine Rn.pu (T' := T20) (g' := (mkF m 115 #[rv b, iv 4] [(.int (0 : Int32)), (.ref b), (.int (0 : Int32)), (.ref a20), (.ref a20), (.ref a19), (.ref a19)])) ?_ fun _ zk => XS.iconst H20.here hx rfl (hb hby d_m4_114) zk
    refine Rn.pu (g' := (mkF m 116 #[rv b, iv 4] [(.int c0), (.int (0 : Int32)), (.ref a20), (.ref a20), (.ref a19), (.ref a19)])) ?_ (H20.cald ((AB.keep K19 nin0).keep K20 nin0) (by decide) (v := .int c0) rfl (g := (mkF m 115 #[rv b, iv 4] [(.int (0 : Int32)), (.ref b), (.int (0 : Int32)), (.ref a20), (.ref a20), (.ref a19), (.ref a19)])) rfl rfl (hb hby d_m4_115))
    obtain ⟨T21, h21, H21, K21, A21, st21⟩ := H20.stC A20 (by decide) rfl (Or.inr (by omega)) (g := (mkF m 116 #[rv b, iv 4] [(.int c0), (.int (0 : Int32)), (.ref a20), (.ref a20), (.ref a19), (.ref a19)])) rfl rfl (hb hby d_m4_116)
    have zh21 := K21.1
    refine Rn.pu (g' := (mkF m 117 #[rv b, iv 4] [(.ref a20), (.ref a19), (.ref a19)])) ?_ st21
    refine Rn.pu (T' := T21) (g' := (mkF m 118 #[rv b, iv 4] [(.ref a20), (.ref a20), (.ref a19), (.ref a19)])) ?_ fun _ zk => XS.dup H21.here hx rfl (hb hby d_m4_117) rfl rfl zk
    refine Rn.pu (T' := T21) (g' := (mkF m 119 #[rv b, iv 4] [(.int (1 : Int32)), (.ref a20), (.ref a20), (.ref a19), (.ref a19)])) ?_ fun _ zk => XS.iconst H21.here hx rfl (hb hby d_m4_118) zk
    refine Rn.pu (T' := T21) (g' := (mkF m 120 #[rv b, iv 4] [(.ref b), (.int (1 : Int32)), (.ref a20), (.ref a20), (.ref a19), (.ref a19)])) ?_ fun _ zk => XS.aloadN H21.here hx rfl (hb hby d_m4_119) rfl rfl zk
    refine Rn.pu (T' := T21) (g' := (mkF m 121 #[rv b, iv 4] [(.int (1 : Int32)), (.ref b), (.int (1 : Int32)), (.ref a20), (.ref a20), (.ref a19), (.ref a19)])) ?_ fun _ zk => XS.iconst H21.here hx rfl (hb hby d_m4_120) zk
    refine Rn.pu (g' := (mkF m 122 #[rv b, iv 4] [(.int c1), (.int (1 : Int32)), (.ref a20), (.ref a20), (.ref a19), (.ref a19)])) ?_ (H21.cald (((AB.keep K19 nin0).keep K20 nin0).keep K21 (ninS (adne (by omega)) nin0)) (by decide) (v := .int c1) rfl (g := (mkF m 121 #[rv b, iv 4] [(.int (1 : Int32)), (.ref b), (.int (1 : Int32)), (.ref a20), (.ref a20), (.ref a19), (.ref a19)])) rfl rfl (hb hby d_m4_121))
    obtain ⟨T22, h22, H22, K22, A22, st22⟩ := H21.stC A21 (by decide) rfl (Or.inr (by omega)) (g := (mkF m 122 #[rv b, iv 4] [(.int c1), (.int (1 : Int32)), (.ref a20), (.ref a20), (.ref a19), (.ref a19)])) rfl rfl (hb hby d_m4_122)
    have zh22 := K22.1
    refine Rn.pu (g' := (mkF m 123 #[rv b, iv 4] [(.ref a20), (.ref a19), (.ref a19)])) ?_ st22
    refine Rn.pu (T' := T22) (g' := (mkF m 124 #[rv b, iv 4] [(.ref a20), (.ref a20), (.ref a19), (.ref a19)])) ?_ fun _ zk => XS.dup H22.here hx rfl (hb hby d_m4_123) rfl rfl zk
    refine Rn.pu (T' := T22) (g' := (mkF m 125 #[rv b, iv 4] [(.int (2 : Int32)), (.ref a20), (.ref a20), (.ref a19), (.ref a19)])) ?_ fun _ zk => XS.iconst H22.here hx rfl (hb hby d_m4_124) zk
    refine Rn.pu (T' := T22) (g' := (mkF m 126 #[rv b, iv 4] [(.ref b), (.int (2 : Int32)), (.ref a20), (.ref a20), (.ref a19), (.ref a19)])) ?_ fun _ zk => XS.aloadN H22.here hx rfl (hb hby d_m4_125) rfl rfl zk
    refine Rn.pu (T' := T22) (g' := (mkF m 127 #[rv b, iv 4] [(.int (2 : Int32)), (.ref b), (.int (2 : Int32)), (.ref a20), (.ref a20), (.ref a19), (.ref a19)])) ?_ fun _ zk => XS.iconst H22.here hx rfl (hb hby d_m4_126) zk
    refine Rn.pu (g' := (mkF m 128 #[rv b, iv 4] [(.int c2), (.int (2 : Int32)), (.ref a20), (.ref a20), (.ref a19), (.ref a19)])) ?_ (H22.cald ((((AB.keep K19 nin0).keep K20 nin0).keep K21 (ninS (adne (by omega)) nin0)).keep K22 (ninS (adne (by omega)) nin0)) (by decide) (v := .int c2) rfl (g := (mkF m 127 #[rv b, iv 4] [(.int (2 : Int32)), (.ref b), (.int (2 : Int32)), (.ref a20), (.ref a20), (.ref a19), (.ref a19)])) rfl rfl (hb hby d_m4_127))
    obtain ⟨T23, h23, H23, K23, A23, st23⟩ := H22.stC A22 (by decide) rfl (Or.inr (by omega)) (g := (mkF m 128 #[rv b, iv 4] [(.int c2), (.int (2 : Int32)), (.ref a20), (.ref a20), (.ref a19), (.ref a19)])) rfl rfl (hb hby d_m4_128)
    have zh23 := K23.1
    refine Rn.pu (g' := (mkF m 129 #[rv b, iv 4] [(.ref a20), (.ref a19), (.ref a19)])) ?_ st23
    refine Rn.pu (T' := T23) (g' := (mkF m 130 #[rv b, iv 4] [(.ref a20), (.ref a20), (.ref a19), (.ref a19)])) ?_ fun _ zk => XS.dup H23.here hx rfl (hb hby d_m4_129) rfl rfl zk
    refine Rn.pu (T' := T23) (g' := (mkF m 131 #[rv b, iv 4] [(.int (3 : Int32)), (.ref a20), (.ref a20), (.ref a19), (.ref a19)])) ?_ fun _ zk => XS.iconst H23.here hx rfl (hb hby d_m4_130) zk
    refine Rn.pu (T' := T23) (g' := (mkF m 132 #[rv b, iv 4] [(.ref b), (.int (3 : Int32)), (.ref a20), (.ref a20), (.ref a19), (.ref a19)])) ?_ fun _ zk => XS.aloadN H23.here hx rfl (hb hby d_m4_131) rfl rfl zk
    refine Rn.pu (T' := T23) (g' := (mkF m 133 #[rv b, iv 4] [(.int (3 : Int32)), (.ref b), (.int (3 : Int32)), (.ref a20), (.ref a20), (.ref a19), (.ref a19)])) ?_ fun _ zk => XS.iconst H23.here hx rfl (hb hby d_m4_132) zk
    refine Rn.pu (g' := (mkF m 134 #[rv b, iv 4] [(.int c3), (.int (3 : Int32)), (.ref a20), (.ref a20), (.ref a19), (.ref a19)])) ?_ (H23.cald (((((AB.keep K19 nin0).keep K20 nin0).keep K21 (ninS (adne (by omega)) nin0)).keep K22 (ninS (adne (by omega)) nin0)).keep K23 (ninS (adne (by omega)) nin0)) (by decide) (v := .int c3) rfl (g := (mkF m 133 #[rv b, iv 4] [(.int (3 : Int32)), (.ref b), (.int (3 : Int32)), (.ref a20), (.ref a20), (.ref a19), (.ref a19)])) rfl rfl (hb hby d_m4_133))
    obtain ⟨T24, h24, H24, K24, A24, st24⟩ := H23.stC A23 (by decide) rfl (Or.inr (by omega)) (g := (mkF m 134 #[rv b, iv 4] [(.int c3), (.int (3 : Int32)), (.ref a20), (.ref a20), (.ref a19), (.ref a19)])) rfl rfl (hb hby d_m4_134)
    have zh24 := K24.1
    refine Rn.pu (g' := (mkF m 135 #[rv b, iv 4] [(.ref a20), (.ref a19), (.ref a19)])) ?_ st24
    obtain ⟨_, T25, h25, H25, ⟨rfl, t25, et25, lt25, S25⟩, K25, st25⟩ := H24.callI rfl (wd hw 52 rfl) (wd hw 53 rfl) (wd hw 54 rfl) (by decide) (payNew (cs := [(nar .char c0), (nar .char c1), (nar .char c2), (nar .char c3)]) (n := 4) (W := 1) (hws_new hw) (wd hw 2 rfl) (((((E19.keep K20).keep K21).keep K22).keep K23).keep K24) (((((F19_value.keep K20 nin0).keep K21 (ninS (adne (by omega)) nin0)).keep K22 (ninS (adne (by omega)) nin0)).keep K23 (ninS (adne (by omega)) nin0)).keep K24 (ninS (adne (by omega)) nin0)) (((((F19_coder.keep K20 nin0).keep K21 (ninS (adne (by omega)) nin0)).keep K22 (ninS (adne (by omega)) nin0)).keep K23 (ninS (adne (by omega)) nin0)).keep K24 (ninS (adne (by omega)) nin0)) A24 (SC0.ext H24.old) hz0 rfl rfl (by decide) (by decide) (mem2 (lat_nar qc0) (mem2 (lat_nar qc1) (mem2 (lat_nar qc2) (mem2 (lat_nar qc3) mem0)))) (by decide) (by decide)) (g := (mkF m 135 #[rv b, iv 4] [(.ref a20), (.ref a19), (.ref a19)])) rfl (by rw [hml]; rfl) (argsL := [(.ref a20)]) (rest := [(.ref a19)]) (lenOf pd__AC_V rfl) rfl rfl (Nat.le_of_eq rfl) (hb hby d_m4_135) (by decide) (by decide) (allS (Or.inr (by omega)) all0)
    have zh25 := K25.1
    have l25 := natlt (S25).lt
    refine Rn.pu (g' := (mkF m 138 #[rv b, iv 4] [(.ref a19)])) ?_ st25
    have SX := S25
    have lSX := natlt (SX).lt
    have mSX := natlt (SX).ltt
    exact H25.retA ends_W hlk hret rfl rfl rfl (hb hby d_m4_138) (by decide) (by decide) (fun _ q => nomatch q) ⟨(fun z => ⟨z.1, z.2.1⟩) (H25.vm (fun U vm1 hW q => EG.stab hP hW q)), a19, t25, [(nar .char c0), (nar .char c1), (nar .char c2), (nar .char c3)], rfl, SX, by omega, by omega, by omega⟩
  ·
    refine Rn.pu (T' := T0) (g' := (mkF m 1 #[rv b, iv 5] [(.int (5 : Int32))])) ?_ fun _ zk => XS.iloadN H0.here hx rfl (hb hby d_m4_0) rfl zk
    refine Rn.pu (T' := T0) (g' := (mkF m 15 #[rv b, iv 5] [])) ?_ fun _ zk => XS.ifYes H0.here hx rfl (pc0 := 1) (pc' := 15) rfl (hb hby d_m4_1) rfl (z_ne_t (by decide)) (by decide) (by decide) zk
    refine Rn.pu (T' := T0) (g' := (mkF m 16 #[rv b, iv 5] [(.int (5 : Int32))])) ?_ fun _ zk => XS.iloadN H0.here hx rfl (hb hby d_m4_15) rfl zk
    refine Rn.pu (T' := T0) (g' := (mkF m 17 #[rv b, iv 5] [(.int (1 : Int32)), (.int (5 : Int32))])) ?_ fun _ zk => XS.iconst H0.here hx rfl (hb hby d_m4_16) zk
    refine Rn.pu (T' := T0) (g' := (mkF m 37 #[rv b, iv 5] [])) ?_ fun _ zk => XS.icmpYes H0.here hx rfl (pc0 := 17) (pc' := 37) rfl (hb hby d_m4_17) rfl (c_ne_t (by decide)) (by decide) (by decide) zk
    refine Rn.pu (T' := T0) (g' := (mkF m 38 #[rv b, iv 5] [(.int (5 : Int32))])) ?_ fun _ zk => XS.iloadN H0.here hx rfl (hb hby d_m4_37) rfl zk
    refine Rn.pu (T' := T0) (g' := (mkF m 39 #[rv b, iv 5] [(.int (2 : Int32)), (.int (5 : Int32))])) ?_ fun _ zk => XS.iconst H0.here hx rfl (hb hby d_m4_38) zk
    refine Rn.pu (T' := T0) (g' := (mkF m 65 #[rv b, iv 5] [])) ?_ fun _ zk => XS.icmpYes H0.here hx rfl (pc0 := 39) (pc' := 65) rfl (hb hby d_m4_39) rfl (c_ne_t (by decide)) (by decide) (by decide) zk
    refine Rn.pu (T' := T0) (g' := (mkF m 66 #[rv b, iv 5] [(.int (5 : Int32))])) ?_ fun _ zk => XS.iloadN H0.here hx rfl (hb hby d_m4_65) rfl zk
    refine Rn.pu (T' := T0) (g' := (mkF m 67 #[rv b, iv 5] [(.int (3 : Int32)), (.int (5 : Int32))])) ?_ fun _ zk => XS.iconst H0.here hx rfl (hb hby d_m4_66) zk
    refine Rn.pu (T' := T0) (g' := (mkF m 99 #[rv b, iv 5] [])) ?_ fun _ zk => XS.icmpYes H0.here hx rfl (pc0 := 67) (pc' := 99) rfl (hb hby d_m4_67) rfl (c_ne_t (by decide)) (by decide) (by decide) zk
    refine Rn.pu (T' := T0) (g' := (mkF m 100 #[rv b, iv 5] [(.int (5 : Int32))])) ?_ fun _ zk => XS.iloadN H0.here hx rfl (hb hby d_m4_99) rfl zk
    refine Rn.pu (T' := T0) (g' := (mkF m 101 #[rv b, iv 5] [(.int (4 : Int32)), (.int (5 : Int32))])) ?_ fun _ zk => XS.iconst H0.here hx rfl (hb hby d_m4_100) zk
    refine Rn.pu (T' := T0) (g' := (mkF m 139 #[rv b, iv 5] [])) ?_ fun _ zk => XS.icmpYes H0.here hx rfl (pc0 := 101) (pc' := 139) rfl (hb hby d_m4_101) rfl (c_ne_t (by decide)) (by decide) (by decide) zk
    refine Rn.pu (T' := T0) (g' := (mkF m 140 #[rv b, iv 5] [(.int (5 : Int32))])) ?_ fun _ zk => XS.iloadN H0.here hx rfl (hb hby d_m4_139) rfl zk
    refine Rn.pu (T' := T0) (g' := (mkF m 141 #[rv b, iv 5] [(.int (5 : Int32)), (.int (5 : Int32))])) ?_ fun _ zk => XS.iconst H0.here hx rfl (hb hby d_m4_140) zk
    refine Rn.pu (T' := T0) (g' := (mkF m 144 #[rv b, iv 5] [])) ?_ fun _ zk => XS.icmpNo H0.here hx rfl (hb hby d_m4_141) rfl (c_ne_f rfl) zk
    obtain ⟨a26, T26, h26, e26, H26, K26, E26, D26, st26⟩ := H0.newO (wd hw 51 rfl) (wd hw 2 rfl) (wd hw 1 rfl) (g := (mkF m 144 #[rv b, iv 5] [])) rfl (hb hby d_m4_144) (by decide) (by decide)
    have zh26 := K26.1
    have l26 := natlt (E26).lt
    have g26 : s.heap.size ≤ a26 := by omega
    have F26_value : Fld Z h26 a26 "java/lang/String" "value" "[B" .null := D26 (Or.inr (wd hw 4 rfl)) (ty := (.array .byte)) (by decide)
    have F26_coder : Fld Z h26 a26 "java/lang/String" "coder" "B" (.int (0 : Int32)) := D26 (Or.inr (wd hw 5 rfl)) (ty := .byte) (by decide)
    refine Rn.pu (g' := (mkF m 147 #[rv b, iv 5] [(.ref a26)])) ?_ st26
    refine Rn.pu (T' := T26) (g' := (mkF m 148 #[rv b, iv 5] [(.ref a26), (.ref a26)])) ?_ fun _ zk => XS.dup H26.here hx rfl (hb hby d_m4_147) rfl rfl zk
    refine Rn.pu (T' := T26) (g' := (mkF m 149 #[rv b, iv 5] [(.int (5 : Int32)), (.ref a26), (.ref a26)])) ?_ fun _ zk => XS.iconst H26.here hx rfl (hb hby d_m4_148) zk
    obtain ⟨a27, k27, T27, h27, e27, H27, K27, A27, st27⟩ := H26.newP (aty := .char) (wd hw 21 rfl) (g := (mkF m 149 #[rv b, iv 5] [(.int (5 : Int32)), (.ref a26), (.ref a26)])) rfl (hb hby d_m4_149) rfl (by decide) (cap := 5) (by decide) (by decide) (by decide) (by decide)
    have zh27 := K27.1
    have l27 := natlt (A27).lt
    have g27 : s.heap.size ≤ a27 := by omega
    refine Rn.pu (g' := (mkF m 151 #[rv b, iv 5] [(.ref a27), (.ref a26), (.ref a26)])) ?_ st27
    refine Rn.pu (T' := T27) (g' := (mkF m 152 #[rv b, iv 5] [(.ref a27), (.ref a27), (.ref a26), (.ref a26)])) ?_ fun _ zk => XS.dup H27.here hx rfl (hb hby d_m4_151) rfl rfl zk
    refine Rn.pu (T' := T27) (g' := (mkF m 153 #[rv b, iv 5] [(.int (0 : Int32)), (.ref a27), (.ref a27), (.ref a26), (.ref a26)])) ?_ fun _ zk => XS.iconst H27.here hx rfl (hb hby d_m4_152) zk
    refine Rn.pu (T' := T27) (g' := (mkF m 154 #[rv b, iv 5] [(.ref b), (.int (0 : Int32)), (.ref a27), (.ref a27), (.ref a26), (.ref a26)])) ?_ fun _ zk => XS.aloadN H27.here hx rfl (hb hby d_m4_153) rfl rfl zk
    refine Rn.pu (T' := T27) (g' := (mkF m 155 #[rv b, iv 5] [(.int (0 : Int32)), (.ref b), (.int (0 : Int32)), (.ref a27), (.ref a27), (.ref a26), (.ref a26)])) ?_ fun _ zk => XS.iconst H27.here hx rfl (hb hby d_m4_154) zk
    refine Rn.pu (g' := (mkF m 156 #[rv b, iv 5] [(.int c0), (.int (0 : Int32)), (.ref a27), (.ref a27), (.ref a26), (.ref a26)])) ?_ (H27.cald ((AB.keep K26 nin0).keep K27 nin0) (by decide) (v := .int c0) rfl (g := (mkF m 155 #[rv b, iv 5] [(.int (0 : Int32)), (.ref b), (.int (0 : Int32)), (.ref a27), (.ref a27), (.ref a26), (.ref a26)])) rfl rfl (hb hby d_m4_155))
    obtain ⟨T28, h28, H28, K28, A28, st28⟩ := H27.stC A27 (by decide) rfl (Or.inr (by omega)) (g := (mkF m 156 #[rv b, iv 5] [(.int c0), (.int (0 : Int32)), (.ref a27), (.ref a27), (.ref a26), (.ref a26)])) rfl rfl (hb hby d_m4_156)
    have zh28 := K28.1
    refine Rn.pu (g' := (mkF m 157 #[rv b, iv 5] [(.ref a27), (.ref a26), (.ref a26)])) ?_ st28
    refine Rn.pu (T' := T28) (g' := (mkF m 158 #[rv b, iv 5] [(.ref a27), (.ref a27), (.ref a26), (.ref a26)])) ?_ fun _ zk => XS.dup H28.here hx rfl (hb hby d_m4_157) rfl rfl zk
    refine Rn.pu (T' := T28) (g' := (mkF m 159 #[rv b, iv 5] [(.int (1 : Int32)), (.ref a27), (.ref a27), (.ref a26), (.ref a26)])) ?_ fun _ zk => XS.iconst H28.here hx rfl (hb hby d_m4_158) zk
    refine Rn.pu (T' := T28) (g' := (mkF m 160 #[rv b, iv 5] [(.ref b), (.int (1 : Int32)), (.ref a27), (.ref a27), (.ref a26), (.ref a26)])) ?_ fun _ zk => XS.aloadN H28.here hx rfl (hb hby d_m4_159) rfl rfl zk
    refine Rn.pu (T' := T28) (g' := (mkF m 161 #[rv b, iv 5] [(.int (1 : Int32)), (.ref b), (.int (1 : Int32)), (.ref a27), (.ref a27), (.ref a26), (.ref a26)])) ?_ fun _ zk => XS.iconst H28.here hx rfl (hb hby d_m4_160) zk
    refine Rn.pu (g' := (mkF m 162 #[rv b, iv 5] [(.int c1), (.int (1 : Int32)), (.ref a27), (.ref a27), (.ref a26), (.ref a26)])) ?_ (H28.cald (((AB.keep K26 nin0).keep K27 nin0).keep K28 (ninS (adne (by omega)) nin0)) (by decide) (v := .int c1) rfl (g := (mkF m 161 #[rv b, iv 5] [(.int (1 : Int32)), (.ref b), (.int (1 : Int32)), (.ref a27), (.ref a27), (.ref a26), (.ref a26)])) rfl rfl (hb hby d_m4_161))
    obtain ⟨T29, h29, H29, K29, A29, st29⟩ := H28.stC A28 (by decide) rfl (Or.inr (by omega)) (g := (mkF m 162 #[rv b, iv 5] [(.int c1), (.int (1 : Int32)), (.ref a27), (.ref a27), (.ref a26), (.ref a26)])) rfl rfl (hb hby d_m4_162)
    have zh29 := K29.1
    refine Rn.pu (g' := (mkF m 163 #[rv b, iv 5] [(.ref a27), (.ref a26), (.ref a26)])) ?_ st29
    refine Rn.pu (T' := T29) (g' := (mkF m 164 #[rv b, iv 5] [(.ref a27), (.ref a27), (.ref a26), (.ref a26)])) ?_ fun _ zk => XS.dup H29.here hx rfl (hb hby d_m4_163) rfl rfl zk
    refine Rn.pu (T' := T29) (g' := (mkF m 165 #[rv b, iv 5] [(.int (2 : Int32)), (.ref a27), (.ref a27), (.ref a26), (.ref a26)])) ?_ fun _ zk => XS.iconst H29.here hx rfl (hb hby d_m4_164) zk
    refine Rn.pu (T' := T29) (g' := (mkF m 166 #[rv b, iv 5] [(.ref b), (.int (2 : Int32)), (.ref a27), (.ref a27), (.ref a26), (.ref a26)])) ?_ fun _ zk => XS.aloadN H29.here hx rfl (hb hby d_m4_165) rfl rfl zk
    refine Rn.pu (T' := T29) (g' := (mkF m 167 #[rv b, iv 5] [(.int (2 : Int32)), (.ref b), (.int (2 : Int32)), (.ref a27), (.ref a27), (.ref a26), (.ref a26)])) ?_ fun _ zk => XS.iconst H29.here hx rfl (hb hby d_m4_166) zk
    refine Rn.pu (g' := (mkF m 168 #[rv b, iv 5] [(.int c2), (.int (2 : Int32)), (.ref a27), (.ref a27), (.ref a26), (.ref a26)])) ?_ (H29.cald ((((AB.keep K26 nin0).keep K27 nin0).keep K28 (ninS (adne (by omega)) nin0)).keep K29 (ninS (adne (by omega)) nin0)) (by decide) (v := .int c2) rfl (g := (mkF m 167 #[rv b, iv 5] [(.int (2 : Int32)), (.ref b), (.int (2 : Int32)), (.ref a27), (.ref a27), (.ref a26), (.ref a26)])) rfl rfl (hb hby d_m4_167))
    obtain ⟨T30, h30, H30, K30, A30, st30⟩ := H29.stC A29 (by decide) rfl (Or.inr (by omega)) (g := (mkF m 168 #[rv b, iv 5] [(.int c2), (.int (2 : Int32)), (.ref a27), (.ref a27), (.ref a26), (.ref a26)])) rfl rfl (hb hby d_m4_168)
    have zh30 := K30.1
    refine Rn.pu (g' := (mkF m 169 #[rv b, iv 5] [(.ref a27), (.ref a26), (.ref a26)])) ?_ st30
    refine Rn.pu (T' := T30) (g' := (mkF m 170 #[rv b, iv 5] [(.ref a27), (.ref a27), (.ref a26), (.ref a26)])) ?_ fun _ zk => XS.dup H30.here hx rfl (hb hby d_m4_169) rfl rfl zk
    refine Rn.pu (T' := T30) (g' := (mkF m 171 #[rv b, iv 5] [(.int (3 : Int32)), (.ref a27), (.ref a27), (.ref a26), (.ref a26)])) ?_ fun _ zk => XS.iconst H30.here hx rfl (hb hby d_m4_170) zk
    refine Rn.pu (T' := T30) (g' := (mkF m 172 #[rv b, iv 5] [(.ref b), (.int (3 : Int32)), (.ref a27), (.ref a27), (.ref a26), (.ref a26)])) ?_ fun _ zk => XS.aloadN H30.here hx rfl (hb hby d_m4_171) rfl rfl zk
    refine Rn.pu (T' := T30) (g' := (mkF m 173 #[rv b, iv 5] [(.int (3 : Int32)), (.ref b), (.int (3 : Int32)), (.ref a27), (.ref a27), (.ref a26), (.ref a26)])) ?_ fun _ zk => XS.iconst H30.here hx rfl (hb hby d_m4_172) zk
    refine Rn.pu (g' := (mkF m 174 #[rv b, iv 5] [(.int c3), (.int (3 : Int32)), (.ref a27), (.ref a27), (.ref a26), (.ref a26)])) ?_ (H30.cald (((((AB.keep K26 nin0).keep K27 nin0).keep K28 (ninS (adne (by omega)) nin0)).keep K29 (ninS (adne (by omega)) nin0)).keep K30 (ninS (adne (by omega)) nin0)) (by decide) (v := .int c3) rfl (g := (mkF m 173 #[rv b, iv 5] [(.int (3 : Int32)), (.ref b), (.int (3 : Int32)), (.ref a27), (.ref a27), (.ref a26), (.ref a26)])) rfl rfl (hb hby d_m4_173))
    obtain ⟨T31, h31, H31, K31, A31, st31⟩ := H30.stC A30 (by decide) rfl (Or.inr (by omega)) (g := (mkF m 174 #[rv b, iv 5] [(.int c3), (.int (3 : Int32)), (.ref a27), (.ref a27), (.ref a26), (.ref a26)])) rfl rfl (hb hby d_m4_174)
    have zh31 := K31.1
    refine Rn.pu (g' := (mkF m 175 #[rv b, iv 5] [(.ref a27), (.ref a26), (.ref a26)])) ?_ st31
    refine Rn.pu (T' := T31) (g' := (mkF m 176 #[rv b, iv 5] [(.ref a27), (.ref a27), (.ref a26), (.ref a26)])) ?_ fun _ zk => XS.dup H31.here hx rfl (hb hby d_m4_175) rfl rfl zk
    refine Rn.pu (T' := T31) (g' := (mkF m 177 #[rv b, iv 5] [(.int (4 : Int32)), (.ref a27), (.ref a27), (.ref a26), (.ref a26)])) ?_ fun _ zk => XS.iconst H31.here hx rfl (hb hby d_m4_176) zk
    refine Rn.pu (T' := T31) (g' := (mkF m 178 #[rv b, iv 5] [(.ref b), (.int (4 : Int32)), (.ref a27), (.ref a27), (.ref a26), (.ref a26)])) ?_ fun _ zk => XS.aloadN H31.here hx rfl (hb hby d_m4_177) rfl rfl zk
    refine Rn.pu (T' := T31) (g' := (mkF m 179 #[rv b, iv 5] [(.int (4 : Int32)), (.ref b), (.int (4 : Int32)), (.ref a27), (.ref a27), (.ref a26), (.ref a26)])) ?_ fun _ zk => XS.iconst H31.here hx rfl (hb hby d_m4_178) zk
    refine Rn.pu (g' := (mkF m 180 #[rv b, iv 5] [(.int c4), (.int (4 : Int32)), (.ref a27), (.ref a27), (.ref a26), (.ref a26)])) ?_ (H31.cald ((((((AB.keep K26 nin0).keep K27 nin0).keep K28 (ninS (adne (by omega)) nin0)).keep K29 (ninS (adne (by omega)) nin0)).keep K30 (ninS (adne (by omega)) nin0)).keep K31 (ninS (adne (by omega)) nin0)) (by decide) (v := .int c4) rfl (g := (mkF m 179 #[rv b, iv 5] [(.int (4 : Int32)), (.ref b), (.int (4 : Int32)), (.ref a27), (.ref a27), (.ref a26), (.ref a26)])) rfl rfl (hb hby d_m4_179))
    obtain ⟨T32, h32, H32, K32, A32, st32⟩ := H31.stC A31 (by decide) rfl (Or.inr (by omega)) (g := (mkF m 180 #[rv b, iv 5] [(.int c4), (.int (4 : Int32)), (.ref a27), (.ref a27), (.ref a26), (.ref a26)])) rfl rfl (hb hby d_m4_180)
    have zh32 := K32.1
    refine Rn.pu (g' := (mkF m 181 #[rv b, iv 5] [(.ref a27), (.ref a26), (.ref a26)])) ?_ st32
    obtain ⟨_, T33, h33, H33, ⟨rfl, t33, et33, lt33, S33⟩, K33, st33⟩ := H32.callI rfl (wd hw 52 rfl) (wd hw 53 rfl) (wd hw 54 rfl) (by decide) (payNew (cs := [(nar .char c0), (nar .char c1), (nar .char c2), (nar .char c3), (nar .char c4)]) (n := 5) (W := 1) (hws_new hw) (wd hw 2 rfl) ((((((E26.keep K27).keep K28).keep K29).keep K30).keep K31).keep K32) ((((((F26_value.keep K27 nin0).keep K28 (ninS (adne (by omega)) nin0)).keep K29 (ninS (adne (by omega)) nin0)).keep K30 (ninS (adne (by omega)) nin0)).keep K31 (ninS (adne (by omega)) nin0)).keep K32 (ninS (adne (by omega)) nin0)) ((((((F26_coder.keep K27 nin0).keep K28 (ninS (adne (by omega)) nin0)).keep K29 (ninS (adne (by omega)) nin0)).keep K30 (ninS (adne (by omega)) nin0)).keep K31 (ninS (adne (by omega)) nin0)).keep K32 (ninS (adne (by omega)) nin0)) A32 (SC0.ext H32.old) hz0 rfl rfl (by decide) (by decide) (mem2 (lat_nar qc0) (mem2 (lat_nar qc1) (mem2 (lat_nar qc2) (mem2 (lat_nar qc3) (mem2 (lat_nar qc4) mem0))))) (by decide) (by decide)) (g := (mkF m 181 #[rv b, iv 5] [(.ref a27), (.ref a26), (.ref a26)])) rfl (by rw [hml]; rfl) (argsL := [(.ref a27)]) (rest := [(.ref a26)]) (lenOf pd__AC_V rfl) rfl rfl (Nat.le_of_eq rfl) (hb hby d_m4_181) (by decide) (by decide) (allS (Or.inr (by omega)) all0)
    have zh33 := K33.1
    have l33 := natlt (S33).lt
    refine Rn.pu (g' := (mkF m 184 #[rv b, iv 5] [(.ref a26)])) ?_ st33
    have SX := S33
    have lSX := natlt (SX).lt
    have mSX := natlt (SX).ltt
    exact H33.retA ends_W hlk hret rfl rfl rfl (hb hby d_m4_184) (by decide) (by decide) (fun _ q => nomatch q) ⟨(fun z => ⟨z.1, z.2.1⟩) (H33.vm (fun U vm1 hW q => EG.stab hP hW q)), a26, t33, [(nar .char c0), (nar .char c1), (nar .char c2), (nar .char c3), (nar .char c4)], rfl, SX, by omega, by omega, by omega⟩
  ·
    refine Rn.pu (T' := T0) (g' := (mkF m 1 #[rv b, iv 6] [(.int (6 : Int32))])) ?_ fun _ zk => XS.iloadN H0.here hx rfl (hb hby d_m4_0) rfl zk
    refine Rn.pu (T' := T0) (g' := (mkF m 15 #[rv b, iv 6] [])) ?_ fun _ zk => XS.ifYes H0.here hx rfl (pc0 := 1) (pc' := 15) rfl (hb hby d_m4_1) rfl (z_ne_t (by decide)) (by decide) (by decide) zk
    refine Rn.pu (T' := T0) (g' := (mkF m 16 #[rv b, iv 6] [(.int (6 : Int32))])) ?_ fun _ zk => XS.iloadN H0.here hx rfl (hb hby d_m4_15) rfl zk
    refine Rn.pu (T' := T0) (g' := (mkF m 17 #[rv b, iv 6] [(.int (1 : Int32)), (.int (6 : Int32))])) ?_ fun _ zk => XS.iconst H0.here hx rfl (hb hby d_m4_16) zk
    refine Rn.pu (T' := T0) (g' := (mkF m 37 #[rv b, iv 6] [])) ?_ fun _ zk => XS.icmpYes H0.here hx rfl (pc0 := 17) (pc' := 37) rfl (hb hby d_m4_17) rfl (c_ne_t (by decide)) (by decide) (by decide) zk
    refine Rn.pu (T' := T0) (g' := (mkF m 38 #[rv b, iv 6] [(.int (6 : Int32))])) ?_ fun _ zk => XS.iloadN H0.here hx rfl (hb hby d_m4_37) rfl zk
    refine Rn.pu (T' := T0) (g' := (mkF m 39 #[rv b, iv 6] [(.int (2 : Int32)), (.int (6 : Int32))])) ?_ fun _ zk => XS.iconst H0.here hx rfl (hb hby d_m4_38) zk
    refine Rn.pu (T' := T0) (g' := (mkF m 65 #[rv b, iv 6] [])) ?_ fun _ zk => XS.icmpYes H0.here hx rfl (pc0 := 39) (pc' := 65) rfl (hb hby d_m4_39) rfl (c_ne_t (by decide)) (by decide) (by decide) zk
    refine Rn.pu (T' := T0) (g' := (mkF m 66 #[rv b, iv 6] [(.int (6 : Int32))])) ?_ fun _ zk => XS.iloadN H0.here hx rfl (hb hby d_m4_65) rfl zk
    refine Rn.pu (T' := T0) (g' := (mkF m 67 #[rv b, iv 6] [(.int (3 : Int32)), (.int (6 : Int32))])) ?_ fun _ zk => XS.iconst H0.here hx rfl (hb hby d_m4_66) zk
    refine Rn.pu (T' := T0) (g' := (mkF m 99 #[rv b, iv 6] [])) ?_ fun _ zk => XS.icmpYes H0.here hx rfl (pc0 := 67) (pc' := 99) rfl (hb hby d_m4_67) rfl (c_ne_t (by decide)) (by decide) (by decide) zk
    refine Rn.pu (T' := T0) (g' := (mkF m 100 #[rv b, iv 6] [(.int (6 : Int32))])) ?_ fun _ zk => XS.iloadN H0.here hx rfl (hb hby d_m4_99) rfl zk
    refine Rn.pu (T' := T0) (g' := (mkF m 101 #[rv b, iv 6] [(.int (4 : Int32)), (.int (6 : Int32))])) ?_ fun _ zk => XS.iconst H0.here hx rfl (hb hby d_m4_100) zk
    refine Rn.pu (T' := T0) (g' := (mkF m 139 #[rv b, iv 6] [])) ?_ fun _ zk => XS.icmpYes H0.here hx rfl (pc0 := 101) (pc' := 139) rfl (hb hby d_m4_101) rfl (c_ne_t (by decide)) (by decide) (by decide) zk
    refine Rn.pu (T' := T0) (g' := (mkF m 140 #[rv b, iv 6] [(.int (6 : Int32))])) ?_ fun _ zk => XS.iloadN H0.here hx rfl (hb hby d_m4_139) rfl zk
    refine Rn.pu (T' := T0) (g' := (mkF m 141 #[rv b, iv 6] [(.int (5 : Int32)), (.int (6 : Int32))])) ?_ fun _ zk => XS.iconst H0.here hx rfl (hb hby d_m4_140) zk
    refine Rn.pu (T' := T0) (g' := (mkF m 185 #[rv b, iv 6] [])) ?_ fun _ zk => XS.icmpYes H0.here hx rfl (pc0 := 141) (pc' := 185) rfl (hb hby d_m4_141) rfl (c_ne_t (by decide)) (by decide) (by decide) zk
    refine Rn.pu (T' := T0) (g' := (mkF m 186 #[rv b, iv 6] [(.int (6 : Int32))])) ?_ fun _ zk => XS.iloadN H0.here hx rfl (hb hby d_m4_185) rfl zk
    refine Rn.pu (T' := T0) (g' := (mkF m 188 #[rv b, iv 6] [(.int (6 : Int32)), (.int (6 : Int32))])) ?_ fun _ zk => XS.bipush H0.here hx rfl (hb hby d_m4_186) zk
    refine Rn.pu (T' := T0) (g' := (mkF m 191 #[rv b, iv 6] [])) ?_ fun _ zk => XS.icmpNo H0.here hx rfl (hb hby d_m4_188) rfl (c_ne_f rfl) zk
    obtain ⟨a34, T34, h34, e34, H34, K34, E34, D34, st34⟩ := H0.newO (wd hw 51 rfl) (wd hw 2 rfl) (wd hw 1 rfl) (g := (mkF m 191 #[rv b, iv 6] [])) rfl (hb hby d_m4_191) (by decide) (by decide)
    have zh34 := K34.1
    have l34 := natlt (E34).lt
    have g34 : s.heap.size ≤ a34 := by omega
    have F34_value : Fld Z h34 a34 "java/lang/String" "value" "[B" .null := D34 (Or.inr (wd hw 4 rfl)) (ty := (.array .byte)) (by decide)
    have F34_coder : Fld Z h34 a34 "java/lang/String" "coder" "B" (.int (0 : Int32)) := D34 (Or.inr (wd hw 5 rfl)) (ty := .byte) (by decide)
    refine Rn.pu (g' := (mkF m 194 #[rv b, iv 6] [(.ref a34)])) ?_ st34
    refine Rn.pu (T' := T34) (g' := (mkF m 195 #[rv b, iv 6] [(.ref a34), (.ref a34)])) ?_ fun _ zk => XS.dup H34.here hx rfl (hb hby d_m4_194) rfl rfl zk
    refine Rn.pu (T' := T34) (g' := (mkF m 197 #[rv b, iv 6] [(.int (6 : Int32)), (.ref a34), (.ref a34)])) ?_ fun _ zk => XS.bipush H34.here hx rfl (hb hby d_m4_195) zk
    obtain ⟨a35, k35, T35, h35, e35, H35, K35, A35, st35⟩ := H34.newP (aty := .char) (wd hw 21 rfl) (g := (mkF m 197 #[rv b, iv 6] [(.int (6 : Int32)), (.ref a34), (.ref a34)])) rfl (hb hby d_m4_197) rfl (by decide) (cap := 6) (by decide) (by decide) (by decide) (by decide)
    have zh35 := K35.1
    have l35 := natlt (A35).lt
    have g35 : s.heap.size ≤ a35 := by omega
    refine Rn.pu (g' := (mkF m 199 #[rv b, iv 6] [(.ref a35), (.ref a34), (.ref a34)])) ?_ st35
    refine Rn.pu (T' := T35) (g' := (mkF m 200 #[rv b, iv 6] [(.ref a35), (.ref a35), (.ref a34), (.ref a34)])) ?_ fun _ zk => XS.dup H35.here hx rfl (hb hby d_m4_199) rfl rfl zk
    refine Rn.pu (T' := T35) (g' := (mkF m 201 #[rv b, iv 6] [(.int (0 : Int32)), (.ref a35), (.ref a35), (.ref a34), (.ref a34)])) ?_ fun _ zk => XS.iconst H35.here hx rfl (hb hby d_m4_200) zk
    refine Rn.pu (T' := T35) (g' := (mkF m 202 #[rv b, iv 6] [(.ref b), (.int (0 : Int32)), (.ref a35), (.ref a35), (.ref a34), (.ref a34)])) ?_ fun _ zk => XS.aloadN H35.here hx rfl (hb hby d_m4_201) rfl rfl zk
    refine Rn.pu (T' := T35) (g' := (mkF m 203 #[rv b, iv 6] [(.int (0 : Int32)), (.ref b), (.int (0 : Int32)), (.ref a35), (.ref a35), (.ref a34), (.ref a34)])) ?_ fun _ zk => XS.iconst H35.here hx rfl (hb hby d_m4_202) zk
    refine Rn.pu (g' := (mkF m 204 #[rv b, iv 6] [(.int c0), (.int (0 : Int32)), (.ref a35), (.ref a35), (.ref a34), (.ref a34)])) ?_ (H35.cald ((AB.keep K34 nin0).keep K35 nin0) (by decide) (v := .int c0) rfl (g := (mkF m 203 #[rv b, iv 6] [(.int (0 : Int32)), (.ref b), (.int (0 : Int32)), (.ref a35), (.ref a35), (.ref a34), (.ref a34)])) rfl rfl (hb hby d_m4_203))
    obtain ⟨T36, h36, H36, K36, A36, st36⟩ := H35.stC A35 (by decide) rfl (Or.inr (by omega)) (g := (mkF m 204 #[rv b, iv 6] [(.int c0), (.int (0 : Int32)), (.ref a35), (.ref a35), (.ref a34), (.ref a34)])) rfl rfl (hb hby d_m4_204)
    have zh36 := K36.1
    refine Rn.pu (g' := (mkF m 205 #[rv b, iv 6] [(.ref a35), (.ref a34), (.ref a34)])) ?_ st36
    refine Rn.pu (T' := T36) (g' := (mkF m 206 #[rv b, iv 6] [(.ref a35), (.ref a35), (.ref a34), (.ref a34)])) ?_ fun _ zk => XS.dup H36.here hx rfl (hb hby d_m4_205) rfl rfl zk
    refine Rn.pu (T' := T36) (g' := (mkF m 207 #[rv b, iv 6] [(.int (1 : Int32)), (.ref a35), (.ref a35), (.ref a34), (.ref a34)])) ?_ fun _ zk => XS.iconst H36.here hx rfl (hb hby d_m4_206) zk
    refine Rn.pu (T' := T36) (g' := (mkF m 208 #[rv b, iv 6] [(.ref b), (.int (1 : Int32)), (.ref a35), (.ref a35), (.ref a34), (.ref a34)])) ?_ fun _ zk => XS.aloadN H36.here hx rfl (hb hby d_m4_207) rfl rfl zk
    refine Rn.pu (T' := T36) (g' := (mkF m 209 #[rv b, iv 6] [(.int (1 : Int32)), (.ref b), (.int (1 : Int32)), (.ref a35), (.ref a35), (.ref a34), (.ref a34)])) ?_ fun _ zk => XS.iconst H36.here hx rfl (hb hby d_m4_208) zk
    refine Rn.pu (g' := (mkF m 210 #[rv b, iv 6] [(.int c1), (.int (1 : Int32)), (.ref a35), (.ref a35), (.ref a34), (.ref a34)])) ?_ (H36.cald (((AB.keep K34 nin0).keep K35 nin0).keep K36 (ninS (adne (by omega)) nin0)) (by decide) (v := .int c1) rfl (g := (mkF m 209 #[rv b, iv 6] [(.int (1 : Int32)), (.ref b), (.int (1 : Int32)), (.ref a35), (.ref a35), (.ref a34), (.ref a34)])) rfl rfl (hb hby d_m4_209))
    obtain ⟨T37, h37, H37, K37, A37, st37⟩ := H36.stC A36 (by decide) rfl (Or.inr (by omega)) (g := (mkF m 210 #[rv b, iv 6] [(.int c1), (.int (1 : Int32)), (.ref a35), (.ref a35), (.ref a34), (.ref a34)])) rfl rfl (hb hby d_m4_210)
    have zh37 := K37.1
    refine Rn.pu (g' := (mkF m 211 #[rv b, iv 6] [(.ref a35), (.ref a34), (.ref a34)])) ?_ st37
    refine Rn.pu (T' := T37) (g' := (mkF m 212 #[rv b, iv 6] [(.ref a35), (.ref a35), (.ref a34), (.ref a34)])) ?_ fun _ zk => XS.dup H37.here hx rfl (hb hby d_m4_211) rfl rfl zk
    refine Rn.pu (T' := T37) (g' := (mkF m 213 #[rv b, iv 6] [(.int (2 : Int32)), (.ref a35), (.ref a35), (.ref a34), (.ref a34)])) ?_ fun _ zk => XS.iconst H37.here hx rfl (hb hby d_m4_212) zk
    refine Rn.pu (T' := T37) (g' := (mkF m 214 #[rv b, iv 6] [(.ref b), (.int (2 : Int32)), (.ref a35), (.ref a35), (.ref a34), (.ref a34)])) ?_ fun _ zk => XS.aloadN H37.here hx rfl (hb hby d_m4_213) rfl rfl zk
    refine Rn.pu (T' := T37) (g' := (mkF m 215 #[rv b, iv 6] [(.int (2 : Int32)), (.ref b), (.int (2 : Int32)), (.ref a35), (.ref a35), (.ref a34), (.ref a34)])) ?_ fun _ zk => XS.iconst H37.here hx rfl (hb hby d_m4_214) zk
    refine Rn.pu (g' := (mkF m 216 #[rv b, iv 6] [(.int c2), (.int (2 : Int32)), (.ref a35), (.ref a35), (.ref a34), (.ref a34)])) ?_ (H37.cald ((((AB.keep K34 nin0).keep K35 nin0).keep K36 (ninS (adne (by omega)) nin0)).keep K37 (ninS (adne (by omega)) nin0)) (by decide) (v := .int c2) rfl (g := (mkF m 215 #[rv b, iv 6] [(.int (2 : Int32)), (.ref b), (.int (2 : Int32)), (.ref a35), (.ref a35), (.ref a34), (.ref a34)])) rfl rfl (hb hby d_m4_215))
    obtain ⟨T38, h38, H38, K38, A38, st38⟩ := H37.stC A37 (by decide) rfl (Or.inr (by omega)) (g := (mkF m 216 #[rv b, iv 6] [(.int c2), (.int (2 : Int32)), (.ref a35), (.ref a35), (.ref a34), (.ref a34)])) rfl rfl (hb hby d_m4_216)
    have zh38 := K38.1
    refine Rn.pu (g' := (mkF m 217 #[rv b, iv 6] [(.ref a35), (.ref a34), (.ref a34)])) ?_ st38
    refine Rn.pu (T' := T38) (g' := (mkF m 218 #[rv b, iv 6] [(.ref a35), (.ref a35), (.ref a34), (.ref a34)])) ?_ fun _ zk => XS.dup H38.here hx rfl (hb hby d_m4_217) rfl rfl zk
    refine Rn.pu (T' := T38) (g' := (mkF m 219 #[rv b, iv 6] [(.int (3 : Int32)), (.ref a35), (.ref a35), (.ref a34), (.ref a34)])) ?_ fun _ zk => XS.iconst H38.here hx rfl (hb hby d_m4_218) zk
    refine Rn.pu (T' := T38) (g' := (mkF m 220 #[rv b, iv 6] [(.ref b), (.int (3 : Int32)), (.ref a35), (.ref a35), (.ref a34), (.ref a34)])) ?_ fun _ zk => XS.aloadN H38.here hx rfl (hb hby d_m4_219) rfl rfl zk
    refine Rn.pu (T' := T38) (g' := (mkF m 221 #[rv b, iv 6] [(.int (3 : Int32)), (.ref b), (.int (3 : Int32)), (.ref a35), (.ref a35), (.ref a34), (.ref a34)])) ?_ fun _ zk => XS.iconst H38.here hx rfl (hb hby d_m4_220) zk
    refine Rn.pu (g' := (mkF m 222 #[rv b, iv 6] [(.int c3), (.int (3 : Int32)), (.ref a35), (.ref a35), (.ref a34), (.ref a34)])) ?_ (H38.cald (((((AB.keep K34 nin0).keep K35 nin0).keep K36 (ninS (adne (by omega)) nin0)).keep K37 (ninS (adne (by omega)) nin0)).keep K38 (ninS (adne (by omega)) nin0)) (by decide) (v := .int c3) rfl (g := (mkF m 221 #[rv b, iv 6] [(.int (3 : Int32)), (.ref b), (.int (3 : Int32)), (.ref a35), (.ref a35), (.ref a34), (.ref a34)])) rfl rfl (hb hby d_m4_221))
    obtain ⟨T39, h39, H39, K39, A39, st39⟩ := H38.stC A38 (by decide) rfl (Or.inr (by omega)) (g := (mkF m 222 #[rv b, iv 6] [(.int c3), (.int (3 : Int32)), (.ref a35), (.ref a35), (.ref a34), (.ref a34)])) rfl rfl (hb hby d_m4_222)
    have zh39 := K39.1
    refine Rn.pu (g' := (mkF m 223 #[rv b, iv 6] [(.ref a35), (.ref a34), (.ref a34)])) ?_ st39
    refine Rn.pu (T' := T39) (g' := (mkF m 224 #[rv b, iv 6] [(.ref a35), (.ref a35), (.ref a34), (.ref a34)])) ?_ fun _ zk => XS.dup H39.here hx rfl (hb hby d_m4_223) rfl rfl zk
    refine Rn.pu (T' := T39) (g' := (mkF m 225 #[rv b, iv 6] [(.int (4 : Int32)), (.ref a35), (.ref a35), (.ref a34), (.ref a34)])) ?_ fun _ zk => XS.iconst H39.here hx rfl (hb hby d_m4_224) zk
    refine Rn.pu (T' := T39) (g' := (mkF m 226 #[rv b, iv 6] [(.ref b), (.int (4 : Int32)), (.ref a35), (.ref a35), (.ref a34), (.ref a34)])) ?_ fun _ zk => XS.aloadN H39.here hx rfl (hb hby d_m4_225) rfl rfl zk
    refine Rn.pu (T' := T39) (g' := (mkF m 227 #[rv b, iv 6] [(.int (4 : Int32)), (.ref b), (.int (4 : Int32)), (.ref a35), (.ref a35), (.ref a34), (.ref a34)])) ?_ fun _ zk => XS.iconst H39.here hx rfl (hb hby d_m4_226) zk
    refine Rn.pu (g' := (mkF m 228 #[rv b, iv 6] [(.int c4), (.int (4 : Int32)), (.ref a35), (.ref a35), (.ref a34), (.ref a34)])) ?_ (H39.cald ((((((AB.keep K34 nin0).keep K35 nin0).keep K36 (ninS (adne (by omega)) nin0)).keep K37 (ninS (adne (by omega)) nin0)).keep K38 (ninS (adne (by omega)) nin0)).keep K39 (ninS (adne (by omega)) nin0)) (by decide) (v := .int c4) rfl (g := (mkF m 227 #[rv b, iv 6] [(.int (4 : Int32)), (.ref b), (.int (4 : Int32)), (.ref a35), (.ref a35), (.ref a34), (.ref a34)])) rfl rfl (hb hby d_m4_227))
    obtain ⟨T40, h40, H40, K40, A40, st40⟩ := H39.stC A39 (by decide) rfl (Or.inr (by omega)) (g := (mkF m 228 #[rv b, iv 6] [(.int c4), (.int (4 : Int32)), (.ref a35), (.ref a35), (.ref a34), (.ref a34)])) rfl rfl (hb hby d_m4_228)
    have zh40 := K40.1
    refine Rn.pu (g' := (mkF m 229 #[rv b, iv 6] [(.ref a35), (.ref a34), (.ref a34)])) ?_ st40
    refine Rn.pu (T' := T40) (g' := (mkF m 230 #[rv b, iv 6] [(.ref a35), (.ref a35), (.ref a34), (.ref a34)])) ?_ fun _ zk => XS.dup H40.here hx rfl (hb hby d_m4_229) rfl rfl zk
    refine Rn.pu (T' := T40) (g' := (mkF m 231 #[rv b, iv 6] [(.int (5 : Int32)), (.ref a35), (.ref a35), (.ref a34), (.ref a34)])) ?_ fun _ zk => XS.iconst H40.here hx rfl (hb hby d_m4_230) zk
    refine Rn.pu (T' := T40) (g' := (mkF m 232 #[rv b, iv 6] [(.ref b), (.int (5 : Int32)), (.ref a35), (.ref a35), (.ref a34), (.ref a34)])) ?_ fun _ zk => XS.aloadN H40.here hx rfl (hb hby d_m4_231) rfl rfl zk
    refine Rn.pu (T' := T40) (g' := (mkF m 233 #[rv b, iv 6] [(.int (5 : Int32)), (.ref b), (.int (5 : Int32)), (.ref a35), (.ref a35), (.ref a34), (.ref a34)])) ?_ fun _ zk => XS.iconst H40.here hx rfl (hb hby d_m4_232) zk
    refine Rn.pu (g' := (mkF m 234 #[rv b, iv 6] [(.int c5), (.int (5 : Int32)), (.ref a35), (.ref a35), (.ref a34), (.ref a34)])) ?_ (H40.cald (((((((AB.keep K34 nin0).keep K35 nin0).keep K36 (ninS (adne (by omega)) nin0)).keep K37 (ninS (adne (by omega)) nin0)).keep K38 (ninS (adne (by omega)) nin0)).keep K39 (ninS (adne (by omega)) nin0)).keep K40 (ninS (adne (by omega)) nin0)) (by decide) (v := .int c5) rfl (g := (mkF m 233 #[rv b, iv 6] [(.int (5 : Int32)), (.ref b), (.int (5 : Int32)), (.ref a35), (.ref a35), (.ref a34), (.ref a34)])) rfl rfl (hb hby d_m4_233))
    obtain ⟨T41, h41, H41, K41, A41, st41⟩ := H40.stC A40 (by decide) rfl (Or.inr (by omega)) (g := (mkF m 234 #[rv b, iv 6] [(.int c5), (.int (5 : Int32)), (.ref a35), (.ref a35), (.ref a34), (.ref a34)])) rfl rfl (hb hby d_m4_234)
    have zh41 := K41.1
    refine Rn.pu (g' := (mkF m 235 #[rv b, iv 6] [(.ref a35), (.ref a34), (.ref a34)])) ?_ st41
    obtain ⟨_, T42, h42, H42, ⟨rfl, t42, et42, lt42, S42⟩, K42, st42⟩ := H41.callI rfl (wd hw 52 rfl) (wd hw 53 rfl) (wd hw 54 rfl) (by decide) (payNew (cs := [(nar .char c0), (nar .char c1), (nar .char c2), (nar .char c3), (nar .char c4), (nar .char c5)]) (n := 6) (W := 1) (hws_new hw) (wd hw 2 rfl) (((((((E34.keep K35).keep K36).keep K37).keep K38).keep K39).keep K40).keep K41) (((((((F34_value.keep K35 nin0).keep K36 (ninS (adne (by omega)) nin0)).keep K37 (ninS (adne (by omega)) nin0)).keep K38 (ninS (adne (by omega)) nin0)).keep K39 (ninS (adne (by omega)) nin0)).keep K40 (ninS (adne (by omega)) nin0)).keep K41 (ninS (adne (by omega)) nin0)) (((((((F34_coder.keep K35 nin0).keep K36 (ninS (adne (by omega)) nin0)).keep K37 (ninS (adne (by omega)) nin0)).keep K38 (ninS (adne (by omega)) nin0)).keep K39 (ninS (adne (by omega)) nin0)).keep K40 (ninS (adne (by omega)) nin0)).keep K41 (ninS (adne (by omega)) nin0)) A41 (SC0.ext H41.old) hz0 rfl rfl (by decide) (by decide) (mem2 (lat_nar qc0) (mem2 (lat_nar qc1) (mem2 (lat_nar qc2) (mem2 (lat_nar qc3) (mem2 (lat_nar qc4) (mem2 (lat_nar qc5) mem0)))))) (by decide) (by decide)) (g := (mkF m 235 #[rv b, iv 6] [(.ref a35), (.ref a34), (.ref a34)])) rfl (by rw [hml]; rfl) (argsL := [(.ref a35)]) (rest := [(.ref a34)]) (lenOf pd__AC_V rfl) rfl rfl (Nat.le_of_eq rfl) (hb hby d_m4_235) (by decide) (by decide) (allS (Or.inr (by omega)) all0)
    have zh42 := K42.1
    have l42 := natlt (S42).lt
    refine Rn.pu (g' := (mkF m 238 #[rv b, iv 6] [(.ref a34)])) ?_ st42
    have SX := S42
    have lSX := natlt (SX).lt
    have mSX := natlt (SX).ltt
    exact H42.retA ends_W hlk hret rfl rfl rfl (hb hby d_m4_238) (by decide) (by decide) (fun _ q => nomatch q) ⟨(fun z => ⟨z.1, z.2.1⟩) (H42.vm (fun U vm1 hW q => EG.stab hP hW q)), a34, t42, [(nar .char c0), (nar .char c1), (nar .char c2), (nar .char c3), (nar .char c4), (nar .char c5)], rfl, SX, by omega, by omega, by omega⟩
  ·
    refine Rn.pu (T' := T0) (g' := (mkF m 1 #[rv b, iv 7] [(.int (7 : Int32))])) ?_ fun _ zk => XS.iloadN H0.here hx rfl (hb hby d_m4_0) rfl zk
    refine Rn.pu (T' := T0) (g' := (mkF m 15 #[rv b, iv 7] [])) ?_ fun _ zk => XS.ifYes H0.here hx rfl (pc0 := 1) (pc' := 15) rfl (hb hby d_m4_1) rfl (z_ne_t (by decide)) (by decide) (by decide) zk
    refine Rn.pu (T' := T0) (g' := (mkF m 16 #[rv b, iv 7] [(.int (7 : Int32))])) ?_ fun _ zk => XS.iloadN H0.here hx rfl (hb hby d_m4_15) rfl zk
    refine Rn.pu (T' := T0) (g' := (mkF m 17 #[rv b, iv 7] [(.int (1 : Int32)), (.int (7 : Int32))])) ?_ fun _ zk => XS.iconst H0.here hx rfl (hb hby d_m4_16) zk
    refine Rn.pu (T' := T0) (g' := (mkF m 37 #[rv b, iv 7] [])) ?_ fun _ zk => XS.icmpYes H0.here hx rfl (pc0 := 17) (pc' := 37) rfl (hb hby d_m4_17) rfl (c_ne_t (by decide)) (by decide) (by decide) zk
    refine Rn.pu (T' := T0) (g' := (mkF m 38 #[rv b, iv 7] [(.int (7 : Int32))])) ?_ fun _ zk => XS.iloadN H0.here hx rfl (hb hby d_m4_37) rfl zk
    refine Rn.pu (T' := T0) (g' := (mkF m 39 #[rv b, iv 7] [(.int (2 : Int32)), (.int (7 : Int32))])) ?_ fun _ zk => XS.iconst H0.here hx rfl (hb hby d_m4_38) zk
    refine Rn.pu (T' := T0) (g' := (mkF m 65 #[rv b, iv 7] [])) ?_ fun _ zk => XS.icmpYes H0.here hx rfl (pc0 := 39) (pc' := 65) rfl (hb hby d_m4_39) rfl (c_ne_t (by decide)) (by decide) (by decide) zk
    refine Rn.pu (T' := T0) (g' := (mkF m 66 #[rv b, iv 7] [(.int (7 : Int32))])) ?_ fun _ zk => XS.iloadN H0.here hx rfl (hb hby d_m4_65) rfl zk
    refine Rn.pu (T' := T0) (g' := (mkF m 67 #[rv b, iv 7] [(.int (3 : Int32)), (.int (7 : Int32))])) ?_ fun _ zk => XS.iconst H0.here hx rfl (hb hby d_m4_66) zk
    refine Rn.pu (T' := T0) (g' := (mkF m 99 #[rv b, iv 7] [])) ?_ fun _ zk => XS.icmpYes H0.here hx rfl (pc0 := 67) (pc' := 99) rfl (hb hby d_m4_67) rfl (c_ne_t (by decide)) (by decide) (by decide) zk
    refine Rn.pu (T' := T0) (g' := (mkF m 100 #[rv b, iv 7] [(.int (7 : Int32))])) ?_ fun _ zk => XS.iloadN H0.here hx rfl (hb hby d_m4_99) rfl zk
    refine Rn.pu (T' := T0) (g' := (mkF m 101 #[rv b, iv 7] [(.int (4 : Int32)), (.int (7 : Int32))])) ?_ fun _ zk => XS.iconst H0.here hx rfl (hb hby d_m4_100) zk
    refine Rn.pu (T' := T0) (g' := (mkF m 139 #[rv b, iv 7] [])) ?_ fun _ zk => XS.icmpYes H0.here hx rfl (pc0 := 101) (pc' := 139) rfl (hb hby d_m4_101) rfl (c_ne_t (by decide)) (by decide) (by decide) zk
    refine Rn.pu (T' := T0) (g' := (mkF m 140 #[rv b, iv 7] [(.int (7 : Int32))])) ?_ fun _ zk => XS.iloadN H0.here hx rfl (hb hby d_m4_139) rfl zk
    refine Rn.pu (T' := T0) (g' := (mkF m 141 #[rv b, iv 7] [(.int (5 : Int32)), (.int (7 : Int32))])) ?_ fun _ zk => XS.iconst H0.here hx rfl (hb hby d_m4_140) zk
    refine Rn.pu (T' := T0) (g' := (mkF m 185 #[rv b, iv 7] [])) ?_ fun _ zk => XS.icmpYes H0.here hx rfl (pc0 := 141) (pc' := 185) rfl (hb hby d_m4_141) rfl (c_ne_t (by decide)) (by decide) (by decide) zk
    refine Rn.pu (T' := T0) (g' := (mkF m 186 #[rv b, iv 7] [(.int (7 : Int32))])) ?_ fun _ zk => XS.iloadN H0.here hx rfl (hb hby d_m4_185) rfl zk
    refine Rn.pu (T' := T0) (g' := (mkF m 188 #[rv b, iv 7] [(.int (6 : Int32)), (.int (7 : Int32))])) ?_ fun _ zk => XS.bipush H0.here hx rfl (hb hby d_m4_186) zk
    refine Rn.pu (T' := T0) (g' := (mkF m 239 #[rv b, iv 7] [])) ?_ fun _ zk => XS.icmpYes H0.here hx rfl (pc0 := 188) (pc' := 239) rfl (hb hby d_m4_188) rfl (c_ne_t (by decide)) (by decide) (by decide) zk
    refine Rn.pu (T' := T0) (g' := (mkF m 240 #[rv b, iv 7] [(.int (7 : Int32))])) ?_ fun _ zk => XS.iloadN H0.here hx rfl (hb hby d_m4_239) rfl zk
    refine Rn.pu (T' := T0) (g' := (mkF m 242 #[rv b, iv 7] [(.int (7 : Int32)), (.int (7 : Int32))])) ?_ fun _ zk => XS.bipush H0.here hx rfl (hb hby d_m4_240) zk
    refine Rn.pu (T' := T0) (g' := (mkF m 245 #[rv b, iv 7] [])) ?_ fun _ zk => XS.icmpNo H0.here hx rfl (hb hby d_m4_242) rfl (c_ne_f rfl) zk
    obtain ⟨a43, T43, h43, e43, H43, K43, E43, D43, st43⟩ := H0.newO (wd hw 51 rfl) (wd hw 2 rfl) (wd hw 1 rfl) (g := (mkF m 245 #[rv b, iv 7] [])) rfl (hb hby d_m4_245) (by decide) (by decide)
    have zh43 := K43.1
    have l43 := natlt (E43).lt
    have g43 : s.heap.size ≤ a43 := by omega
    have F43_value : Fld Z h43 a43 "java/lang/String" "value" "[B" .null := D43 (Or.inr (wd hw 4 rfl)) (ty := (.array .byte)) (by decide)
    have F43_coder : Fld Z h43 a43 "java/lang/String" "coder" "B" (.int (0 : Int32)) := D43 (Or.inr (wd hw 5 rfl)) (ty := .byte) (by decide)
    refine Rn.pu (g' := (mkF m 248 #[rv b, iv 7] [(.ref a43)])) ?_ st43
    refine Rn.pu (T' := T43) (g' := (mkF m 249 #[rv b, iv 7] [(.ref a43), (.ref a43)])) ?_ fun _ zk => XS.dup H43.here hx rfl (hb hby d_m4_248) rfl rfl zk
    refine Rn.pu (T' := T43) (g' := (mkF m 251 #[rv b, iv 7] [(.int (7 : Int32)), (.ref a43), (.ref a43)])) ?_ fun _ zk => XS.bipush H43.here hx rfl (hb hby d_m4_249) zk
    obtain ⟨a44, k44, T44, h44, e44, H44, K44, A44, st44⟩ := H43.newP (aty := .char) (wd hw 21 rfl) (g := (mkF m 251 #[rv b, iv 7] [(.int (7 : Int32)), (.ref a43), (.ref a43)])) rfl (hb hby d_m4_251) rfl (by decide) (cap := 7) (by decide) (by decide) (by decide) (by decide)
    have zh44 := K44.1
    have l44 := natlt (A44).lt
    have g44 : s.heap.size ≤ a44 := by omega
    refine Rn.pu (g' := (mkF m 253 #[rv b, iv 7] [(.ref a44), (.ref a43), (.ref a43)])) ?_ st44
    refine Rn.pu (T' := T44) (g' := (mkF m 254 #[rv b, iv 7] [(.ref a44), (.ref a44), (.ref a43), (.ref a43)])) ?_ fun _ zk => XS.dup H44.here hx rfl (hb hby d_m4_253) rfl rfl zk
    refine Rn.pu (T' := T44) (g' := (mkF m 255 #[rv b, iv 7] [(.int (0 : Int32)), (.ref a44), (.ref a44), (.ref a43), (.ref a43)])) ?_ fun _ zk => XS.iconst H44.here hx rfl (hb hby d_m4_254) zk
    refine Rn.pu (T' := T44) (g' := (mkF m 256 #[rv b, iv 7] [(.ref b), (.int (0 : Int32)), (.ref a44), (.ref a44), (.ref a43), (.ref a43)])) ?_ fun _ zk => XS.aloadN H44.here hx rfl (hb hby d_m4_255) rfl rfl zk
    refine Rn.pu (T' := T44) (g' := (mkF m 257 #[rv b, iv 7] [(.int (0 : Int32)), (.ref b), (.int (0 : Int32)), (.ref a44), (.ref a44), (.ref a43), (.ref a43)])) ?_ fun _ zk => XS.iconst H44.here hx rfl (hb hby d_m4_256) zk
    refine Rn.pu (g' := (mkF m 258 #[rv b, iv 7] [(.int c0), (.int (0 : Int32)), (.ref a44), (.ref a44), (.ref a43), (.ref a43)])) ?_ (H44.cald ((AB.keep K43 nin0).keep K44 nin0) (by decide) (v := .int c0) rfl (g := (mkF m 257 #[rv b, iv 7] [(.int (0 : Int32)), (.ref b), (.int (0 : Int32)), (.ref a44), (.ref a44), (.ref a43), (.ref a43)])) rfl rfl (hb hby d_m4_257))
    obtain ⟨T45, h45, H45, K45, A45, st45⟩ := H44.stC A44 (by decide) rfl (Or.inr (by omega)) (g := (mkF m 258 #[rv b, iv 7] [(.int c0), (.int (0 : Int32)), (.ref a44), (.ref a44), (.ref a43), (.ref a43)])) rfl rfl (hb hby d_m4_258)
    have zh45 := K45.1
    refine Rn.pu (g' := (mkF m 259 #[rv b, iv 7] [(.ref a44), (.ref a43), (.ref a43)])) ?_ st45
    refine Rn.pu (T' := T45) (g' := (mkF m 260 #[rv b, iv 7] [(.ref a44), (.ref a44), (.ref a43), (.ref a43)])) ?_ fun _ zk => XS.dup H45.here hx rfl (hb hby d_m4_259) rfl rfl zk
    refine Rn.pu (T' := T45) (g' := (mkF m 261 #[rv b, iv 7] [(.int (1 : Int32)), (.ref a44), (.ref a44), (.ref a43), (.ref a43)])) ?_ fun _ zk => XS.iconst H45.here hx rfl (hb hby d_m4_260) zk
    refine Rn.pu (T' := T45) (g' := (mkF m 262 #[rv b, iv 7] [(.ref b), (.int (1 : Int32)), (.ref a44), (.ref a44), (.ref a43), (.ref a43)])) ?_ fun _ zk => XS.aloadN H45.here hx rfl (hb hby d_m4_261) rfl rfl zk
    refine Rn.pu (T' := T45) (g' := (mkF m 263 #[rv b, iv 7] [(.int (1 : Int32)), (.ref b), (.int (1 : Int32)), (.ref a44), (.ref a44), (.ref a43), (.ref a43)])) ?_ fun _ zk => XS.iconst H45.here hx rfl (hb hby d_m4_262) zk
    refine Rn.pu (g' := (mkF m 264 #[rv b, iv 7] [(.int c1), (.int (1 : Int32)), (.ref a44), (.ref a44), (.ref a43), (.ref a43)])) ?_ (H45.cald (((AB.keep K43 nin0).keep K44 nin0).keep K45 (ninS (adne (by omega)) nin0)) (by decide) (v := .int c1) rfl (g := (mkF m 263 #[rv b, iv 7] [(.int (1 : Int32)), (.ref b), (.int (1 : Int32)), (.ref a44), (.ref a44), (.ref a43), (.ref a43)])) rfl rfl (hb hby d_m4_263))
    obtain ⟨T46, h46, H46, K46, A46, st46⟩ := H45.stC A45 (by decide) rfl (Or.inr (by omega)) (g := (mkF m 264 #[rv b, iv 7] [(.int c1), (.int (1 : Int32)), (.ref a44), (.ref a44), (.ref a43), (.ref a43)])) rfl rfl (hb hby d_m4_264)
    have zh46 := K46.1
    refine Rn.pu (g' := (mkF m 265 #[rv b, iv 7] [(.ref a44), (.ref a43), (.ref a43)])) ?_ st46
    refine Rn.pu (T' := T46) (g' := (mkF m 266 #[rv b, iv 7] [(.ref a44), (.ref a44), (.ref a43), (.ref a43)])) ?_ fun _ zk => XS.dup H46.here hx rfl (hb hby d_m4_265) rfl rfl zk
    refine Rn.pu (T' := T46) (g' := (mkF m 267 #[rv b, iv 7] [(.int (2 : Int32)), (.ref a44), (.ref a44), (.ref a43), (.ref a43)])) ?_ fun _ zk => XS.iconst H46.here hx rfl (hb hby d_m4_266) zk
    refine Rn.pu (T' := T46) (g' := (mkF m 268 #[rv b, iv 7] [(.ref b), (.int (2 : Int32)), (.ref a44), (.ref a44), (.ref a43), (.ref a43)])) ?_ fun _ zk => XS.aloadN H46.here hx rfl (hb hby d_m4_267) rfl rfl zk
    refine Rn.pu (T' := T46) (g' := (mkF m 269 #[rv b, iv 7] [(.int (2 : Int32)), (.ref b), (.int (2 : Int32)), (.ref a44), (.ref a44), (.ref a43), (.ref a43)])) ?_ fun _ zk => XS.iconst H46.here hx rfl (hb hby d_m4_268) zk
    refine Rn.pu (g' := (mkF m 270 #[rv b, iv 7] [(.int c2), (.int (2 : Int32)), (.ref a44), (.ref a44), (.ref a43), (.ref a43)])) ?_ (H46.cald ((((AB.keep K43 nin0).keep K44 nin0).keep K45 (ninS (adne (by omega)) nin0)).keep K46 (ninS (adne (by omega)) nin0)) (by decide) (v := .int c2) rfl (g := (mkF m 269 #[rv b, iv 7] [(.int (2 : Int32)), (.ref b), (.int (2 : Int32)), (.ref a44), (.ref a44), (.ref a43), (.ref a43)])) rfl rfl (hb hby d_m4_269))
    obtain ⟨T47, h47, H47, K47, A47, st47⟩ := H46.stC A46 (by decide) rfl (Or.inr (by omega)) (g := (mkF m 270 #[rv b, iv 7] [(.int c2), (.int (2 : Int32)), (.ref a44), (.ref a44), (.ref a43), (.ref a43)])) rfl rfl (hb hby d_m4_270)
    have zh47 := K47.1
    refine Rn.pu (g' := (mkF m 271 #[rv b, iv 7] [(.ref a44), (.ref a43), (.ref a43)])) ?_ st47
    refine Rn.pu (T' := T47) (g' := (mkF m 272 #[rv b, iv 7] [(.ref a44), (.ref a44), (.ref a43), (.ref a43)])) ?_ fun _ zk => XS.dup H47.here hx rfl (hb hby d_m4_271) rfl rfl zk
    refine Rn.pu (T' := T47) (g' := (mkF m 273 #[rv b, iv 7] [(.int (3 : Int32)), (.ref a44), (.ref a44), (.ref a43), (.ref a43)])) ?_ fun _ zk => XS.iconst H47.here hx rfl (hb hby d_m4_272) zk
    refine Rn.pu (T' := T47) (g' := (mkF m 274 #[rv b, iv 7] [(.ref b), (.int (3 : Int32)), (.ref a44), (.ref a44), (.ref a43), (.ref a43)])) ?_ fun _ zk => XS.aloadN H47.here hx rfl (hb hby d_m4_273) rfl rfl zk
    refine Rn.pu (T' := T47) (g' := (mkF m 275 #[rv b, iv 7] [(.int (3 : Int32)), (.ref b), (.int (3 : Int32)), (.ref a44), (.ref a44), (.ref a43), (.ref a43)])) ?_ fun _ zk => XS.iconst H47.here hx rfl (hb hby d_m4_274) zk
    refine Rn.pu (g' := (mkF m 276 #[rv b, iv 7] [(.int c3), (.int (3 : Int32)), (.ref a44), (.ref a44), (.ref a43), (.ref a43)])) ?_ (H47.cald (((((AB.keep K43 nin0).keep K44 nin0).keep K45 (ninS (adne (by omega)) nin0)).keep K46 (ninS (adne (by omega)) nin0)).keep K47 (ninS (adne (by omega)) nin0)) (by decide) (v := .int c3) rfl (g := (mkF m 275 #[rv b, iv 7] [(.int (3 : Int32)), (.ref b), (.int (3 : Int32)), (.ref a44), (.ref a44), (.ref a43), (.ref a43)])) rfl rfl (hb hby d_m4_275))
    obtain ⟨T48, h48, H48, K48, A48, st48⟩ := H47.stC A47 (by decide) rfl (Or.inr (by omega)) (g := (mkF m 276 #[rv b, iv 7] [(.int c3), (.int (3 : Int32)), (.ref a44), (.ref a44), (.ref a43), (.ref a43)])) rfl rfl (hb hby d_m4_276)
    have zh48 := K48.1
    refine Rn.pu (g' := (mkF m 277 #[rv b, iv 7] [(.ref a44), (.ref a43), (.ref a43)])) ?_ st48
    refine Rn.pu (T' := T48) (g' := (mkF m 278 #[rv b, iv 7] [(.ref a44), (.ref a44), (.ref a43), (.ref a43)])) ?_ fun _ zk => XS.dup H48.here hx rfl (hb hby d_m4_277) rfl rfl zk
    refine Rn.pu (T' := T48) (g' := (mkF m 279 #[rv b, iv 7] [(.int (4 : Int32)), (.ref a44), (.ref a44), (.ref a43), (.ref a43)])) ?_ fun _ zk => XS.iconst H48.here hx rfl (hb hby d_m4_278) zk
    refine Rn.pu (T' := T48) (g' := (mkF m 280 #[rv b, iv 7] [(.ref b), (.int (4 : Int32)), (.ref a44), (.ref a44), (.ref a43), (.ref a43)])) ?_ fun _ zk => XS.aloadN H48.here hx rfl (hb hby d_m4_279) rfl rfl zk
    refine Rn.pu (T' := T48) (g' := (mkF m 281 #[rv b, iv 7] [(.int (4 : Int32)), (.ref b), (.int (4 : Int32)), (.ref a44), (.ref a44), (.ref a43), (.ref a43)])) ?_ fun _ zk => XS.iconst H48.here hx rfl (hb hby d_m4_280) zk
    refine Rn.pu (g' := (mkF m 282 #[rv b, iv 7] [(.int c4), (.int (4 : Int32)), (.ref a44), (.ref a44), (.ref a43), (.ref a43)])) ?_ (H48.cald ((((((AB.keep K43 nin0).keep K44 nin0).keep K45 (ninS (adne (by omega)) nin0)).keep K46 (ninS (adne (by omega)) nin0)).keep K47 (ninS (adne (by omega)) nin0)).keep K48 (ninS (adne (by omega)) nin0)) (by decide) (v := .int c4) rfl (g := (mkF m 281 #[rv b, iv 7] [(.int (4 : Int32)), (.ref b), (.int (4 : Int32)), (.ref a44), (.ref a44), (.ref a43), (.ref a43)])) rfl rfl (hb hby d_m4_281))
    obtain ⟨T49, h49, H49, K49, A49, st49⟩ := H48.stC A48 (by decide) rfl (Or.inr (by omega)) (g := (mkF m 282 #[rv b, iv 7] [(.int c4), (.int (4 : Int32)), (.ref a44), (.ref a44), (.ref a43), (.ref a43)])) rfl rfl (hb hby d_m4_282)
    have zh49 := K49.1
    refine Rn.pu (g' := (mkF m 283 #[rv b, iv 7] [(.ref a44), (.ref a43), (.ref a43)])) ?_ st49
    refine Rn.pu (T' := T49) (g' := (mkF m 284 #[rv b, iv 7] [(.ref a44), (.ref a44), (.ref a43), (.ref a43)])) ?_ fun _ zk => XS.dup H49.here hx rfl (hb hby d_m4_283) rfl rfl zk
    refine Rn.pu (T' := T49) (g' := (mkF m 285 #[rv b, iv 7] [(.int (5 : Int32)), (.ref a44), (.ref a44), (.ref a43), (.ref a43)])) ?_ fun _ zk => XS.iconst H49.here hx rfl (hb hby d_m4_284) zk
    refine Rn.pu (T' := T49) (g' := (mkF m 286 #[rv b, iv 7] [(.ref b), (.int (5 : Int32)), (.ref a44), (.ref a44), (.ref a43), (.ref a43)])) ?_ fun _ zk => XS.aloadN H49.here hx rfl (hb hby d_m4_285) rfl rfl zk
    refine Rn.pu (T' := T49) (g' := (mkF m 287 #[rv b, iv 7] [(.int (5 : Int32)), (.ref b), (.int (5 : Int32)), (.ref a44), (.ref a44), (.ref a43), (.ref a43)])) ?_ fun _ zk => XS.iconst H49.here hx rfl (hb hby d_m4_286) zk
    refine Rn.pu (g' := (mkF m 288 #[rv b, iv 7] [(.int c5), (.int (5 : Int32)), (.ref a44), (.ref a44), (.ref a43), (.ref a43)])) ?_ (H49.cald (((((((AB.keep K43 nin0).keep K44 nin0).keep K45 (ninS (adne (by omega)) nin0)).keep K46 (ninS (adne (by omega)) nin0)).keep K47 (ninS (adne (by omega)) nin0)).keep K48 (ninS (adne (by omega)) nin0)).keep K49 (ninS (adne (by omega)) nin0)) (by decide) (v := .int c5) rfl (g := (mkF m 287 #[rv b, iv 7] [(.int (5 : Int32)), (.ref b), (.int (5 : Int32)), (.ref a44), (.ref a44), (.ref a43), (.ref a43)])) rfl rfl (hb hby d_m4_287))
    obtain ⟨T50, h50, H50, K50, A50, st50⟩ := H49.stC A49 (by decide) rfl (Or.inr (by omega)) (g := (mkF m 288 #[rv b, iv 7] [(.int c5), (.int (5 : Int32)), (.ref a44), (.ref a44), (.ref a43), (.ref a43)])) rfl rfl (hb hby d_m4_288)
    have zh50 := K50.1
    refine Rn.pu (g' := (mkF m 289 #[rv b, iv 7] [(.ref a44), (.ref a43), (.ref a43)])) ?_ st50
    refine Rn.pu (T' := T50) (g' := (mkF m 290 #[rv b, iv 7] [(.ref a44), (.ref a44), (.ref a43), (.ref a43)])) ?_ fun _ zk => XS.dup H50.here hx rfl (hb hby d_m4_289) rfl rfl zk
    refine Rn.pu (T' := T50) (g' := (mkF m 292 #[rv b, iv 7] [(.int (6 : Int32)), (.ref a44), (.ref a44), (.ref a43), (.ref a43)])) ?_ fun _ zk => XS.bipush H50.here hx rfl (hb hby d_m4_290) zk
    refine Rn.pu (T' := T50) (g' := (mkF m 293 #[rv b, iv 7] [(.ref b), (.int (6 : Int32)), (.ref a44), (.ref a44), (.ref a43), (.ref a43)])) ?_ fun _ zk => XS.aloadN H50.here hx rfl (hb hby d_m4_292) rfl rfl zk
    refine Rn.pu (T' := T50) (g' := (mkF m 295 #[rv b, iv 7] [(.int (6 : Int32)), (.ref b), (.int (6 : Int32)), (.ref a44), (.ref a44), (.ref a43), (.ref a43)])) ?_ fun _ zk => XS.bipush H50.here hx rfl (hb hby d_m4_293) zk
    refine Rn.pu (g' := (mkF m 296 #[rv b, iv 7] [(.int c6), (.int (6 : Int32)), (.ref a44), (.ref a44), (.ref a43), (.ref a43)])) ?_ (H50.cald ((((((((AB.keep K43 nin0).keep K44 nin0).keep K45 (ninS (adne (by omega)) nin0)).keep K46 (ninS (adne (by omega)) nin0)).keep K47 (ninS (adne (by omega)) nin0)).keep K48 (ninS (adne (by omega)) nin0)).keep K49 (ninS (adne (by omega)) nin0)).keep K50 (ninS (adne (by omega)) nin0)) (by decide) (v := .int c6) rfl (g := (mkF m 295 #[rv b, iv 7] [(.int (6 : Int32)), (.ref b), (.int (6 : Int32)), (.ref a44), (.ref a44), (.ref a43), (.ref a43)])) rfl rfl (hb hby d_m4_295))
    obtain ⟨T51, h51, H51, K51, A51, st51⟩ := H50.stC A50 (by decide) rfl (Or.inr (by omega)) (g := (mkF m 296 #[rv b, iv 7] [(.int c6), (.int (6 : Int32)), (.ref a44), (.ref a44), (.ref a43), (.ref a43)])) rfl rfl (hb hby d_m4_296)
    have zh51 := K51.1
    refine Rn.pu (g' := (mkF m 297 #[rv b, iv 7] [(.ref a44), (.ref a43), (.ref a43)])) ?_ st51
    obtain ⟨_, T52, h52, H52, ⟨rfl, t52, et52, lt52, S52⟩, K52, st52⟩ := H51.callI rfl (wd hw 52 rfl) (wd hw 53 rfl) (wd hw 54 rfl) (by decide) (payNew (cs := [(nar .char c0), (nar .char c1), (nar .char c2), (nar .char c3), (nar .char c4), (nar .char c5), (nar .char c6)]) (n := 7) (W := 1) (hws_new hw) (wd hw 2 rfl) ((((((((E43.keep K44).keep K45).keep K46).keep K47).keep K48).keep K49).keep K50).keep K51) ((((((((F43_value.keep K44 nin0).keep K45 (ninS (adne (by omega)) nin0)).keep K46 (ninS (adne (by omega)) nin0)).keep K47 (ninS (adne (by omega)) nin0)).keep K48 (ninS (adne (by omega)) nin0)).keep K49 (ninS (adne (by omega)) nin0)).keep K50 (ninS (adne (by omega)) nin0)).keep K51 (ninS (adne (by omega)) nin0)) ((((((((F43_coder.keep K44 nin0).keep K45 (ninS (adne (by omega)) nin0)).keep K46 (ninS (adne (by omega)) nin0)).keep K47 (ninS (adne (by omega)) nin0)).keep K48 (ninS (adne (by omega)) nin0)).keep K49 (ninS (adne (by omega)) nin0)).keep K50 (ninS (adne (by omega)) nin0)).keep K51 (ninS (adne (by omega)) nin0)) A51 (SC0.ext H51.old) hz0 rfl rfl (by decide) (by decide) (mem2 (lat_nar qc0) (mem2 (lat_nar qc1) (mem2 (lat_nar qc2) (mem2 (lat_nar qc3) (mem2 (lat_nar qc4) (mem2 (lat_nar qc5) (mem2 (lat_nar qc6) mem0))))))) (by decide) (by decide)) (g := (mkF m 297 #[rv b, iv 7] [(.ref a44), (.ref a43), (.ref a43)])) rfl (by rw [hml]; rfl) (argsL := [(.ref a44)]) (rest := [(.ref a43)]) (lenOf pd__AC_V rfl) rfl rfl (Nat.le_of_eq rfl) (hb hby d_m4_297) (by decide) (by decide) (allS (Or.inr (by omega)) all0)
    have zh52 := K52.1
    have l52 := natlt (S52).lt
    refine Rn.pu (g' := (mkF m 300 #[rv b, iv 7] [(.ref a43)])) ?_ st52
    have SX := S52
    have lSX := natlt (SX).lt
    have mSX := natlt (SX).ltt
    exact H52.retA ends_W hlk hret rfl rfl rfl (hb hby d_m4_300) (by decide) (by decide) (fun _ q => nomatch q) ⟨(fun z => ⟨z.1, z.2.1⟩) (H52.vm (fun U vm1 hW q => EG.stab hP hW q)), a43, t52, [(nar .char c0), (nar .char c1), (nar .char c2), (nar .char c3), (nar .char c4), (nar .char c5), (nar .char c6)], rfl, SX, by omega, by omega, by omega⟩
  ·
    refine Rn.pu (T' := T0) (g' := (mkF m 1 #[rv b, iv 8] [(.int (8 : Int32))])) ?_ fun _ zk => XS.iloadN H0.here hx rfl (hb hby d_m4_0) rfl zk
    refine Rn.pu (T' := T0) (g' := (mkF m 15 #[rv b, iv 8] [])) ?_ fun _ zk => XS.ifYes H0.here hx rfl (pc0 := 1) (pc' := 15) rfl (hb hby d_m4_1) rfl (z_ne_t (by decide)) (by decide) (by decide) zk
    refine Rn.pu (T' := T0) (g' := (mkF m 16 #[rv b, iv 8] [(.int (8 : Int32))])) ?_ fun _ zk => XS.iloadN H0.here hx rfl (hb hby d_m4_15) rfl zk
    refine Rn.pu (T' := T0) (g' := (mkF m 17 #[rv b, iv 8] [(.int (1 : Int32)), (.int (8 : Int32))])) ?_ fun _ zk => XS.iconst H0.here hx rfl (hb hby d_m4_16) zk
    refine Rn.pu (T' := T0) (g' := (mkF m 37 #[rv b, iv 8] [])) ?_ fun _ zk => XS.icmpYes H0.here hx rfl (pc0 := 17) (pc' := 37) rfl (hb hby d_m4_17) rfl (c_ne_t (by decide)) (by decide) (by decide) zk
    refine Rn.pu (T' := T0) (g' := (mkF m 38 #[rv b, iv 8] [(.int (8 : Int32))])) ?_ fun _ zk => XS.iloadN H0.here hx rfl (hb hby d_m4_37) rfl zk
    refine Rn.pu (T' := T0) (g' := (mkF m 39 #[rv b, iv 8] [(.int (2 : Int32)), (.int (8 : Int32))])) ?_ fun _ zk => XS.iconst H0.here hx rfl (hb hby d_m4_38) zk
    refine Rn.pu (T' := T0) (g' := (mkF m 65 #[rv b, iv 8] [])) ?_ fun _ zk => XS.icmpYes H0.here hx rfl (pc0 := 39) (pc' := 65) rfl (hb hby d_m4_39) rfl (c_ne_t (by decide)) (by decide) (by decide) zk
    refine Rn.pu (T' := T0) (g' := (mkF m 66 #[rv b, iv 8] [(.int (8 : Int32))])) ?_ fun _ zk => XS.iloadN H0.here hx rfl (hb hby d_m4_65) rfl zk
    refine Rn.pu (T' := T0) (g' := (mkF m 67 #[rv b, iv 8] [(.int (3 : Int32)), (.int (8 : Int32))])) ?_ fun _ zk => XS.iconst H0.here hx rfl (hb hby d_m4_66) zk
    refine Rn.pu (T' := T0) (g' := (mkF m 99 #[rv b, iv 8] [])) ?_ fun _ zk => XS.icmpYes H0.here hx rfl (pc0 := 67) (pc' := 99) rfl (hb hby d_m4_67) rfl (c_ne_t (by decide)) (by decide) (by decide) zk
    refine Rn.pu (T' := T0) (g' := (mkF m 100 #[rv b, iv 8] [(.int (8 : Int32))])) ?_ fun _ zk => XS.iloadN H0.here hx rfl (hb hby d_m4_99) rfl zk
    refine Rn.pu (T' := T0) (g' := (mkF m 101 #[rv b, iv 8] [(.int (4 : Int32)), (.int (8 : Int32))])) ?_ fun _ zk => XS.iconst H0.here hx rfl (hb hby d_m4_100) zk
    refine Rn.pu (T' := T0) (g' := (mkF m 139 #[rv b, iv 8] [])) ?_ fun _ zk => XS.icmpYes H0.here hx rfl (pc0 := 101) (pc' := 139) rfl (hb hby d_m4_101) rfl (c_ne_t (by decide)) (by decide) (by decide) zk
    refine Rn.pu (T' := T0) (g' := (mkF m 140 #[rv b, iv 8] [(.int (8 : Int32))])) ?_ fun _ zk => XS.iloadN H0.here hx rfl (hb hby d_m4_139) rfl zk
    refine Rn.pu (T' := T0) (g' := (mkF m 141 #[rv b, iv 8] [(.int (5 : Int32)), (.int (8 : Int32))])) ?_ fun _ zk => XS.iconst H0.here hx rfl (hb hby d_m4_140) zk
    refine Rn.pu (T' := T0) (g' := (mkF m 185 #[rv b, iv 8] [])) ?_ fun _ zk => XS.icmpYes H0.here hx rfl (pc0 := 141) (pc' := 185) rfl (hb hby d_m4_141) rfl (c_ne_t (by decide)) (by decide) (by decide) zk
    refine Rn.pu (T' := T0) (g' := (mkF m 186 #[rv b, iv 8] [(.int (8 : Int32))])) ?_ fun _ zk => XS.iloadN H0.here hx rfl (hb hby d_m4_185) rfl zk
    refine Rn.pu (T' := T0) (g' := (mkF m 188 #[rv b, iv 8] [(.int (6 : Int32)), (.int (8 : Int32))])) ?_ fun _ zk => XS.bipush H0.here hx rfl (hb hby d_m4_186) zk
    refine Rn.pu (T' := T0) (g' := (mkF m 239 #[rv b, iv 8] [])) ?_ fun _ zk => XS.icmpYes H0.here hx rfl (pc0 := 188) (pc' := 239) rfl (hb hby d_m4_188) rfl (c_ne_t (by decide)) (by decide) (by decide) zk
    refine Rn.pu (T' := T0) (g' := (mkF m 240 #[rv b, iv 8] [(.int (8 : Int32))])) ?_ fun _ zk => XS.iloadN H0.here hx rfl (hb hby d_m4_239) rfl zk
    refine Rn.pu (T' := T0) (g' := (mkF m 242 #[rv b, iv 8] [(.int (7 : Int32)), (.int (8 : Int32))])) ?_ fun _ zk => XS.bipush H0.here hx rfl (hb hby d_m4_240) zk
    refine Rn.pu (T' := T0) (g' := (mkF m 301 #[rv b, iv 8] [])) ?_ fun _ zk => XS.icmpYes H0.here hx rfl (pc0 := 242) (pc' := 301) rfl (hb hby d_m4_242) rfl (c_ne_t (by decide)) (by decide) (by decide) zk
    refine Rn.pu (T' := T0) (g' := (mkF m 302 #[rv b, iv 8] [(.int (8 : Int32))])) ?_ fun _ zk => XS.iloadN H0.here hx rfl (hb hby d_m4_301) rfl zk
    refine Rn.pu (T' := T0) (g' := (mkF m 304 #[rv b, iv 8] [(.int (8 : Int32)), (.int (8 : Int32))])) ?_ fun _ zk => XS.bipush H0.here hx rfl (hb hby d_m4_302) zk
    refine Rn.pu (T' := T0) (g' := (mkF m 307 #[rv b, iv 8] [])) ?_ fun _ zk => XS.icmpNo H0.here hx rfl (hb hby d_m4_304) rfl (c_ne_f rfl) zk
    obtain ⟨a53, T53, h53, e53, H53, K53, E53, D53, st53⟩ := H0.newO (wd hw 51 rfl) (wd hw 2 rfl) (wd hw 1 rfl) (g := (mkF m 307 #[rv b, iv 8] [])) rfl (hb hby d_m4_307) (by decide) (by decide)
    have zh53 := K53.1
    have l53 := natlt (E53).lt
    have g53 : s.heap.size ≤ a53 := by omega
    have F53_value : Fld Z h53 a53 "java/lang/String" "value" "[B" .null := D53 (Or.inr (wd hw 4 rfl)) (ty := (.array .byte)) (by decide)
    have F53_coder : Fld Z h53 a53 "java/lang/String" "coder" "B" (.int (0 : Int32)) := D53 (Or.inr (wd hw 5 rfl)) (ty := .byte) (by decide)
    refine Rn.pu (g' := (mkF m 310 #[rv b, iv 8] [(.ref a53)])) ?_ st53
    refine Rn.pu (T' := T53) (g' := (mkF m 311 #[rv b, iv 8] [(.ref a53), (.ref a53)])) ?_ fun _ zk => XS.dup H53.here hx rfl (hb hby d_m4_310) rfl rfl zk
    refine Rn.pu (T' := T53) (g' := (mkF m 313 #[rv b, iv 8] [(.int (8 : Int32)), (.ref a53), (.ref a53)])) ?_ fun _ zk => XS.bipush H53.here hx rfl (hb hby d_m4_311) zk
    obtain ⟨a54, k54, T54, h54, e54, H54, K54, A54, st54⟩ := H53.newP (aty := .char) (wd hw 21 rfl) (g := (mkF m 313 #[rv b, iv 8] [(.int (8 : Int32)), (.ref a53), (.ref a53)])) rfl (hb hby d_m4_313) rfl (by decide) (cap := 8) (by decide) (by decide) (by decide) (by decide)
    have zh54 := K54.1
    have l54 := natlt (A54).lt
    have g54 : s.heap.size ≤ a54 := by omega
    refine Rn.pu (g' := (mkF m 315 #[rv b, iv 8] [(.ref a54), (.ref a53), (.ref a53)])) ?_ st54
    refine Rn.pu (T' := T54) (g' := (mkF m 316 #[rv b, iv 8] [(.ref a54), (.ref a54), (.ref a53), (.ref a53)])) ?_ fun _ zk => XS.dup H54.here hx rfl (hb hby d_m4_315) rfl rfl zk
    refine Rn.pu (T' := T54) (g' := (mkF m 317 #[rv b, iv 8] [(.int (0 : Int32)), (.ref a54), (.ref a54), (.ref a53), (.ref a53)])) ?_ fun _ zk => XS.iconst H54.here hx rfl (hb hby d_m4_316) zk
    refine Rn.pu (T' := T54) (g' := (mkF m 318 #[rv b, iv 8] [(.ref b), (.int (0 : Int32)), (.ref a54), (.ref a54), (.ref a53), (.ref a53)])) ?_ fun _ zk => XS.aloadN H54.here hx rfl (hb hby d_m4_317) rfl rfl zk
    refine Rn.pu (T' := T54) (g' := (mkF m 319 #[rv b, iv 8] [(.int (0 : Int32)), (.ref b), (.int (0 : Int32)), (.ref a54), (.ref a54), (.ref a53), (.ref a53)])) ?_ fun _ zk => XS.iconst H54.here hx rfl (hb hby d_m4_318) zk
    refine Rn.pu (g' := (mkF m 320 #[rv b, iv 8] [(.int c0), (.int (0 : Int32)), (.ref a54), (.ref a54), (.ref a53), (.ref a53)])) ?_ (H54.cald ((AB.keep K53 nin0).keep K54 nin0) (by decide) (v := .int c0) rfl (g := (mkF m 319 #[rv b, iv 8] [(.int (0 : Int32)), (.ref b), (.int (0 : Int32)), (.ref a54), (.ref a54), (.ref a53), (.ref a53)])) rfl rfl (hb hby d_m4_319))
    obtain ⟨T55, h55, H55, K55, A55, st55⟩ := H54.stC A54 (by decide) rfl (Or.inr (by omega)) (g := (mkF m 320 #[rv b, iv 8] [(.int c0), (.int (0 : Int32)), (.ref a54), (.ref a54), (.ref a53), (.ref a53)])) rfl rfl (hb hby d_m4_320)
    have zh55 := K55.1
    refine Rn.pu (g' := (mkF m 321 #[rv b, iv 8] [(.ref a54), (.ref a53), (.ref a53)])) ?_ st55
    refine Rn.pu (T' := T55) (g' := (mkF m 322 #[rv b, iv 8] [(.ref a54), (.ref a54), (.ref a53), (.ref a53)])) ?_ fun _ zk => XS.dup H55.here hx rfl (hb hby d_m4_321) rfl rfl zk
    refine Rn.pu (T' := T55) (g' := (mkF m 323 #[rv b, iv 8] [(.int (1 : Int32)), (.ref a54), (.ref a54), (.ref a53), (.ref a53)])) ?_ fun _ zk => XS.iconst H55.here hx rfl (hb hby d_m4_322) zk
    refine Rn.pu (T' := T55) (g' := (mkF m 324 #[rv b, iv 8] [(.ref b), (.int (1 : Int32)), (.ref a54), (.ref a54), (.ref a53), (.ref a53)])) ?_ fun _ zk => XS.aloadN H55.here hx rfl (hb hby d_m4_323) rfl rfl zk
    refine Rn.pu (T' := T55) (g' := (mkF m 325 #[rv b, iv 8] [(.int (1 : Int32)), (.ref b), (.int (1 : Int32)), (.ref a54), (.ref a54), (.ref a53), (.ref a53)])) ?_ fun _ zk => XS.iconst H55.here hx rfl (hb hby d_m4_324) zk
    refine Rn.pu (g' := (mkF m 326 #[rv b, iv 8] [(.int c1), (.int (1 : Int32)), (.ref a54), (.ref a54), (.ref a53), (.ref a53)])) ?_ (H55.cald (((AB.keep K53 nin0).keep K54 nin0).keep K55 (ninS (adne (by omega)) nin0)) (by decide) (v := .int c1) rfl (g := (mkF m 325 #[rv b, iv 8] [(.int (1 : Int32)), (.ref b), (.int (1 : Int32)), (.ref a54), (.ref a54), (.ref a53), (.ref a53)])) rfl rfl (hb hby d_m4_325))
    obtain ⟨T56, h56, H56, K56, A56, st56⟩ := H55.stC A55 (by decide) rfl (Or.inr (by omega)) (g := (mkF m 326 #[rv b, iv 8] [(.int c1), (.int (1 : Int32)), (.ref a54), (.ref a54), (.ref a53), (.ref a53)])) rfl rfl (hb hby d_m4_326)
    have zh56 := K56.1
    refine Rn.pu (g' := (mkF m 327 #[rv b, iv 8] [(.ref a54), (.ref a53), (.ref a53)])) ?_ st56
    refine Rn.pu (T' := T56) (g' := (mkF m 328 #[rv b, iv 8] [(.ref a54), (.ref a54), (.ref a53), (.ref a53)])) ?_ fun _ zk => XS.dup H56.here hx rfl (hb hby d_m4_327) rfl rfl zk
    refine Rn.pu (T' := T56) (g' := (mkF m 329 #[rv b, iv 8] [(.int (2 : Int32)), (.ref a54), (.ref a54), (.ref a53), (.ref a53)])) ?_ fun _ zk => XS.iconst H56.here hx rfl (hb hby d_m4_328) zk
    refine Rn.pu (T' := T56) (g' := (mkF m 330 #[rv b, iv 8] [(.ref b), (.int (2 : Int32)), (.ref a54), (.ref a54), (.ref a53), (.ref a53)])) ?_ fun _ zk => XS.aloadN H56.here hx rfl (hb hby d_m4_329) rfl rfl zk
    refine Rn.pu (T' := T56) (g' := (mkF m 331 #[rv b, iv 8] [(.int (2 : Int32)), (.ref b), (.int (2 : Int32)), (.ref a54), (.ref a54), (.ref a53), (.ref a53)])) ?_ fun _ zk => XS.iconst H56.here hx rfl (hb hby d_m4_330) zk
    refine Rn.pu (g' := (mkF m 332 #[rv b, iv 8] [(.int c2), (.int (2 : Int32)), (.ref a54), (.ref a54), (.ref a53), (.ref a53)])) ?_ (H56.cald ((((AB.keep K53 nin0).keep K54 nin0).keep K55 (ninS (adne (by omega)) nin0)).keep K56 (ninS (adne (by omega)) nin0)) (by decide) (v := .int c2) rfl (g := (mkF m 331 #[rv b, iv 8] [(.int (2 : Int32)), (.ref b), (.int (2 : Int32)), (.ref a54), (.ref a54), (.ref a53), (.ref a53)])) rfl rfl (hb hby d_m4_331))
    obtain ⟨T57, h57, H57, K57, A57, st57⟩ := H56.stC A56 (by decide) rfl (Or.inr (by omega)) (g := (mkF m 332 #[rv b, iv 8] [(.int c2), (.int (2 : Int32)), (.ref a54), (.ref a54), (.ref a53), (.ref a53)])) rfl rfl (hb hby d_m4_332)
    have zh57 := K57.1
    refine Rn.pu (g' := (mkF m 333 #[rv b, iv 8] [(.ref a54), (.ref a53), (.ref a53)])) ?_ st57
    refine Rn.pu (T' := T57) (g' := (mkF m 334 #[rv b, iv 8] [(.ref a54), (.ref a54), (.ref a53), (.ref a53)])) ?_ fun _ zk => XS.dup H57.here hx rfl (hb hby d_m4_333) rfl rfl zk
    refine Rn.pu (T' := T57) (g' := (mkF m 335 #[rv b, iv 8] [(.int (3 : Int32)), (.ref a54), (.ref a54), (.ref a53), (.ref a53)])) ?_ fun _ zk => XS.iconst H57.here hx rfl (hb hby d_m4_334) zk
    refine Rn.pu (T' := T57) (g' := (mkF m 336 #[rv b, iv 8] [(.ref b), (.int (3 : Int32)), (.ref a54), (.ref a54), (.ref a53), (.ref a53)])) ?_ fun _ zk => XS.aloadN H57.here hx rfl (hb hby d_m4_335) rfl rfl zk
    refine Rn.pu (T' := T57) (g' := (mkF m 337 #[rv b, iv 8] [(.int (3 : Int32)), (.ref b), (.int (3 : Int32)), (.ref a54), (.ref a54), (.ref a53), (.ref a53)])) ?_ fun _ zk => XS.iconst H57.here hx rfl (hb hby d_m4_336) zk
    refine Rn.pu (g' := (mkF m 338 #[rv b, iv 8] [(.int c3), (.int (3 : Int32)), (.ref a54), (.ref a54), (.ref a53), (.ref a53)])) ?_ (H57.cald (((((AB.keep K53 nin0).keep K54 nin0).keep K55 (ninS (adne (by omega)) nin0)).keep K56 (ninS (adne (by omega)) nin0)).keep K57 (ninS (adne (by omega)) nin0)) (by decide) (v := .int c3) rfl (g := (mkF m 337 #[rv b, iv 8] [(.int (3 : Int32)), (.ref b), (.int (3 : Int32)), (.ref a54), (.ref a54), (.ref a53), (.ref a53)])) rfl rfl (hb hby d_m4_337))
    obtain ⟨T58, h58, H58, K58, A58, st58⟩ := H57.stC A57 (by decide) rfl (Or.inr (by omega)) (g := (mkF m 338 #[rv b, iv 8] [(.int c3), (.int (3 : Int32)), (.ref a54), (.ref a54), (.ref a53), (.ref a53)])) rfl rfl (hb hby d_m4_338)
    have zh58 := K58.1
    refine Rn.pu (g' := (mkF m 339 #[rv b, iv 8] [(.ref a54), (.ref a53), (.ref a53)])) ?_ st58
    refine Rn.pu (T' := T58) (g' := (mkF m 340 #[rv b, iv 8] [(.ref a54), (.ref a54), (.ref a53), (.ref a53)])) ?_ fun _ zk => XS.dup H58.here hx rfl (hb hby d_m4_339) rfl rfl zk
    refine Rn.pu (T' := T58) (g' := (mkF m 341 #[rv b, iv 8] [(.int (4 : Int32)), (.ref a54), (.ref a54), (.ref a53), (.ref a53)])) ?_ fun _ zk => XS.iconst H58.here hx rfl (hb hby d_m4_340) zk
    refine Rn.pu (T' := T58) (g' := (mkF m 342 #[rv b, iv 8] [(.ref b), (.int (4 : Int32)), (.ref a54), (.ref a54), (.ref a53), (.ref a53)])) ?_ fun _ zk => XS.aloadN H58.here hx rfl (hb hby d_m4_341) rfl rfl zk
    refine Rn.pu (T' := T58) (g' := (mkF m 343 #[rv b, iv 8] [(.int (4 : Int32)), (.ref b), (.int (4 : Int32)), (.ref a54), (.ref a54), (.ref a53), (.ref a53)])) ?_ fun _ zk => XS.iconst H58.here hx rfl (hb hby d_m4_342) zk
    refine Rn.pu (g' := (mkF m 344 #[rv b, iv 8] [(.int c4), (.int (4 : Int32)), (.ref a54), (.ref a54), (.ref a53), (.ref a53)])) ?_ (H58.cald ((((((AB.keep K53 nin0).keep K54 nin0).keep K55 (ninS (adne (by omega)) nin0)).keep K56 (ninS (adne (by omega)) nin0)).keep K57 (ninS (adne (by omega)) nin0)).keep K58 (ninS (adne (by omega)) nin0)) (by decide) (v := .int c4) rfl (g := (mkF m 343 #[rv b, iv 8] [(.int (4 : Int32)), (.ref b), (.int (4 : Int32)), (.ref a54), (.ref a54), (.ref a53), (.ref a53)])) rfl rfl (hb hby d_m4_343))
    obtain ⟨T59, h59, H59, K59, A59, st59⟩ := H58.stC A58 (by decide) rfl (Or.inr (by omega)) (g := (mkF m 344 #[rv b, iv 8] [(.int c4), (.int (4 : Int32)), (.ref a54), (.ref a54), (.ref a53), (.ref a53)])) rfl rfl (hb hby d_m4_344)
    have zh59 := K59.1
    refine Rn.pu (g' := (mkF m 345 #[rv b, iv 8] [(.ref a54), (.ref a53), (.ref a53)])) ?_ st59
    refine Rn.pu (T' := T59) (g' := (mkF m 346 #[rv b, iv 8] [(.ref a54), (.ref a54), (.ref a53), (.ref a53)])) ?_ fun _ zk => XS.dup H59.here hx rfl (hb hby d_m4_345) rfl rfl zk
    refine Rn.pu (T' := T59) (g' := (mkF m 347 #[rv b, iv 8] [(.int (5 : Int32)), (.ref a54), (.ref a54), (.ref a53), (.ref a53)])) ?_ fun _ zk => XS.iconst H59.here hx rfl (hb hby d_m4_346) zk
    refine Rn.pu (T' := T59) (g' := (mkF m 348 #[rv b, iv 8] [(.ref b), (.int (5 : Int32)), (.ref a54), (.ref a54), (.ref a53), (.ref a53)])) ?_ fun _ zk => XS.aloadN H59.here hx rfl (hb hby d_m4_347) rfl rfl zk
    refine Rn.pu (T' := T59) (g' := (mkF m 349 #[rv b, iv 8] [(.int (5 : Int32)), (.ref b), (.int (5 : Int32)), (.ref a54), (.ref a54), (.ref a53), (.ref a53)])) ?_ fun _ zk => XS.iconst H59.here hx rfl (hb hby d_m4_348) zk
    refine Rn.pu (g' := (mkF m 350 #[rv b, iv 8] [(.int c5), (.int (5 : Int32)), (.ref a54), (.ref a54), (.ref a53), (.ref a53)])) ?_ (H59.cald (((((((AB.keep K53 nin0).keep K54 nin0).keep K55 (ninS (adne (by omega)) nin0)).keep K56 (ninS (adne (by omega)) nin0)).keep K57 (ninS (adne (by omega)) nin0)).keep K58 (ninS (adne (by omega)) nin0)).keep K59 (ninS (adne (by omega)) nin0)) (by decide) (v := .int c5) rfl (g := (mkF m 349 #[rv b, iv 8] [(.int (5 : Int32)), (.ref b), (.int (5 : Int32)), (.ref a54), (.ref a54), (.ref a53), (.ref a53)])) rfl rfl (hb hby d_m4_349))
    obtain ⟨T60, h60, H60, K60, A60, st60⟩ := H59.stC A59 (by decide) rfl (Or.inr (by omega)) (g := (mkF m 350 #[rv b, iv 8] [(.int c5), (.int (5 : Int32)), (.ref a54), (.ref a54), (.ref a53), (.ref a53)])) rfl rfl (hb hby d_m4_350)
    have zh60 := K60.1
    refine Rn.pu (g' := (mkF m 351 #[rv b, iv 8] [(.ref a54), (.ref a53), (.ref a53)])) ?_ st60
    refine Rn.pu (T' := T60) (g' := (mkF m 352 #[rv b, iv 8] [(.ref a54), (.ref a54), (.ref a53), (.ref a53)])) ?_ fun _ zk => XS.dup H60.here hx rfl (hb hby d_m4_351) rfl rfl zk
    refine Rn.pu (T' := T60) (g' := (mkF m 354 #[rv b, iv 8] [(.int (6 : Int32)), (.ref a54), (.ref a54), (.ref a53), (.ref a53)])) ?_ fun _ zk => XS.bipush H60.here hx rfl (hb hby d_m4_352) zk
    refine Rn.pu (T' := T60) (g' := (mkF m 355 #[rv b, iv 8] [(.ref b), (.int (6 : Int32)), (.ref a54), (.ref a54), (.ref a53), (.ref a53)])) ?_ fun _ zk => XS.aloadN H60.here hx rfl (hb hby d_m4_354) rfl rfl zk
    refine Rn.pu (T' := T60) (g' := (mkF m 357 #[rv b, iv 8] [(.int (6 : Int32)), (.ref b), (.int (6 : Int32)), (.ref a54), (.ref a54), (.ref a53), (.ref a53)])) ?_ fun _ zk => XS.bipush H60.here hx rfl (hb hby d_m4_355) zk
    refine Rn.pu (g' := (mkF m 358 #[rv b, iv 8] [(.int c6), (.int (6 : Int32)), (.ref a54), (.ref a54), (.ref a53), (.ref a53)])) ?_ (H60.cald ((((((((AB.keep K53 nin0).keep K54 nin0).keep K55 (ninS (adne (by omega)) nin0)).keep K56 (ninS (adne (by omega)) nin0)).keep K57 (ninS (adne (by omega)) nin0)).keep K58 (ninS (adne (by omega)) nin0)).keep K59 (ninS (adne (by omega)) nin0)).keep K60 (ninS (adne (by omega)) nin0)) (by decide) (v := .int c6) rfl (g := (mkF m 357 #[rv b, iv 8] [(.int (6 : Int32)), (.ref b), (.int (6 : Int32)), (.ref a54), (.ref a54), (.ref a53), (.ref a53)])) rfl rfl (hb hby d_m4_357))
    obtain ⟨T61, h61, H61, K61, A61, st61⟩ := H60.stC A60 (by decide) rfl (Or.inr (by omega)) (g := (mkF m 358 #[rv b, iv 8] [(.int c6), (.int (6 : Int32)), (.ref a54), (.ref a54), (.ref a53), (.ref a53)])) rfl rfl (hb hby d_m4_358)
    have zh61 := K61.1
    refine Rn.pu (g' := (mkF m 359 #[rv b, iv 8] [(.ref a54), (.ref a53), (.ref a53)])) ?_ st61
    refine Rn.pu (T' := T61) (g' := (mkF m 360 #[rv b, iv 8] [(.ref a54), (.ref a54), (.ref a53), (.ref a53)])) ?_ fun _ zk => XS.dup H61.here hx rfl (hb hby d_m4_359) rfl rfl zk
    refine Rn.pu (T' := T61) (g' := (mkF m 362 #[rv b, iv 8] [(.int (7 : Int32)), (.ref a54), (.ref a54), (.ref a53), (.ref a53)])) ?_ fun _ zk => XS.bipush H61.here hx rfl (hb hby d_m4_360) zk
    refine Rn.pu (T' := T61) (g' := (mkF m 363 #[rv b, iv 8] [(.ref b), (.int (7 : Int32)), (.ref a54), (.ref a54), (.ref a53), (.ref a53)])) ?_ fun _ zk => XS.aloadN H61.here hx rfl (hb hby d_m4_362) rfl rfl zk
    refine Rn.pu (T' := T61) (g' := (mkF m 365 #[rv b, iv 8] [(.int (7 : Int32)), (.ref b), (.int (7 : Int32)), (.ref a54), (.ref a54), (.ref a53), (.ref a53)])) ?_ fun _ zk => XS.bipush H61.here hx rfl (hb hby d_m4_363) zk
    refine Rn.pu (g' := (mkF m 366 #[rv b, iv 8] [(.int c7), (.int (7 : Int32)), (.ref a54), (.ref a54), (.ref a53), (.ref a53)])) ?_ (H61.cald (((((((((AB.keep K53 nin0).keep K54 nin0).keep K55 (ninS (adne (by omega)) nin0)).keep K56 (ninS (adne (by omega)) nin0)).keep K57 (ninS (adne (by omega)) nin0)).keep K58 (ninS (adne (by omega)) nin0)).keep K59 (ninS (adne (by omega)) nin0)).keep K60 (ninS (adne (by omega)) nin0)).keep K61 (ninS (adne (by omega)) nin0)) (by decide) (v := .int c7) rfl (g := (mkF m 365 #[rv b, iv 8] [(.int (7 : Int32)), (.ref b), (.int (7 : Int32)), (.ref a54), (.ref a54), (.ref a53), (.ref a53)])) rfl rfl (hb hby d_m4_365))
    obtain ⟨T62, h62, H62, K62, A62, st62⟩ := H61.stC A61 (by decide) rfl (Or.inr (by omega)) (g := (mkF m 366 #[rv b, iv 8] [(.int c7), (.int (7 : Int32)), (.ref a54), (.ref a54), (.ref a53), (.ref a53)])) rfl rfl (hb hby d_m4_366)
    have zh62 := K62.1
    refine Rn.pu (g' := (mkF m 367 #[rv b, iv 8] [(.ref a54), (.ref a53), (.ref a53)])) ?_ st62
    obtain ⟨_, T63, h63, H63, ⟨rfl, t63, et63, lt63, S63⟩, K63, st63⟩ := H62.callI rfl (wd hw 52 rfl) (wd hw 53 rfl) (wd hw 54 rfl) (by decide) (payNew (cs := [(nar .char c0), (nar .char c1), (nar .char c2), (nar .char c3), (nar .char c4), (nar .char c5), (nar .char c6), (nar .char c7)]) (n := 8) (W := 1) (hws_new hw) (wd hw 2 rfl) (((((((((E53.keep K54).keep K55).keep K56).keep K57).keep K58).keep K59).keep K60).keep K61).keep K62) (((((((((F53_value.keep K54 nin0).keep K55 (ninS (adne (by omega)) nin0)).keep K56 (ninS (adne (by omega)) nin0)).keep K57 (ninS (adne (by omega)) nin0)).keep K58 (ninS (adne (by omega)) nin0)).keep K59 (ninS (adne (by omega)) nin0)).keep K60 (ninS (adne (by omega)) nin0)).keep K61 (ninS (adne (by omega)) nin0)).keep K62 (ninS (adne (by omega)) nin0)) (((((((((F53_coder.keep K54 nin0).keep K55 (ninS (adne (by omega)) nin0)).keep K56 (ninS (adne (by omega)) nin0)).keep K57 (ninS (adne (by omega)) nin0)).keep K58 (ninS (adne (by omega)) nin0)).keep K59 (ninS (adne (by omega)) nin0)).keep K60 (ninS (adne (by omega)) nin0)).keep K61 (ninS (adne (by omega)) nin0)).keep K62 (ninS (adne (by omega)) nin0)) A62 (SC0.ext H62.old) hz0 rfl rfl (by decide) (by decide) (mem2 (lat_nar qc0) (mem2 (lat_nar qc1) (mem2 (lat_nar qc2) (mem2 (lat_nar qc3) (mem2 (lat_nar qc4) (mem2 (lat_nar qc5) (mem2 (lat_nar qc6) (mem2 (lat_nar qc7) mem0)))))))) (by decide) (by decide)) (g := (mkF m 367 #[rv b, iv 8] [(.ref a54), (.ref a53), (.ref a53)])) rfl (by rw [hml]; rfl) (argsL := [(.ref a54)]) (rest := [(.ref a53)]) (lenOf pd__AC_V rfl) rfl rfl (Nat.le_of_eq rfl) (hb hby d_m4_367) (by decide) (by decide) (allS (Or.inr (by omega)) all0)
    have zh63 := K63.1
    have l63 := natlt (S63).lt
    refine Rn.pu (g' := (mkF m 370 #[rv b, iv 8] [(.ref a53)])) ?_ st63
    have SX := S63
    have lSX := natlt (SX).lt
    have mSX := natlt (SX).ltt
    exact H63.retA ends_W hlk hret rfl rfl rfl (hb hby d_m4_370) (by decide) (by decide) (fun _ q => nomatch q) ⟨(fun z => ⟨z.1, z.2.1⟩) (H63.vm (fun U vm1 hW q => EG.stab hP hW q)), a53, t63, [(nar .char c0), (nar .char c1), (nar .char c2), (nar .char c3), (nar .char c4), (nar .char c5), (nar .char c6), (nar .char c7)], rfl, SX, by omega, by omega, by omega⟩
  ·
    refine Rn.pu (T' := T0) (g' := (mkF m 1 #[rv b, iv 9] [(.int (9 : Int32))])) ?_ fun _ zk => XS.iloadN H0.here hx rfl (hb hby d_m4_0) rfl zk
    refine Rn.pu (T' := T0) (g' := (mkF m 15 #[rv b, iv 9] [])) ?_ fun _ zk => XS.ifYes H0.here hx rfl (pc0 := 1) (pc' := 15) rfl (hb hby d_m4_1) rfl (z_ne_t (by decide)) (by decide) (by decide) zk
    refine Rn.pu (T' := T0) (g' := (mkF m 16 #[rv b, iv 9] [(.int (9 : Int32))])) ?_ fun _ zk => XS.iloadN H0.here hx rfl (hb hby d_m4_15) rfl zk
    refine Rn.pu (T' := T0) (g' := (mkF m 17 #[rv b, iv 9] [(.int (1 : Int32)), (.int (9 : Int32))])) ?_ fun _ zk => XS.iconst H0.here hx rfl (hb hby d_m4_16) zk
    refine Rn.pu (T' := T0) (g' := (mkF m 37 #[rv b, iv 9] [])) ?_ fun _ zk => XS.icmpYes H0.here hx rfl (pc0 := 17) (pc' := 37) rfl (hb hby d_m4_17) rfl (c_ne_t (by decide)) (by decide) (by decide) zk
    refine Rn.pu (T' := T0) (g' := (mkF m 38 #[rv b, iv 9] [(.int (9 : Int32))])) ?_ fun _ zk => XS.iloadN H0.here hx rfl (hb hby d_m4_37) rfl zk
    refine Rn.pu (T' := T0) (g' := (mkF m 39 #[rv b, iv 9] [(.int (2 : Int32)), (.int (9 : Int32))])) ?_ fun _ zk => XS.iconst H0.here hx rfl (hb hby d_m4_38) zk
    refine Rn.pu (T' := T0) (g' := (mkF m 65 #[rv b, iv 9] [])) ?_ fun _ zk => XS.icmpYes H0.here hx rfl (pc0 := 39) (pc' := 65) rfl (hb hby d_m4_39) rfl (c_ne_t (by decide)) (by decide) (by decide) zk
    refine Rn.pu (T' := T0) (g' := (mkF m 66 #[rv b, iv 9] [(.int (9 : Int32))])) ?_ fun _ zk => XS.iloadN H0.here hx rfl (hb hby d_m4_65) rfl zk
    refine Rn.pu (T' := T0) (g' := (mkF m 67 #[rv b, iv 9] [(.int (3 : Int32)), (.int (9 : Int32))])) ?_ fun _ zk => XS.iconst H0.here hx rfl (hb hby d_m4_66) zk
    refine Rn.pu (T' := T0) (g' := (mkF m 99 #[rv b, iv 9] [])) ?_ fun _ zk => XS.icmpYes H0.here hx rfl (pc0 := 67) (pc' := 99) rfl (hb hby d_m4_67) rfl (c_ne_t (by decide)) (by decide) (by decide) zk
    refine Rn.pu (T' := T0) (g' := (mkF m 100 #[rv b, iv 9] [(.int (9 : Int32))])) ?_ fun _ zk => XS.iloadN H0.here hx rfl (hb hby d_m4_99) rfl zk
    refine Rn.pu (T' := T0) (g' := (mkF m 101 #[rv b, iv 9] [(.int (4 : Int32)), (.int (9 : Int32))])) ?_ fun _ zk => XS.iconst H0.here hx rfl (hb hby d_m4_100) zk
    refine Rn.pu (T' := T0) (g' := (mkF m 139 #[rv b, iv 9] [])) ?_ fun _ zk => XS.icmpYes H0.here hx rfl (pc0 := 101) (pc' := 139) rfl (hb hby d_m4_101) rfl (c_ne_t (by decide)) (by decide) (by decide) zk
    refine Rn.pu (T' := T0) (g' := (mkF m 140 #[rv b, iv 9] [(.int (9 : Int32))])) ?_ fun _ zk => XS.iloadN H0.here hx rfl (hb hby d_m4_139) rfl zk
    refine Rn.pu (T' := T0) (g' := (mkF m 141 #[rv b, iv 9] [(.int (5 : Int32)), (.int (9 : Int32))])) ?_ fun _ zk => XS.iconst H0.here hx rfl (hb hby d_m4_140) zk
    refine Rn.pu (T' := T0) (g' := (mkF m 185 #[rv b, iv 9] [])) ?_ fun _ zk => XS.icmpYes H0.here hx rfl (pc0 := 141) (pc' := 185) rfl (hb hby d_m4_141) rfl (c_ne_t (by decide)) (by decide) (by decide) zk
    refine Rn.pu (T' := T0) (g' := (mkF m 186 #[rv b, iv 9] [(.int (9 : Int32))])) ?_ fun _ zk => XS.iloadN H0.here hx rfl (hb hby d_m4_185) rfl zk
    refine Rn.pu (T' := T0) (g' := (mkF m 188 #[rv b, iv 9] [(.int (6 : Int32)), (.int (9 : Int32))])) ?_ fun _ zk => XS.bipush H0.here hx rfl (hb hby d_m4_186) zk
    refine Rn.pu (T' := T0) (g' := (mkF m 239 #[rv b, iv 9] [])) ?_ fun _ zk => XS.icmpYes H0.here hx rfl (pc0 := 188) (pc' := 239) rfl (hb hby d_m4_188) rfl (c_ne_t (by decide)) (by decide) (by decide) zk
    refine Rn.pu (T' := T0) (g' := (mkF m 240 #[rv b, iv 9] [(.int (9 : Int32))])) ?_ fun _ zk => XS.iloadN H0.here hx rfl (hb hby d_m4_239) rfl zk
    refine Rn.pu (T' := T0) (g' := (mkF m 242 #[rv b, iv 9] [(.int (7 : Int32)), (.int (9 : Int32))])) ?_ fun _ zk => XS.bipush H0.here hx rfl (hb hby d_m4_240) zk
    refine Rn.pu (T' := T0) (g' := (mkF m 301 #[rv b, iv 9] [])) ?_ fun _ zk => XS.icmpYes H0.here hx rfl (pc0 := 242) (pc' := 301) rfl (hb hby d_m4_242) rfl (c_ne_t (by decide)) (by decide) (by decide) zk
    refine Rn.pu (T' := T0) (g' := (mkF m 302 #[rv b, iv 9] [(.int (9 : Int32))])) ?_ fun _ zk => XS.iloadN H0.here hx rfl (hb hby d_m4_301) rfl zk
    refine Rn.pu (T' := T0) (g' := (mkF m 304 #[rv b, iv 9] [(.int (8 : Int32)), (.int (9 : Int32))])) ?_ fun _ zk => XS.bipush H0.here hx rfl (hb hby d_m4_302) zk
    refine Rn.pu (T' := T0) (g' := (mkF m 371 #[rv b, iv 9] [])) ?_ fun _ zk => XS.icmpYes H0.here hx rfl (pc0 := 304) (pc' := 371) rfl (hb hby d_m4_304) rfl (c_ne_t (by decide)) (by decide) (by decide) zk
    obtain ⟨a64, T64, h64, e64, H64, K64, E64, D64, st64⟩ := H0.newO (wd hw 51 rfl) (wd hw 2 rfl) (wd hw 1 rfl) (g := (mkF m 371 #[rv b, iv 9] [])) rfl (hb hby d_m4_371) (by decide) (by decide)
    have zh64 := K64.1
    have l64 := natlt (E64).lt
    have g64 : s.heap.size ≤ a64 := by omega
    have F64_value : Fld Z h64 a64 "java/lang/String" "value" "[B" .null := D64 (Or.inr (wd hw 4 rfl)) (ty := (.array .byte)) (by decide)
    have F64_coder : Fld Z h64 a64 "java/lang/String" "coder" "B" (.int (0 : Int32)) := D64 (Or.inr (wd hw 5 rfl)) (ty := .byte) (by decide)
    refine Rn.pu (g' := (mkF m 374 #[rv b, iv 9] [(.ref a64)])) ?_ st64
    refine Rn.pu (T' := T64) (g' := (mkF m 375 #[rv b, iv 9] [(.ref a64), (.ref a64)])) ?_ fun _ zk => XS.dup H64.here hx rfl (hb hby d_m4_374) rfl rfl zk
    refine Rn.pu (T' := T64) (g' := (mkF m 377 #[rv b, iv 9] [(.int (9 : Int32)), (.ref a64), (.ref a64)])) ?_ fun _ zk => XS.bipush H64.here hx rfl (hb hby d_m4_375) zk
    obtain ⟨a65, k65, T65, h65, e65, H65, K65, A65, st65⟩ := H64.newP (aty := .char) (wd hw 21 rfl) (g := (mkF m 377 #[rv b, iv 9] [(.int (9 : Int32)), (.ref a64), (.ref a64)])) rfl (hb hby d_m4_377) rfl (by decide) (cap := 9) (by decide) (by decide) (by decide) (by decide)
    have zh65 := K65.1
    have l65 := natlt (A65).lt
    have g65 : s.heap.size ≤ a65 := by omega
    refine Rn.pu (g' := (mkF m 379 #[rv b, iv 9] [(.ref a65), (.ref a64), (.ref a64)])) ?_ st65
    refine Rn.pu (T' := T65) (g' := (mkF m 380 #[rv b, iv 9] [(.ref a65), (.ref a65), (.ref a64), (.ref a64)])) ?_ fun _ zk => XS.dup H65.here hx rfl (hb hby d_m4_379) rfl rfl zk
    refine Rn.pu (T' := T65) (g' := (mkF m 381 #[rv b, iv 9] [(.int (0 : Int32)), (.ref a65), (.ref a65), (.ref a64), (.ref a64)])) ?_ fun _ zk => XS.iconst H65.here hx rfl (hb hby d_m4_380) zk
    refine Rn.pu (T' := T65) (g' := (mkF m 382 #[rv b, iv 9] [(.ref b), (.int (0 : Int32)), (.ref a65), (.ref a65), (.ref a64), (.ref a64)])) ?_ fun _ zk => XS.aloadN H65.here hx rfl (hb hby d_m4_381) rfl rfl zk
    refine Rn.pu (T' := T65) (g' := (mkF m 383 #[rv b, iv 9] [(.int (0 : Int32)), (.ref b), (.int (0 : Int32)), (.ref a65), (.ref a65), (.ref a64), (.ref a64)])) ?_ fun _ zk => XS.iconst H65.here hx rfl (hb hby d_m4_382) zk
    refine Rn.pu (g' := (mkF m 384 #[rv b, iv 9] [(.int c0), (.int (0 : Int32)), (.ref a65), (.ref a65), (.ref a64), (.ref a64)])) ?_ (H65.cald ((AB.keep K64 nin0).keep K65 nin0) (by decide) (v := .int c0) rfl (g := (mkF m 383 #[rv b, iv 9] [(.int (0 : Int32)), (.ref b), (.int (0 : Int32)), (.ref a65), (.ref a65), (.ref a64), (.ref a64)])) rfl rfl (hb hby d_m4_383))
    obtain ⟨T66, h66, H66, K66, A66, st66⟩ := H65.stC A65 (by decide) rfl (Or.inr (by omega)) (g := (mkF m 384 #[rv b, iv 9] [(.int c0), (.int (0 : Int32)), (.ref a65), (.ref a65), (.ref a64), (.ref a64)])) rfl rfl (hb hby d_m4_384)
    have zh66 := K66.1
    refine Rn.pu (g' := (mkF m 385 #[rv b, iv 9] [(.ref a65), (.ref a64), (.ref a64)])) ?_ st66
    refine Rn.pu (T' := T66) (g' := (mkF m 386 #[rv b, iv 9] [(.ref a65), (.ref a65), (.ref a64), (.ref a64)])) ?_ fun _ zk => XS.dup H66.here hx rfl (hb hby d_m4_385) rfl rfl zk
    refine Rn.pu (T' := T66) (g' := (mkF m 387 #[rv b, iv 9] [(.int (1 : Int32)), (.ref a65), (.ref a65), (.ref a64), (.ref a64)])) ?_ fun _ zk => XS.iconst H66.here hx rfl (hb hby d_m4_386) zk
    refine Rn.pu (T' := T66) (g' := (mkF m 388 #[rv b, iv 9] [(.ref b), (.int (1 : Int32)), (.ref a65), (.ref a65), (.ref a64), (.ref a64)])) ?_ fun _ zk => XS.aloadN H66.here hx rfl (hb hby d_m4_387) rfl rfl zk
    refine Rn.pu (T' := T66) (g' := (mkF m 389 #[rv b, iv 9] [(.int (1 : Int32)), (.ref b), (.int (1 : Int32)), (.ref a65), (.ref a65), (.ref a64), (.ref a64)])) ?_ fun _ zk => XS.iconst H66.here hx rfl (hb hby d_m4_388) zk
    refine Rn.pu (g' := (mkF m 390 #[rv b, iv 9] [(.int c1), (.int (1 : Int32)), (.ref a65), (.ref a65), (.ref a64), (.ref a64)])) ?_ (H66.cald (((AB.keep K64 nin0).keep K65 nin0).keep K66 (ninS (adne (by omega)) nin0)) (by decide) (v := .int c1) rfl (g := (mkF m 389 #[rv b, iv 9] [(.int (1 : Int32)), (.ref b), (.int (1 : Int32)), (.ref a65), (.ref a65), (.ref a64), (.ref a64)])) rfl rfl (hb hby d_m4_389))
    obtain ⟨T67, h67, H67, K67, A67, st67⟩ := H66.stC A66 (by decide) rfl (Or.inr (by omega)) (g := (mkF m 390 #[rv b, iv 9] [(.int c1), (.int (1 : Int32)), (.ref a65), (.ref a65), (.ref a64), (.ref a64)])) rfl rfl (hb hby d_m4_390)
    have zh67 := K67.1
    refine Rn.pu (g' := (mkF m 391 #[rv b, iv 9] [(.ref a65), (.ref a64), (.ref a64)])) ?_ st67
    refine Rn.pu (T' := T67) (g' := (mkF m 392 #[rv b, iv 9] [(.ref a65), (.ref a65), (.ref a64), (.ref a64)])) ?_ fun _ zk => XS.dup H67.here hx rfl (hb hby d_m4_391) rfl rfl zk
    refine Rn.pu (T' := T67) (g' := (mkF m 393 #[rv b, iv 9] [(.int (2 : Int32)), (.ref a65), (.ref a65), (.ref a64), (.ref a64)])) ?_ fun _ zk => XS.iconst H67.here hx rfl (hb hby d_m4_392) zk
    refine Rn.pu (T' := T67) (g' := (mkF m 394 #[rv b, iv 9] [(.ref b), (.int (2 : Int32)), (.ref a65), (.ref a65), (.ref a64), (.ref a64)])) ?_ fun _ zk => XS.aloadN H67.here hx rfl (hb hby d_m4_393) rfl rfl zk
    refine Rn.pu (T' := T67) (g' := (mkF m 395 #[rv b, iv 9] [(.int (2 : Int32)), (.ref b), (.int (2 : Int32)), (.ref a65), (.ref a65), (.ref a64), (.ref a64)])) ?_ fun _ zk => XS.iconst H67.here hx rfl (hb hby d_m4_394) zk
    refine Rn.pu (g' := (mkF m 396 #[rv b, iv 9] [(.int c2), (.int (2 : Int32)), (.ref a65), (.ref a65), (.ref a64), (.ref a64)])) ?_ (H67.cald ((((AB.keep K64 nin0).keep K65 nin0).keep K66 (ninS (adne (by omega)) nin0)).keep K67 (ninS (adne (by omega)) nin0)) (by decide) (v := .int c2) rfl (g := (mkF m 395 #[rv b, iv 9] [(.int (2 : Int32)), (.ref b), (.int (2 : Int32)), (.ref a65), (.ref a65), (.ref a64), (.ref a64)])) rfl rfl (hb hby d_m4_395))
    obtain ⟨T68, h68, H68, K68, A68, st68⟩ := H67.stC A67 (by decide) rfl (Or.inr (by omega)) (g := (mkF m 396 #[rv b, iv 9] [(.int c2), (.int (2 : Int32)), (.ref a65), (.ref a65), (.ref a64), (.ref a64)])) rfl rfl (hb hby d_m4_396)
    have zh68 := K68.1
    refine Rn.pu (g' := (mkF m 397 #[rv b, iv 9] [(.ref a65), (.ref a64), (.ref a64)])) ?_ st68
    refine Rn.pu (T' := T68) (g' := (mkF m 398 #[rv b, iv 9] [(.ref a65), (.ref a65), (.ref a64), (.ref a64)])) ?_ fun _ zk => XS.dup H68.here hx rfl (hb hby d_m4_397) rfl rfl zk
    refine Rn.pu (T' := T68) (g' := (mkF m 399 #[rv b, iv 9] [(.int (3 : Int32)), (.ref a65), (.ref a65), (.ref a64), (.ref a64)])) ?_ fun _ zk => XS.iconst H68.here hx rfl (hb hby d_m4_398) zk
    refine Rn.pu (T' := T68) (g' := (mkF m 400 #[rv b, iv 9] [(.ref b), (.int (3 : Int32)), (.ref a65), (.ref a65), (.ref a64), (.ref a64)])) ?_ fun _ zk => XS.aloadN H68.here hx rfl (hb hby d_m4_399) rfl rfl zk
    refine Rn.pu (T' := T68) (g' := (mkF m 401 #[rv b, iv 9] [(.int (3 : Int32)), (.ref b), (.int (3 : Int32)), (.ref a65), (.ref a65), (.ref a64), (.ref a64)])) ?_ fun _ zk => XS.iconst H68.here hx rfl (hb hby d_m4_400) zk
    refine Rn.pu (g' := (mkF m 402 #[rv b, iv 9] [(.int c3), (.int (3 : Int32)), (.ref a65), (.ref a65), (.ref a64), (.ref a64)])) ?_ (H68.cald (((((AB.keep K64 nin0).keep K65 nin0).keep K66 (ninS (adne (by omega)) nin0)).keep K67 (ninS (adne (by omega)) nin0)).keep K68 (ninS (adne (by omega)) nin0)) (by decide) (v := .int c3) rfl (g := (mkF m 401 #[rv b, iv 9] [(.int (3 : Int32)), (.ref b), (.int (3 : Int32)), (.ref a65), (.ref a65), (.ref a64), (.ref a64)])) rfl rfl (hb hby d_m4_401))
    obtain ⟨T69, h69, H69, K69, A69, st69⟩ := H68.stC A68 (by decide) rfl (Or.inr (by omega)) (g := (mkF m 402 #[rv b, iv 9] [(.int c3), (.int (3 : Int32)), (.ref a65), (.ref a65), (.ref a64), (.ref a64)])) rfl rfl (hb hby d_m4_402)
    have zh69 := K69.1
    refine Rn.pu (g' := (mkF m 403 #[rv b, iv 9] [(.ref a65), (.ref a64), (.ref a64)])) ?_ st69
    refine Rn.pu (T' := T69) (g' := (mkF m 404 #[rv b, iv 9] [(.ref a65), (.ref a65), (.ref a64), (.ref a64)])) ?_ fun _ zk => XS.dup H69.here hx rfl (hb hby d_m4_403) rfl rfl zk
    refine Rn.pu (T' := T69) (g' := (mkF m 405 #[rv b, iv 9] [(.int (4 : Int32)), (.ref a65), (.ref a65), (.ref a64), (.ref a64)])) ?_ fun _ zk => XS.iconst H69.here hx rfl (hb hby d_m4_404) zk
    refine Rn.pu (T' := T69) (g' := (mkF m 406 #[rv b, iv 9] [(.ref b), (.int (4 : Int32)), (.ref a65), (.ref a65), (.ref a64), (.ref a64)])) ?_ fun _ zk => XS.aloadN H69.here hx rfl (hb hby d_m4_405) rfl rfl zk
    refine Rn.pu (T' := T69) (g' := (mkF m 407 #[rv b, iv 9] [(.int (4 : Int32)), (.ref b), (.int (4 : Int32)), (.ref a65), (.ref a65), (.ref a64), (.ref a64)])) ?_ fun _ zk => XS.iconst H69.here hx rfl (hb hby d_m4_406) zk
    refine Rn.pu (g' := (mkF m 408 #[rv b, iv 9] [(.int c4), (.int (4 : Int32)), (.ref a65), (.ref a65), (.ref a64), (.ref a64)])) ?_ (H69.cald ((((((AB.keep K64 nin0).keep K65 nin0).keep K66 (ninS (adne (by omega)) nin0)).keep K67 (ninS (adne (by omega)) nin0)).keep K68 (ninS (adne (by omega)) nin0)).keep K69 (ninS (adne (by omega)) nin0)) (by decide) (v := .int c4) rfl (g := (mkF m 407 #[rv b, iv 9] [(.int (4 : Int32)), (.ref b), (.int (4 : Int32)), (.ref a65), (.ref a65), (.ref a64), (.ref a64)])) rfl rfl (hb hby d_m4_407))
    obtain ⟨T70, h70, H70, K70, A70, st70⟩ := H69.stC A69 (by decide) rfl (Or.inr (by omega)) (g := (mkF m 408 #[rv b, iv 9] [(.int c4), (.int (4 : Int32)), (.ref a65), (.ref a65), (.ref a64), (.ref a64)])) rfl rfl (hb hby d_m4_408)
    have zh70 := K70.1
    refine Rn.pu (g' := (mkF m 409 #[rv b, iv 9] [(.ref a65), (.ref a64), (.ref a64)])) ?_ st70
    refine Rn.pu (T' := T70) (g' := (mkF m 410 #[rv b, iv 9] [(.ref a65), (.ref a65), (.ref a64), (.ref a64)])) ?_ fun _ zk => XS.dup H70.here hx rfl (hb hby d_m4_409) rfl rfl zk
    refine Rn.pu (T' := T70) (g' := (mkF m 411 #[rv b, iv 9] [(.int (5 : Int32)), (.ref a65), (.ref a65), (.ref a64), (.ref a64)])) ?_ fun _ zk => XS.iconst H70.here hx rfl (hb hby d_m4_410) zk
    refine Rn.pu (T' := T70) (g' := (mkF m 412 #[rv b, iv 9] [(.ref b), (.int (5 : Int32)), (.ref a65), (.ref a65), (.ref a64), (.ref a64)])) ?_ fun _ zk => XS.aloadN H70.here hx rfl (hb hby d_m4_411) rfl rfl zk
    refine Rn.pu (T' := T70) (g' := (mkF m 413 #[rv b, iv 9] [(.int (5 : Int32)), (.ref b), (.int (5 : Int32)), (.ref a65), (.ref a65), (.ref a64), (.ref a64)])) ?_ fun _ zk => XS.iconst H70.here hx rfl (hb hby d_m4_412) zk
    refine Rn.pu (g' := (mkF m 414 #[rv b, iv 9] [(.int c5), (.int (5 : Int32)), (.ref a65), (.ref a65), (.ref a64), (.ref a64)])) ?_ (H70.cald (((((((AB.keep K64 nin0).keep K65 nin0).keep K66 (ninS (adne (by omega)) nin0)).keep K67 (ninS (adne (by omega)) nin0)).keep K68 (ninS (adne (by omega)) nin0)).keep K69 (ninS (adne (by omega)) nin0)).keep K70 (ninS (adne (by omega)) nin0)) (by decide) (v := .int c5) rfl (g := (mkF m 413 #[rv b, iv 9] [(.int (5 : Int32)), (.ref b), (.int (5 : Int32)), (.ref a65), (.ref a65), (.ref a64), (.ref a64)])) rfl rfl (hb hby d_m4_413))
    obtain ⟨T71, h71, H71, K71, A71, st71⟩ := H70.stC A70 (by decide) rfl (Or.inr (by omega)) (g := (mkF m 414 #[rv b, iv 9] [(.int c5), (.int (5 : Int32)), (.ref a65), (.ref a65), (.ref a64), (.ref a64)])) rfl rfl (hb hby d_m4_414)
    have zh71 := K71.1
    refine Rn.pu (g' := (mkF m 415 #[rv b, iv 9] [(.ref a65), (.ref a64), (.ref a64)])) ?_ st71
    refine Rn.pu (T' := T71) (g' := (mkF m 416 #[rv b, iv 9] [(.ref a65), (.ref a65), (.ref a64), (.ref a64)])) ?_ fun _ zk => XS.dup H71.here hx rfl (hb hby d_m4_415) rfl rfl zk
    refine Rn.pu (T' := T71) (g' := (mkF m 418 #[rv b, iv 9] [(.int (6 : Int32)), (.ref a65), (.ref a65), (.ref a64), (.ref a64)])) ?_ fun _ zk => XS.bipush H71.here hx rfl (hb hby d_m4_416) zk
    refine Rn.pu (T' := T71) (g' := (mkF m 419 #[rv b, iv 9] [(.ref b), (.int (6 : Int32)), (.ref a65), (.ref a65), (.ref a64), (.ref a64)])) ?_ fun _ zk => XS.aloadN H71.here hx rfl (hb hby d_m4_418) rfl rfl zk
    refine Rn.pu (T' := T71) (g' := (mkF m 421 #[rv b, iv 9] [(.int (6 : Int32)), (.ref b), (.int (6 : Int32)), (.ref a65), (.ref a65), (.ref a64), (.ref a64)])) ?_ fun _ zk => XS.bipush H71.here hx rfl (hb hby d_m4_419) zk
    refine Rn.pu (g' := (mkF m 422 #[rv b, iv 9] [(.int c6), (.int (6 : Int32)), (.ref a65), (.ref a65), (.ref a64), (.ref a64)])) ?_ (H71.cald ((((((((AB.keep K64 nin0).keep K65 nin0).keep K66 (ninS (adne (by omega)) nin0)).keep K67 (ninS (adne (by omega)) nin0)).keep K68 (ninS (adne (by omega)) nin0)).keep K69 (ninS (adne (by omega)) nin0)).keep K70 (ninS (adne (by omega)) nin0)).keep K71 (ninS (adne (by omega)) nin0)) (by decide) (v := .int c6) rfl (g := (mkF m 421 #[rv b, iv 9] [(.int (6 : Int32)), (.ref b), (.int (6 : Int32)), (.ref a65), (.ref a65), (.ref a64), (.ref a64)])) rfl rfl (hb hby d_m4_421))
    obtain ⟨T72, h72, H72, K72, A72, st72⟩ := H71.stC A71 (by decide) rfl (Or.inr (by omega)) (g := (mkF m 422 #[rv b, iv 9] [(.int c6), (.int (6 : Int32)), (.ref a65), (.ref a65), (.ref a64), (.ref a64)])) rfl rfl (hb hby d_m4_422)
    have zh72 := K72.1
    refine Rn.pu (g' := (mkF m 423 #[rv b, iv 9] [(.ref a65), (.ref a64), (.ref a64)])) ?_ st72
    refine Rn.pu (T' := T72) (g' := (mkF m 424 #[rv b, iv 9] [(.ref a65), (.ref a65), (.ref a64), (.ref a64)])) ?_ fun _ zk => XS.dup H72.here hx rfl (hb hby d_m4_423) rfl rfl zk
    refine Rn.pu (T' := T72) (g' := (mkF m 426 #[rv b, iv 9] [(.int (7 : Int32)), (.ref a65), (.ref a65), (.ref a64), (.ref a64)])) ?_ fun _ zk => XS.bipush H72.here hx rfl (hb hby d_m4_424) zk
    refine Rn.pu (T' := T72) (g' := (mkF m 427 #[rv b, iv 9] [(.ref b), (.int (7 : Int32)), (.ref a65), (.ref a65), (.ref a64), (.ref a64)])) ?_ fun _ zk => XS.aloadN H72.here hx rfl (hb hby d_m4_426) rfl rfl zk
    refine Rn.pu (T' := T72) (g' := (mkF m 429 #[rv b, iv 9] [(.int (7 : Int32)), (.ref b), (.int (7 : Int32)), (.ref a65), (.ref a65), (.ref a64), (.ref a64)])) ?_ fun _ zk => XS.bipush H72.here hx rfl (hb hby d_m4_427) zk
    refine Rn.pu (g' := (mkF m 430 #[rv b, iv 9] [(.int c7), (.int (7 : Int32)), (.ref a65), (.ref a65), (.ref a64), (.ref a64)])) ?_ (H72.cald (((((((((AB.keep K64 nin0).keep K65 nin0).keep K66 (ninS (adne (by omega)) nin0)).keep K67 (ninS (adne (by omega)) nin0)).keep K68 (ninS (adne (by omega)) nin0)).keep K69 (ninS (adne (by omega)) nin0)).keep K70 (ninS (adne (by omega)) nin0)).keep K71 (ninS (adne (by omega)) nin0)).keep K72 (ninS (adne (by omega)) nin0)) (by decide) (v := .int c7) rfl (g := (mkF m 429 #[rv b, iv 9] [(.int (7 : Int32)), (.ref b), (.int (7 : Int32)), (.ref a65), (.ref a65), (.ref a64), (.ref a64)])) rfl rfl (hb hby d_m4_429))
    obtain ⟨T73, h73, H73, K73, A73, st73⟩ := H72.stC A72 (by decide) rfl (Or.inr (by omega)) (g := (mkF m 430 #[rv b, iv 9] [(.int c7), (.int (7 : Int32)), (.ref a65), (.ref a65), (.ref a64), (.ref a64)])) rfl rfl (hb hby d_m4_430)
    have zh73 := K73.1
    refine Rn.pu (g' := (mkF m 431 #[rv b, iv 9] [(.ref a65), (.ref a64), (.ref a64)])) ?_ st73
    refine Rn.pu (T' := T73) (g' := (mkF m 432 #[rv b, iv 9] [(.ref a65), (.ref a65), (.ref a64), (.ref a64)])) ?_ fun _ zk => XS.dup H73.here hx rfl (hb hby d_m4_431) rfl rfl zk
    refine Rn.pu (T' := T73) (g' := (mkF m 434 #[rv b, iv 9] [(.int (8 : Int32)), (.ref a65), (.ref a65), (.ref a64), (.ref a64)])) ?_ fun _ zk => XS.bipush H73.here hx rfl (hb hby d_m4_432) zk
    refine Rn.pu (T' := T73) (g' := (mkF m 435 #[rv b, iv 9] [(.ref b), (.int (8 : Int32)), (.ref a65), (.ref a65), (.ref a64), (.ref a64)])) ?_ fun _ zk => XS.aloadN H73.here hx rfl (hb hby d_m4_434) rfl rfl zk
    refine Rn.pu (T' := T73) (g' := (mkF m 437 #[rv b, iv 9] [(.int (8 : Int32)), (.ref b), (.int (8 : Int32)), (.ref a65), (.ref a65), (.ref a64), (.ref a64)])) ?_ fun _ zk => XS.bipush H73.here hx rfl (hb hby d_m4_435) zk
    refine Rn.pu (g' := (mkF m 438 #[rv b, iv 9] [(.int c8), (.int (8 : Int32)), (.ref a65), (.ref a65), (.ref a64), (.ref a64)])) ?_ (H73.cald ((((((((((AB.keep K64 nin0).keep K65 nin0).keep K66 (ninS (adne (by omega)) nin0)).keep K67 (ninS (adne (by omega)) nin0)).keep K68 (ninS (adne (by omega)) nin0)).keep K69 (ninS (adne (by omega)) nin0)).keep K70 (ninS (adne (by omega)) nin0)).keep K71 (ninS (adne (by omega)) nin0)).keep K72 (ninS (adne (by omega)) nin0)).keep K73 (ninS (adne (by omega)) nin0)) (by decide) (v := .int c8) rfl (g := (mkF m 437 #[rv b, iv 9] [(.int (8 : Int32)), (.ref b), (.int (8 : Int32)), (.ref a65), (.ref a65), (.ref a64), (.ref a64)])) rfl rfl (hb hby d_m4_437))
    obtain ⟨T74, h74, H74, K74, A74, st74⟩ := H73.stC A73 (by decide) rfl (Or.inr (by omega)) (g := (mkF m 438 #[rv b, iv 9] [(.int c8), (.int (8 : Int32)), (.ref a65), (.ref a65), (.ref a64), (.ref a64)])) rfl rfl (hb hby d_m4_438)
    have zh74 := K74.1
    refine Rn.pu (g' := (mkF m 439 #[rv b, iv 9] [(.ref a65), (.ref a64), (.ref a64)])) ?_ st74
    obtain ⟨_, T75, h75, H75, ⟨rfl, t75, et75, lt75, S75⟩, K75, st75⟩ := H74.callI rfl (wd hw 52 rfl) (wd hw 53 rfl) (wd hw 54 rfl) (by decide) (payNew (cs := [(nar .char c0), (nar .char c1), (nar .char c2), (nar .char c3), (nar .char c4), (nar .char c5), (nar .char c6), (nar .char c7), (nar .char c8)]) (n := 9) (W := 1) (hws_new hw) (wd hw 2 rfl) ((((((((((E64.keep K65).keep K66).keep K67).keep K68).keep K69).keep K70).keep K71).keep K72).keep K73).keep K74) ((((((((((F64_value.keep K65 nin0).keep K66 (ninS (adne (by omega)) nin0)).keep K67 (ninS (adne (by omega)) nin0)).keep K68 (ninS (adne (by omega)) nin0)).keep K69 (ninS (adne (by omega)) nin0)).keep K70 (ninS (adne (by omega)) nin0)).keep K71 (ninS (adne (by omega)) nin0)).keep K72 (ninS (adne (by omega)) nin0)).keep K73 (ninS (adne (by omega)) nin0)).keep K74 (ninS (adne (by omega)) nin0)) ((((((((((F64_coder.keep K65 nin0).keep K66 (ninS (adne (by omega)) nin0)).keep K67 (ninS (adne (by omega)) nin0)).keep K68 (ninS (adne (by omega)) nin0)).keep K69 (ninS (adne (by omega)) nin0)).keep K70 (ninS (adne (by omega)) nin0)).keep K71 (ninS (adne (by omega)) nin0)).keep K72 (ninS (adne (by omega)) nin0)).keep K73 (ninS (adne (by omega)) nin0)).keep K74 (ninS (adne (by omega)) nin0)) A74 (SC0.ext H74.old) hz0 rfl rfl (by decide) (by decide) (mem2 (lat_nar qc0) (mem2 (lat_nar qc1) (mem2 (lat_nar qc2) (mem2 (lat_nar qc3) (mem2 (lat_nar qc4) (mem2 (lat_nar qc5) (mem2 (lat_nar qc6) (mem2 (lat_nar qc7) (mem2 (lat_nar qc8) mem0))))))))) (by decide) (by decide)) (g := (mkF m 439 #[rv b, iv 9] [(.ref a65), (.ref a64), (.ref a64)])) rfl (by rw [hml]; rfl) (argsL := [(.ref a65)]) (rest := [(.ref a64)]) (lenOf pd__AC_V rfl) rfl rfl (Nat.le_of_eq rfl) (hb hby d_m4_439) (by decide) (by decide) (allS (Or.inr (by omega)) all0)
    have zh75 := K75.1
    have l75 := natlt (S75).lt
    refine Rn.pu (g' := (mkF m 442 #[rv b, iv 9] [(.ref a64)])) ?_ st75
    have SX := S75
    have lSX := natlt (SX).lt
    have mSX := natlt (SX).ltt
    exact H75.retA ends_W hlk hret rfl rfl rfl (hb hby d_m4_442) (by decide) (by decide) (fun _ q => nomatch q) ⟨(fun z => ⟨z.1, z.2.1⟩) (H75.vm (fun U vm1 hW q => EG.stab hP hW q)), a64, t75, [(nar .char c0), (nar .char c1), (nar .char c2), (nar .char c3), (nar .char c4), (nar .char c5), (nar .char c6), (nar .char c7), (nar .char c8)], rfl, SX, by omega, by omega, by omega⟩
set_option maxRecDepth 65536 in
set_option maxHeartbeats 40000000 in
theorem c_values (l : Launch) {Z : State} {a0 : Array Value} {zc : Int32} {fm : Value} {aV : Addr} {kV : ClassId} {aA : Addr} {sA : Addr} {tA : Addr} {aF : Addr} {sF : Addr} {tF : Addr} {aD : Addr} {sD : Addr} {tD : Addr} (B : Base Z a0 zc fm aV kV aA sA tA aF sF tF aD sD tD)  (h0 : Heap) (O : Ext Z.heap h0) :
    MetN l Z (⟨"com/example/calm_inbox/calminbox/webhook/WebhookStatus", "values", "()[Lcom/example/calm_inbox/calminbox/webhook/WebhookStatus;"⟩ : MethodName) prog_22_method_1_code 0 (some (.array (.object "com/example/calm_inbox/calminbox/webhook/WebhookStatus"))) [] ({ frames := 1, cells := 1, slots := 3, locals := 14 } : Room) #[] h0 [] (fun v h => ∃ b, v = some (.ref b) ∧ Arv Z h b kV (.object "com/example/calm_inbox/calminbox/webhook/WebhookStatus") 3 [.ref aA, .ref aF, .ref aD] .null ∧ h0.size ≤ b ∧ h.size > b) := by
  have B0 := B
  obtain ⟨hw, SC0, hz0, SF1, rf1, hh7, hhA, hhF, hhD, hhE, hcw, SaA, FaA, TaA, SaF, FaF, TaF, SaD, FaD, TaD, SaV, XaV, AaV⟩ := B
  refine MetN.mk (plainFor_of_name pn_com_example_calm_inbox_calminbox_webhook_WebhookStatus) (fun m => ef_c_values m ) O ?_
  intro p e s m below meth c T0 hx hby hml hret hlk hnm hsh H0
  have zs : s.heap.size = h0.size := by rw [hsh]
  obtain ⟨T1, H1, st1⟩ := H0.getS (host := "") (Or.inl (wd hw 90 rfl)) Via.refl (SaV.ext H0.old) (g := (mkF m 0 #[] [])) rfl (hb hby d_prog_22_m1_0)
  refine Rn.pu (g' := (mkF m 3 #[] [(.ref aV)])) ?_ st1
  obtain ⟨a2, T2, h2, e2, H2, K2, A2, E2, st2⟩ := H1.clone (wd hw 92 rfl) (wd hw 93 rfl) (wd hw 97 rfl) (wd hw 95 rfl) (wd hw 96 rfl) (wd hw 98 rfl) (AaV.ext H1.old) (XaV.ext H1.old) (g := (mkF m 3 #[] [(.ref aV)])) rfl (by rw [hml]; rfl) rfl (hb hby d_prog_22_m1_3) (by decide) (W := 0) (cap := 3) (Nat.le_of_eq rfl) (by decide) (by decide) (by decide) (by decide)
  have zh2 := K2.1
  have l2 := natlt (E2).lt
  have g2 : s.heap.size ≤ a2 := by omega
  refine Rn.pu (g' := (mkF m 6 #[] [(.ref a2)])) ?_ st2
  obtain ⟨T3, H3, st3⟩ := H2.castY (wd hw 102 rfl) (Ins.self E2) (g := (mkF m 6 #[] [(.ref a2)])) rfl rfl (hb hby d_prog_22_m1_6)
  refine Rn.pu (g' := (mkF m 9 #[] [(.ref a2)])) ?_ st3
  exact H3.retA ends_N hlk hret rfl rfl rfl (hb hby d_prog_22_m1_9) (by decide) (by decide) (fun _ q => nomatch q) ⟨a2, rfl, A2, by omega, by omega⟩
set_option maxRecDepth 65536 in
set_option maxHeartbeats 40000000 in
theorem c_fw0 (l : Launch) {Z : State} {a0 : Array Value} {zc : Int32} {fm : Value} {aV : Addr} {kV : ClassId} {aA : Addr} {sA : Addr} {tA : Addr} {aF : Addr} {sF : Addr} {tF : Addr} {aD : Addr} {sD : Addr} {tD : Addr} (B : Base Z a0 zc fm aV kV aA sA tA aF sF tF aD sD tD) (x t : Addr) (cs : List Int32) (h0 : Heap) (O : Ext Z.heap h0) (F : Str Z h0 x t cs) (q0 : [(97 : Int32), (99 : Int32), (116 : Int32), (105 : Int32), (118 : Int32), (101 : Int32)] = cs) :
    MetN l Z (⟨"com/example/calm_inbox/calminbox/webhook/WebhookStatus", "fromWireName", "(Ljava/lang/String;)Lcom/example/calm_inbox/calminbox/webhook/WebhookStatus;"⟩ : MethodName) prog_22_method_5_code 5 (some (.object "com/example/calm_inbox/calminbox/webhook/WebhookStatus")) [] ({ frames := 3, cells := 1, slots := 3, locals := 60 } : Room) #[(.ref x)] h0 [] (fun v h => v = some (.ref aA)) := by
  have B0 := B
  obtain ⟨hw, SC0, hz0, SF1, rf1, hh7, hhA, hhF, hhD, hhE, hcw, SaA, FaA, TaA, SaF, FaF, TaF, SaD, FaD, TaD, SaV, XaV, AaV⟩ := B
  refine MetN.mk (plainFor_of_name pn_com_example_calm_inbox_calminbox_webhook_WebhookStatus) (fun m => ef_c_fw0 m x) O ?_
  intro p e s m below meth c T0 hx hby hml hret hlk hnm hsh H0
  have zs : s.heap.size = h0.size := by rw [hsh]
  have lx := natlt (F).lt
  have lt := natlt (F).ltt
  obtain ⟨_, T1, h1, H1, ⟨b1, rfl, A1, gb1, lb1⟩, K1, st1⟩ := H0.callS (wd hw 87 rfl) (wd hw 88 rfl) (wd hw 82 rfl) (wd hw 89 rfl) (by decide) (MetN.pay (W := 0) (c_values l B0  h0 H0.old) (wd hw 89 rfl) (wd hw 82 rfl) (by decide) (by decide)) (g := (mkF m 0 #[rv x, .unset, .unset, .unset, .unset] [])) rfl (by rw [hml]; rfl) (argsL := []) (rest := []) (lenOf pd___ALcom_example_calm_inbox_calminbox_webhook_WebhookStatus_ rfl) rfl rfl (Nat.le_of_eq rfl) (hb hby d_prog_22_m5_0) (by decide) (by decide) all0
  have zh1 := K1.1
  refine Rn.pu (g' := (mkF m 3 #[rv x, .unset, .unset, .unset, .unset] [(.ref b1)])) ?_ st1
  refine Rn.pu (T' := T1) (g' := (mkF m 4 #[rv x, rv b1, .unset, .unset, .unset] [])) ?_ fun _ zk => XS.astoreN H1.here hx rfl (hb hby d_prog_22_m5_3) rfl rfl (l' := #[rv x, rv b1, .unset, .unset, .unset]) rfl zk
  refine Rn.pu (T' := T1) (g' := (mkF m 5 #[rv x, rv b1, .unset, .unset, .unset] [(.ref b1)])) ?_ fun _ zk => XS.aloadN H1.here hx rfl (hb hby d_prog_22_m5_4) rfl rfl zk
  refine Rn.pu (g' := (mkF m 6 #[rv x, rv b1, .unset, .unset, .unset] [(.int (3 : Int32))])) ?_ (H1.alen A1 (g := (mkF m 5 #[rv x, rv b1, .unset, .unset, .unset] [(.ref b1)])) rfl rfl (hb hby d_prog_22_m5_5))
  refine Rn.pu (T' := T1) (g' := (mkF m 7 #[rv x, rv b1, iv 3, .unset, .unset] [])) ?_ fun _ zk => XS.istoreN H1.here hx rfl (hb hby d_prog_22_m5_6) rfl (l' := #[rv x, rv b1, iv 3, .unset, .unset]) rfl zk
  refine Rn.pu (T' := T1) (g' := (mkF m 8 #[rv x, rv b1, iv 3, .unset, .unset] [(.int (0 : Int32))])) ?_ fun _ zk => XS.iconst H1.here hx rfl (hb hby d_prog_22_m5_7) zk
  refine Rn.pu (T' := T1) (g' := (mkF m 9 #[rv x, rv b1, iv 3, iv 0, .unset] [])) ?_ fun _ zk => XS.istoreN H1.here hx rfl (hb hby d_prog_22_m5_8) rfl (l' := #[rv x, rv b1, iv 3, iv 0, .unset]) rfl zk
  refine Rn.pu (T' := T1) (g' := (mkF m 10 #[rv x, rv b1, iv 3, iv 0, .unset] [(.int (0 : Int32))])) ?_ fun _ zk => XS.iloadN H1.here hx rfl (hb hby d_prog_22_m5_9) rfl zk
  refine Rn.pu (T' := T1) (g' := (mkF m 11 #[rv x, rv b1, iv 3, iv 0, .unset] [(.int (3 : Int32)), (.int (0 : Int32))])) ?_ fun _ zk => XS.iloadN H1.here hx rfl (hb hby d_prog_22_m5_10) rfl zk
  refine Rn.pu (T' := T1) (g' := (mkF m 14 #[rv x, rv b1, iv 3, iv 0, .unset] [])) ?_ fun _ zk => XS.icmpNo H1.here hx rfl (hb hby d_prog_22_m5_11) rfl (c_ge_f (by decide)) zk
  refine Rn.pu (T' := T1) (g' := (mkF m 15 #[rv x, rv b1, iv 3, iv 0, .unset] [(.ref b1)])) ?_ fun _ zk => XS.aloadN H1.here hx rfl (hb hby d_prog_22_m5_14) rfl rfl zk
  refine Rn.pu (T' := T1) (g' := (mkF m 16 #[rv x, rv b1, iv 3, iv 0, .unset] [(.int (0 : Int32)), (.ref b1)])) ?_ fun _ zk => XS.iloadN H1.here hx rfl (hb hby d_prog_22_m5_15) rfl zk
  refine Rn.pu (g' := (mkF m 17 #[rv x, rv b1, iv 3, iv 0, .unset] [(.ref aA)])) ?_ (H1.aald A1 rfl (by decide) (v := (.ref aA)) rfl (g := (mkF m 16 #[rv x, rv b1, iv 3, iv 0, .unset] [(.int (0 : Int32)), (.ref b1)])) rfl rfl (hb hby d_prog_22_m5_16))
  refine Rn.pu (T' := T1) (g' := (mkF m 19 #[rv x, rv b1, iv 3, iv 0, rv aA] [])) ?_ fun _ zk => XS.astore H1.here hx rfl (hb hby d_prog_22_m5_17) rfl rfl (l' := #[rv x, rv b1, iv 3, iv 0, rv aA]) rfl zk
  refine Rn.pu (T' := T1) (g' := (mkF m 21 #[rv x, rv b1, iv 3, iv 0, rv aA] [(.ref aA)])) ?_ fun _ zk => XS.aload H1.here hx rfl (hb hby d_prog_22_m5_19) rfl rfl zk
  obtain ⟨T2, H2, st2⟩ := H1.getF (host := "") (Or.inl (wd hw 104 rfl)) Via.refl (FaA.ext H1.old) (g := (mkF m 21 #[rv x, rv b1, iv 3, iv 0, rv aA] [(.ref aA)])) rfl rfl (hb hby d_prog_22_m5_21)
  refine Rn.pu (g' := (mkF m 24 #[rv x, rv b1, iv 3, iv 0, rv aA] [(.ref sA)])) ?_ st2
  refine Rn.pu (T' := T2) (g' := (mkF m 25 #[rv x, rv b1, iv 3, iv 0, rv aA] [(.ref x), (.ref sA)])) ?_ fun _ zk => XS.aloadN H2.here hx rfl (hb hby d_prog_22_m5_24) rfl rfl zk
  obtain ⟨_, T3, h3, H3, ⟨rfl, rfl⟩, -, st3⟩ := H2.callV (C := "java/lang/String") (wd hw 106 rfl) (wd hw 73 rfl) (wd hw 75 rfl) (wd hw 74 rfl) (by decide) (payEqY (W := 0) q0 (hws_eq hw) (wd hw 2 rfl) (TaA.ext H2.old) (F.keep K1 nin0 nin0) (SC0.ext H2.old) hz0 (by decide) (by decide)) (TaA.ext H2.old).exa (g := (mkF m 25 #[rv x, rv b1, iv 3, iv 0, rv aA] [(.ref x), (.ref sA)])) rfl (by rw [hml]; rfl) (argsL := [(.ref x)]) (rest := []) (lenOf pd__Ljava_lang_Object__Z rfl) rfl rfl (Nat.le_of_eq rfl) (hb hby d_prog_22_m5_25) (by decide) (by decide) all0
  refine Rn.pu (g' := (mkF m 28 #[rv x, rv b1, iv 3, iv 0, rv aA] [(.int (1 : Int32))])) ?_ st3
  refine Rn.pu (T' := T3) (g' := (mkF m 31 #[rv x, rv b1, iv 3, iv 0, rv aA] [])) ?_ fun _ zk => XS.ifNo H3.here hx rfl (hb hby d_prog_22_m5_28) rfl (z_eq_f (by decide)) zk
  refine Rn.pu (T' := T3) (g' := (mkF m 33 #[rv x, rv b1, iv 3, iv 0, rv aA] [(.ref aA)])) ?_ fun _ zk => XS.aload H3.here hx rfl (hb hby d_prog_22_m5_31) rfl rfl zk
  exact H3.retA ends_N hlk hret rfl rfl rfl (hb hby d_prog_22_m5_33) (by decide) (by decide) (fun _ q => nomatch q) rfl
set_option maxRecDepth 65536 in
set_option maxHeartbeats 40000000 in
theorem c_fw1 (l : Launch) {Z : State} {a0 : Array Value} {zc : Int32} {fm : Value} {aV : Addr} {kV : ClassId} {aA : Addr} {sA : Addr} {tA : Addr} {aF : Addr} {sF : Addr} {tF : Addr} {aD : Addr} {sD : Addr} {tD : Addr} (B : Base Z a0 zc fm aV kV aA sA tA aF sF tF aD sD tD) (x t : Addr) (cs : List Int32) (h0 : Heap) (O : Ext Z.heap h0) (F : Str Z h0 x t cs) (q0 : ¬ [(97 : Int32), (99 : Int32), (116 : Int32), (105 : Int32), (118 : Int32), (101 : Int32)] = cs) (q1 : [(102 : Int32), (97 : Int32), (105 : Int32), (108 : Int32), (105 : Int32), (110 : Int32), (103 : Int32)] = cs) :
    MetN l Z (⟨"com/example/calm_inbox/calminbox/webhook/WebhookStatus", "fromWireName", "(Ljava/lang/String;)Lcom/example/calm_inbox/calminbox/webhook/WebhookStatus;"⟩ : MethodName) prog_22_method_5_code 5 (some (.object "com/example/calm_inbox/calminbox/webhook/WebhookStatus")) [] ({ frames := 3, cells := 1, slots := 3, locals := 60 } : Room) #[(.ref x)] h0 [] (fun v h => v = some (.ref aF)) := by
  have B0 := B
  obtain ⟨hw, SC0, hz0, SF1, rf1, hh7, hhA, hhF, hhD, hhE, hcw, SaA, FaA, TaA, SaF, FaF, TaF, SaD, FaD, TaD, SaV, XaV, AaV⟩ := B
  refine MetN.mk (plainFor_of_name pn_com_example_calm_inbox_calminbox_webhook_WebhookStatus) (fun m => ef_c_fw1 m x) O ?_
  intro p e s m below meth c T0 hx hby hml hret hlk hnm hsh H0
  have zs : s.heap.size = h0.size := by rw [hsh]
  have lx := natlt (F).lt
  have lt := natlt (F).ltt
  obtain ⟨_, T1, h1, H1, ⟨b1, rfl, A1, gb1, lb1⟩, K1, st1⟩ := H0.callS (wd hw 87 rfl) (wd hw 88 rfl) (wd hw 82 rfl) (wd hw 89 rfl) (by decide) (MetN.pay (W := 0) (c_values l B0  h0 H0.old) (wd hw 89 rfl) (wd hw 82 rfl) (by decide) (by decide)) (g := (mkF m 0 #[rv x, .unset, .unset, .unset, .unset] [])) rfl (by rw [hml]; rfl) (argsL := []) (rest := []) (lenOf pd___ALcom_example_calm_inbox_calminbox_webhook_WebhookStatus_ rfl) rfl rfl (Nat.le_of_eq rfl) (hb hby d_prog_22_m5_0) (by decide) (by decide) all0
  have zh1 := K1.1
  refine Rn.pu (g' := (mkF m 3 #[rv x, .unset, .unset, .unset, .unset] [(.ref b1)])) ?_ st1
  refine Rn.pu (T' := T1) (g' := (mkF m 4 #[rv x, rv b1, .unset, .unset, .unset] [])) ?_ fun _ zk => XS.astoreN H1.here hx rfl (hb hby d_prog_22_m5_3) rfl rfl (l' := #[rv x, rv b1, .unset, .unset, .unset]) rfl zk
  refine Rn.pu (T' := T1) (g' := (mkF m 5 #[rv x, rv b1, .unset, .unset, .unset] [(.ref b1)])) ?_ fun _ zk => XS.aloadN H1.here hx rfl (hb hby d_prog_22_m5_4) rfl rfl zk
  refine Rn.pu (g' := (mkF m 6 #[rv x, rv b1, .unset, .unset, .unset] [(.int (3 : Int32))])) ?_ (H1.alen A1 (g := (mkF m 5 #[rv x, rv b1, .unset, .unset, .unset] [(.ref b1)])) rfl rfl (hb hby d_prog_22_m5_5))
  refine Rn.pu (T' := T1) (g' := (mkF m 7 #[rv x, rv b1, iv 3, .unset, .unset] [])) ?_ fun _ zk => XS.istoreN H1.here hx rfl (hb hby d_prog_22_m5_6) rfl (l' := #[rv x, rv b1, iv 3, .unset, .unset]) rfl zk
  refine Rn.pu (T' := T1) (g' := (mkF m 8 #[rv x, rv b1, iv 3, .unset, .unset] [(.int (0 : Int32))])) ?_ fun _ zk => XS.iconst H1.here hx rfl (hb hby d_prog_22_m5_7) zk
  refine Rn.pu (T' := T1) (g' := (mkF m 9 #[rv x, rv b1, iv 3, iv 0, .unset] [])) ?_ fun _ zk => XS.istoreN H1.here hx rfl (hb hby d_prog_22_m5_8) rfl (l' := #[rv x, rv b1, iv 3, iv 0, .unset]) rfl zk
  refine Rn.pu (T' := T1) (g' := (mkF m 10 #[rv x, rv b1, iv 3, iv 0, .unset] [(.int (0 : Int32))])) ?_ fun _ zk => XS.iloadN H1.here hx rfl (hb hby d_prog_22_m5_9) rfl zk
  refine Rn.pu (T' := T1) (g' := (mkF m 11 #[rv x, rv b1, iv 3, iv 0, .unset] [(.int (3 : Int32)), (.int (0 : Int32))])) ?_ fun _ zk => XS.iloadN H1.here hx rfl (hb hby d_prog_22_m5_10) rfl zk
  refine Rn.pu (T' := T1) (g' := (mkF m 14 #[rv x, rv b1, iv 3, iv 0, .unset] [])) ?_ fun _ zk => XS.icmpNo H1.here hx rfl (hb hby d_prog_22_m5_11) rfl (c_ge_f (by decide)) zk
  refine Rn.pu (T' := T1) (g' := (mkF m 15 #[rv x, rv b1, iv 3, iv 0, .unset] [(.ref b1)])) ?_ fun _ zk => XS.aloadN H1.here hx rfl (hb hby d_prog_22_m5_14) rfl rfl zk
  refine Rn.pu (T' := T1) (g' := (mkF m 16 #[rv x, rv b1, iv 3, iv 0, .unset] [(.int (0 : Int32)), (.ref b1)])) ?_ fun _ zk => XS.iloadN H1.here hx rfl (hb hby d_prog_22_m5_15) rfl zk
  refine Rn.pu (g' := (mkF m 17 #[rv x, rv b1, iv 3, iv 0, .unset] [(.ref aA)])) ?_ (H1.aald A1 rfl (by decide) (v := (.ref aA)) rfl (g := (mkF m 16 #[rv x, rv b1, iv 3, iv 0, .unset] [(.int (0 : Int32)), (.ref b1)])) rfl rfl (hb hby d_prog_22_m5_16))
  refine Rn.pu (T' := T1) (g' := (mkF m 19 #[rv x, rv b1, iv 3, iv 0, rv aA] [])) ?_ fun _ zk => XS.astore H1.here hx rfl (hb hby d_prog_22_m5_17) rfl rfl (l' := #[rv x, rv b1, iv 3, iv 0, rv aA]) rfl zk
  refine Rn.pu (T' := T1) (g' := (mkF m 21 #[rv x, rv b1, iv 3, iv 0, rv aA] [(.ref aA)])) ?_ fun _ zk => XS.aload H1.here hx rfl (hb hby d_prog_22_m5_19) rfl rfl zk
  obtain ⟨T2, H2, st2⟩ := H1.getF (host := "") (Or.inl (wd hw 104 rfl)) Via.refl (FaA.ext H1.old) (g := (mkF m 21 #[rv x, rv b1, iv 3, iv 0, rv aA] [(.ref aA)])) rfl rfl (hb hby d_prog_22_m5_21)
  refine Rn.pu (g' := (mkF m 24 #[rv x, rv b1, iv 3, iv 0, rv aA] [(.ref sA)])) ?_ st2
  refine Rn.pu (T' := T2) (g' := (mkF m 25 #[rv x, rv b1, iv 3, iv 0, rv aA] [(.ref x), (.ref sA)])) ?_ fun _ zk => XS.aloadN H2.here hx rfl (hb hby d_prog_22_m5_24) rfl rfl zk
  obtain ⟨_, T3, h3, H3, ⟨rfl, rfl⟩, -, st3⟩ := H2.callV (C := "java/lang/String") (wd hw 106 rfl) (wd hw 73 rfl) (wd hw 75 rfl) (wd hw 74 rfl) (by decide) (payEqN (W := 0) q0 (hws_eq hw) (wd hw 2 rfl) (TaA.ext H2.old) (F.keep K1 nin0 nin0) (SC0.ext H2.old) hz0 (by decide) (by decide)) (TaA.ext H2.old).exa (g := (mkF m 25 #[rv x, rv b1, iv 3, iv 0, rv aA] [(.ref x), (.ref sA)])) rfl (by rw [hml]; rfl) (argsL := [(.ref x)]) (rest := []) (lenOf pd__Ljava_lang_Object__Z rfl) rfl rfl (Nat.le_of_eq rfl) (hb hby d_prog_22_m5_25) (by decide) (by decide) all0
  refine Rn.pu (g' := (mkF m 28 #[rv x, rv b1, iv 3, iv 0, rv aA] [(.int (0 : Int32))])) ?_ st3
  refine Rn.pu (T' := T3) (g' := (mkF m 34 #[rv x, rv b1, iv 3, iv 0, rv aA] [])) ?_ fun _ zk => XS.ifYes H3.here hx rfl (pc0 := 28) (pc' := 34) rfl (hb hby d_prog_22_m5_28) rfl (z_eq_t rfl) (by decide) (by decide) zk
  refine Rn.pu (T' := T3) (g' := (mkF m 37 #[rv x, rv b1, iv 3, iv 1, rv aA] [])) ?_ fun _ zk => XS.iinc H3.here hx rfl (hb hby d_prog_22_m5_34) rfl (l' := #[rv x, rv b1, iv 3, iv 1, rv aA]) rfl zk
  refine Rn.pu (T' := T3) (g' := (mkF m 9 #[rv x, rv b1, iv 3, iv 1, rv aA] [])) ?_ fun _ zk => XS.goto H3.here hx rfl (pc0 := 37) (pc' := 9) rfl (hb hby d_prog_22_m5_37) (by decide) (by decide) zk
  refine Rn.pu (T' := T3) (g' := (mkF m 10 #[rv x, rv b1, iv 3, iv 1, rv aA] [(.int (1 : Int32))])) ?_ fun _ zk => XS.iloadN H3.here hx rfl (hb hby d_prog_22_m5_9) rfl zk
  refine Rn.pu (T' := T3) (g' := (mkF m 11 #[rv x, rv b1, iv 3, iv 1, rv aA] [(.int (3 : Int32)), (.int (1 : Int32))])) ?_ fun _ zk => XS.iloadN H3.here hx rfl (hb hby d_prog_22_m5_10) rfl zk
  refine Rn.pu (T' := T3) (g' := (mkF m 14 #[rv x, rv b1, iv 3, iv 1, rv aA] [])) ?_ fun _ zk => XS.icmpNo H3.here hx rfl (hb hby d_prog_22_m5_11) rfl (c_ge_f (by decide)) zk
  refine Rn.pu (T' := T3) (g' := (mkF m 15 #[rv x, rv b1, iv 3, iv 1, rv aA] [(.ref b1)])) ?_ fun _ zk => XS.aloadN H3.here hx rfl (hb hby d_prog_22_m5_14) rfl rfl zk
  refine Rn.pu (T' := T3) (g' := (mkF m 16 #[rv x, rv b1, iv 3, iv 1, rv aA] [(.int (1 : Int32)), (.ref b1)])) ?_ fun _ zk => XS.iloadN H3.here hx rfl (hb hby d_prog_22_m5_15) rfl zk
  refine Rn.pu (g' := (mkF m 17 #[rv x, rv b1, iv 3, iv 1, rv aA] [(.ref aF)])) ?_ (H3.aald A1 rfl (by decide) (v := (.ref aF)) rfl (g := (mkF m 16 #[rv x, rv b1, iv 3, iv 1, rv aA] [(.int (1 : Int32)), (.ref b1)])) rfl rfl (hb hby d_prog_22_m5_16))
  refine Rn.pu (T' := T3) (g' := (mkF m 19 #[rv x, rv b1, iv 3, iv 1, rv aF] [])) ?_ fun _ zk => XS.astore H3.here hx rfl (hb hby d_prog_22_m5_17) rfl rfl (l' := #[rv x, rv b1, iv 3, iv 1, rv aF]) rfl zk
  refine Rn.pu (T' := T3) (g' := (mkF m 21 #[rv x, rv b1, iv 3, iv 1, rv aF] [(.ref aF)])) ?_ fun _ zk => XS.aload H3.here hx rfl (hb hby d_prog_22_m5_19) rfl rfl zk
  obtain ⟨T4, H4, st4⟩ := H3.getF (host := "") (Or.inl (wd hw 104 rfl)) Via.refl (FaF.ext H3.old) (g := (mkF m 21 #[rv x, rv b1, iv 3, iv 1, rv aF] [(.ref aF)])) rfl rfl (hb hby d_prog_22_m5_21)
  refine Rn.pu (g' := (mkF m 24 #[rv x, rv b1, iv 3, iv 1, rv aF] [(.ref sF)])) ?_ st4
  refine Rn.pu (T' := T4) (g' := (mkF m 25 #[rv x, rv b1, iv 3, iv 1, rv aF] [(.ref x), (.ref sF)])) ?_ fun _ zk => XS.aloadN H4.here hx rfl (hb hby d_prog_22_m5_24) rfl rfl zk
  obtain ⟨_, T5, h5, H5, ⟨rfl, rfl⟩, -, st5⟩ := H4.callV (C := "java/lang/String") (wd hw 106 rfl) (wd hw 73 rfl) (wd hw 75 rfl) (wd hw 74 rfl) (by decide) (payEqY (W := 0) q1 (hws_eq hw) (wd hw 2 rfl) (TaF.ext H4.old) (F.keep K1 nin0 nin0) (SC0.ext H4.old) hz0 (by decide) (by decide)) (TaF.ext H4.old).exa (g := (mkF m 25 #[rv x, rv b1, iv 3, iv 1, rv aF] [(.ref x), (.ref sF)])) rfl (by rw [hml]; rfl) (argsL := [(.ref x)]) (rest := []) (lenOf pd__Ljava_lang_Object__Z rfl) rfl rfl (Nat.le_of_eq rfl) (hb hby d_prog_22_m5_25) (by decide) (by decide) all0
  refine Rn.pu (g' := (mkF m 28 #[rv x, rv b1, iv 3, iv 1, rv aF] [(.int (1 : Int32))])) ?_ st5
  refine Rn.pu (T' := T5) (g' := (mkF m 31 #[rv x, rv b1, iv 3, iv 1, rv aF] [])) ?_ fun _ zk => XS.ifNo H5.here hx rfl (hb hby d_prog_22_m5_28) rfl (z_eq_f (by decide)) zk
  refine Rn.pu (T' := T5) (g' := (mkF m 33 #[rv x, rv b1, iv 3, iv 1, rv aF] [(.ref aF)])) ?_ fun _ zk => XS.aload H5.here hx rfl (hb hby d_prog_22_m5_31) rfl rfl zk
  exact H5.retA ends_N hlk hret rfl rfl rfl (hb hby d_prog_22_m5_33) (by decide) (by decide) (fun _ q => nomatch q) rfl
set_option maxRecDepth 65536 in
set_option maxHeartbeats 40000000 in
theorem c_fw2 (l : Launch) {Z : State} {a0 : Array Value} {zc : Int32} {fm : Value} {aV : Addr} {kV : ClassId} {aA : Addr} {sA : Addr} {tA : Addr} {aF : Addr} {sF : Addr} {tF : Addr} {aD : Addr} {sD : Addr} {tD : Addr} (B : Base Z a0 zc fm aV kV aA sA tA aF sF tF aD sD tD) (x t : Addr) (cs : List Int32) (h0 : Heap) (O : Ext Z.heap h0) (F : Str Z h0 x t cs) (q0 : ¬ [(97 : Int32), (99 : Int32), (116 : Int32), (105 : Int32), (118 : Int32), (101 : Int32)] = cs) (q1 : ¬ [(102 : Int32), (97 : Int32), (105 : Int32), (108 : Int32), (105 : Int32), (110 : Int32), (103 : Int32)] = cs) (q2 : [(100 : Int32), (105 : Int32), (115 : Int32), (97 : Int32), (98 : Int32), (108 : Int32), (101 : Int32), (100 : Int32)] = cs) :
    MetN l Z (⟨"com/example/calm_inbox/calminbox/webhook/WebhookStatus", "fromWireName", "(Ljava/lang/String;)Lcom/example/calm_inbox/calminbox/webhook/WebhookStatus;"⟩ : MethodName) prog_22_method_5_code 5 (some (.object "com/example/calm_inbox/calminbox/webhook/WebhookStatus")) [] ({ frames := 3, cells := 1, slots := 3, locals := 60 } : Room) #[(.ref x)] h0 [] (fun v h => v = some (.ref aD)) := by
  have B0 := B
  obtain ⟨hw, SC0, hz0, SF1, rf1, hh7, hhA, hhF, hhD, hhE, hcw, SaA, FaA, TaA, SaF, FaF, TaF, SaD, FaD, TaD, SaV, XaV, AaV⟩ := B
  refine MetN.mk (plainFor_of_name pn_com_example_calm_inbox_calminbox_webhook_WebhookStatus) (fun m => ef_c_fw2 m x) O ?_
  intro p e s m below meth c T0 hx hby hml hret hlk hnm hsh H0
  have zs : s.heap.size = h0.size := by rw [hsh]
  have lx := natlt (F).lt
  have lt := natlt (F).ltt
  obtain ⟨_, T1, h1, H1, ⟨b1, rfl, A1, gb1, lb1⟩, K1, st1⟩ := H0.callS (wd hw 87 rfl) (wd hw 88 rfl) (wd hw 82 rfl) (wd hw 89 rfl) (by decide) (MetN.pay (W := 0) (c_values l B0  h0 H0.old) (wd hw 89 rfl) (wd hw 82 rfl) (by decide) (by decide)) (g := (mkF m 0 #[rv x, .unset, .unset, .unset, .unset] [])) rfl (by rw [hml]; rfl) (argsL := []) (rest := []) (lenOf pd___ALcom_example_calm_inbox_calminbox_webhook_WebhookStatus_ rfl) rfl rfl (Nat.le_of_eq rfl) (hb hby d_prog_22_m5_0) (by decide) (by decide) all0
  have zh1 := K1.1
  refine Rn.pu (g' := (mkF m 3 #[rv x, .unset, .unset, .unset, .unset] [(.ref b1)])) ?_ st1
  refine Rn.pu (T' := T1) (g' := (mkF m 4 #[rv x, rv b1, .unset, .unset, .unset] [])) ?_ fun _ zk => XS.astoreN H1.here hx rfl (hb hby d_prog_22_m5_3) rfl rfl (l' := #[rv x, rv b1, .unset, .unset, .unset]) rfl zk
  refine Rn.pu (T' := T1) (g' := (mkF m 5 #[rv x, rv b1, .unset, .unset, .unset] [(.ref b1)])) ?_ fun _ zk => XS.aloadN H1.here hx rfl (hb hby d_prog_22_m5_4) rfl rfl zk
  refine Rn.pu (g' := (mkF m 6 #[rv x, rv b1, .unset, .unset, .unset] [(.int (3 : Int32))])) ?_ (H1.alen A1 (g := (mkF m 5 #[rv x, rv b1, .unset, .unset, .unset] [(.ref b1)])) rfl rfl (hb hby d_prog_22_m5_5))
  refine Rn.pu (T' := T1) (g' := (mkF m 7 #[rv x, rv b1, iv 3, .unset, .unset] [])) ?_ fun _ zk => XS.istoreN H1.here hx rfl (hb hby d_prog_22_m5_6) rfl (l' := #[rv x, rv b1, iv 3, .unset, .unset]) rfl zk
  refine Rn.pu (T' := T1) (g' := (mkF m 8 #[rv x, rv b1, iv 3, .unset, .unset] [(.int (0 : Int32))])) ?_ fun _ zk => XS.iconst H1.here hx rfl (hb hby d_prog_22_m5_7) zk
  refine Rn.pu (T' := T1) (g' := (mkF m 9 #[rv x, rv b1, iv 3, iv 0, .unset] [])) ?_ fun _ zk => XS.istoreN H1.here hx rfl (hb hby d_prog_22_m5_8) rfl (l' := #[rv x, rv b1, iv 3, iv 0, .unset]) rfl zk
  refine Rn.pu (T' := T1) (g' := (mkF m 10 #[rv x, rv b1, iv 3, iv 0, .unset] [(.int (0 : Int32))])) ?_ fun _ zk => XS.iloadN H1.here hx rfl (hb hby d_prog_22_m5_9) rfl zk
  refine Rn.pu (T' := T1) (g' := (mkF m 11 #[rv x, rv b1, iv 3, iv 0, .unset] [(.int (3 : Int32)), (.int (0 : Int32))])) ?_ fun _ zk => XS.iloadN H1.here hx rfl (hb hby d_prog_22_m5_10) rfl zk
  refine Rn.pu (T' := T1) (g' := (mkF m 14 #[rv x, rv b1, iv 3, iv 0, .unset] [])) ?_ fun _ zk => XS.icmpNo H1.here hx rfl (hb hby d_prog_22_m5_11) rfl (c_ge_f (by decide)) zk
  refine Rn.pu (T' := T1) (g' := (mkF m 15 #[rv x, rv b1, iv 3, iv 0, .unset] [(.ref b1)])) ?_ fun _ zk => XS.aloadN H1.here hx rfl (hb hby d_prog_22_m5_14) rfl rfl zk
  refine Rn.pu (T' := T1) (g' := (mkF m 16 #[rv x, rv b1, iv 3, iv 0, .unset] [(.int (0 : Int32)), (.ref b1)])) ?_ fun _ zk => XS.iloadN H1.here hx rfl (hb hby d_prog_22_m5_15) rfl zk
  refine Rn.pu (g' := (mkF m 17 #[rv x, rv b1, iv 3, iv 0, .unset] [(.ref aA)])) ?_ (H1.aald A1 rfl (by decide) (v := (.ref aA)) rfl (g := (mkF m 16 #[rv x, rv b1, iv 3, iv 0, .unset] [(.int (0 : Int32)), (.ref b1)])) rfl rfl (hb hby d_prog_22_m5_16))
  refine Rn.pu (T' := T1) (g' := (mkF m 19 #[rv x, rv b1, iv 3, iv 0, rv aA] [])) ?_ fun _ zk => XS.astore H1.here hx rfl (hb hby d_prog_22_m5_17) rfl rfl (l' := #[rv x, rv b1, iv 3, iv 0, rv aA]) rfl zk
  refine Rn.pu (T' := T1) (g' := (mkF m 21 #[rv x, rv b1, iv 3, iv 0, rv aA] [(.ref aA)])) ?_ fun _ zk => XS.aload H1.here hx rfl (hb hby d_prog_22_m5_19) rfl rfl zk
  obtain ⟨T2, H2, st2⟩ := H1.getF (host := "") (Or.inl (wd hw 104 rfl)) Via.refl (FaA.ext H1.old) (g := (mkF m 21 #[rv x, rv b1, iv 3, iv 0, rv aA] [(.ref aA)])) rfl rfl (hb hby d_prog_22_m5_21)
  refine Rn.pu (g' := (mkF m 24 #[rv x, rv b1, iv 3, iv 0, rv aA] [(.ref sA)])) ?_ st2
  refine Rn.pu (T' := T2) (g' := (mkF m 25 #[rv x, rv b1, iv 3, iv 0, rv aA] [(.ref x), (.ref sA)])) ?_ fun _ zk => XS.aloadN H2.here hx rfl (hb hby d_prog_22_m5_24) rfl rfl zk
  obtain ⟨_, T3, h3, H3, ⟨rfl, rfl⟩, -, st3⟩ := H2.callV (C := "java/lang/String") (wd hw 106 rfl) (wd hw 73 rfl) (wd hw 75 rfl) (wd hw 74 rfl) (by decide) (payEqN (W := 0) q0 (hws_eq hw) (wd hw 2 rfl) (TaA.ext H2.old) (F.keep K1 nin0 nin0) (SC0.ext H2.old) hz0 (by decide) (by decide)) (TaA.ext H2.old).exa (g := (mkF m 25 #[rv x, rv b1, iv 3, iv 0, rv aA] [(.ref x), (.ref sA)])) rfl (by rw [hml]; rfl) (argsL := [(.ref x)]) (rest := []) (lenOf pd__Ljava_lang_Object__Z rfl) rfl rfl (Nat.le_of_eq rfl) (hb hby d_prog_22_m5_25) (by decide) (by decide) all0
  refine Rn.pu (g' := (mkF m 28 #[rv x, rv b1, iv 3, iv 0, rv aA] [(.int (0 : Int32))])) ?_ st3
  refine Rn.pu (T' := T3) (g' := (mkF m 34 #[rv x, rv b1, iv 3, iv 0, rv aA] [])) ?_ fun _ zk => XS.ifYes H3.here hx rfl (pc0 := 28) (pc' := 34) rfl (hb hby d_prog_22_m5_28) rfl (z_eq_t rfl) (by decide) (by decide) zk
  refine Rn.pu (T' := T3) (g' := (mkF m 37 #[rv x, rv b1, iv 3, iv 1, rv aA] [])) ?_ fun _ zk => XS.iinc H3.here hx rfl (hb hby d_prog_22_m5_34) rfl (l' := #[rv x, rv b1, iv 3, iv 1, rv aA]) rfl zk
  refine Rn.pu (T' := T3) (g' := (mkF m 9 #[rv x, rv b1, iv 3, iv 1, rv aA] [])) ?_ fun _ zk => XS.goto H3.here hx rfl (pc0 := 37) (pc' := 9) rfl (hb hby d_prog_22_m5_37) (by decide) (by decide) zk
  refine Rn.pu (T' := T3) (g' := (mkF m 10 #[rv x, rv b1, iv 3, iv 1, rv aA] [(.int (1 : Int32))])) ?_ fun _ zk => XS.iloadN H3.here hx rfl (hb hby d_prog_22_m5_9) rfl zk
  refine Rn.pu (T' := T3) (g' := (mkF m 11 #[rv x, rv b1, iv 3, iv 1, rv aA] [(.int (3 : Int32)), (.int (1 : Int32))])) ?_ fun _ zk => XS.iloadN H3.here hx rfl (hb hby d_prog_22_m5_10) rfl zk
  refine Rn.pu (T' := T3) (g' := (mkF m 14 #[rv x, rv b1, iv 3, iv 1, rv aA] [])) ?_ fun _ zk => XS.icmpNo H3.here hx rfl (hb hby d_prog_22_m5_11) rfl (c_ge_f (by decide)) zk
  refine Rn.pu (T' := T3) (g' := (mkF m 15 #[rv x, rv b1, iv 3, iv 1, rv aA] [(.ref b1)])) ?_ fun _ zk => XS.aloadN H3.here hx rfl (hb hby d_prog_22_m5_14) rfl rfl zk
  refine Rn.pu (T' := T3) (g' := (mkF m 16 #[rv x, rv b1, iv 3, iv 1, rv aA] [(.int (1 : Int32)), (.ref b1)])) ?_ fun _ zk => XS.iloadN H3.here hx rfl (hb hby d_prog_22_m5_15) rfl zk
  refine Rn.pu (g' := (mkF m 17 #[rv x, rv b1, iv 3, iv 1, rv aA] [(.ref aF)])) ?_ (H3.aald A1 rfl (by decide) (v := (.ref aF)) rfl (g := (mkF m 16 #[rv x, rv b1, iv 3, iv 1, rv aA] [(.int (1 : Int32)), (.ref b1)])) rfl rfl (hb hby d_prog_22_m5_16))
  refine Rn.pu (T' := T3) (g' := (mkF m 19 #[rv x, rv b1, iv 3, iv 1, rv aF] [])) ?_ fun _ zk => XS.astore H3.here hx rfl (hb hby d_prog_22_m5_17) rfl rfl (l' := #[rv x, rv b1, iv 3, iv 1, rv aF]) rfl zk
  refine Rn.pu (T' := T3) (g' := (mkF m 21 #[rv x, rv b1, iv 3, iv 1, rv aF] [(.ref aF)])) ?_ fun _ zk => XS.aload H3.here hx rfl (hb hby d_prog_22_m5_19) rfl rfl zk
  obtain ⟨T4, H4, st4⟩ := H3.getF (host := "") (Or.inl (wd hw 104 rfl)) Via.refl (FaF.ext H3.old) (g := (mkF m 21 #[rv x, rv b1, iv 3, iv 1, rv aF] [(.ref aF)])) rfl rfl (hb hby d_prog_22_m5_21)
  refine Rn.pu (g' := (mkF m 24 #[rv x, rv b1, iv 3, iv 1, rv aF] [(.ref sF)])) ?_ st4
  refine Rn.pu (T' := T4) (g' := (mkF m 25 #[rv x, rv b1, iv 3, iv 1, rv aF] [(.ref x), (.ref sF)])) ?_ fun _ zk => XS.aloadN H4.here hx rfl (hb hby d_prog_22_m5_24) rfl rfl zk
  obtain ⟨_, T5, h5, H5, ⟨rfl, rfl⟩, -, st5⟩ := H4.callV (C := "java/lang/String") (wd hw 106 rfl) (wd hw 73 rfl) (wd hw 75 rfl) (wd hw 74 rfl) (by decide) (payEqN (W := 0) q1 (hws_eq hw) (wd hw 2 rfl) (TaF.ext H4.old) (F.keep K1 nin0 nin0) (SC0.ext H4.old) hz0 (by decide) (by decide)) (TaF.ext H4.old).exa (g := (mkF m 25 #[rv x, rv b1, iv 3, iv 1, rv aF] [(.ref x), (.ref sF)])) rfl (by rw [hml]; rfl) (argsL := [(.ref x)]) (rest := []) (lenOf pd__Ljava_lang_Object__Z rfl) rfl rfl (Nat.le_of_eq rfl) (hb hby d_prog_22_m5_25) (by decide) (by decide) all0
  refine Rn.pu (g' := (mkF m 28 #[rv x, rv b1, iv 3, iv 1, rv aF] [(.int (0 : Int32))])) ?_ st5
  refine Rn.pu (T' := T5) (g' := (mkF m 34 #[rv x, rv b1, iv 3, iv 1, rv aF] [])) ?_ fun _ zk => XS.ifYes H5.here hx rfl (pc0 := 28) (pc' := 34) rfl (hb hby d_prog_22_m5_28) rfl (z_eq_t rfl) (by decide) (by decide) zk
  refine Rn.pu (T' := T5) (g' := (mkF m 37 #[rv x, rv b1, iv 3, iv 2, rv aF] [])) ?_ fun _ zk => XS.iinc H5.here hx rfl (hb hby d_prog_22_m5_34) rfl (l' := #[rv x, rv b1, iv 3, iv 2, rv aF]) rfl zk
  refine Rn.pu (T' := T5) (g' := (mkF m 9 #[rv x, rv b1, iv 3, iv 2, rv aF] [])) ?_ fun _ zk => XS.goto H5.here hx rfl (pc0 := 37) (pc' := 9) rfl (hb hby d_prog_22_m5_37) (by decide) (by decide) zk
  refine Rn.pu (T' := T5) (g' := (mkF m 10 #[rv x, rv b1, iv 3, iv 2, rv aF] [(.int (2 : Int32))])) ?_ fun _ zk => XS.iloadN H5.here hx rfl (hb hby d_prog_22_m5_9) rfl zk
  refine Rn.pu (T' := T5) (g' := (mkF m 11 #[rv x, rv b1, iv 3, iv 2, rv aF] [(.int (3 : Int32)), (.int (2 : Int32))])) ?_ fun _ zk => XS.iloadN H5.here hx rfl (hb hby d_prog_22_m5_10) rfl zk
  refine Rn.pu (T' := T5) (g' := (mkF m 14 #[rv x, rv b1, iv 3, iv 2, rv aF] [])) ?_ fun _ zk => XS.icmpNo H5.here hx rfl (hb hby d_prog_22_m5_11) rfl (c_ge_f (by decide)) zk
  refine Rn.pu (T' := T5) (g' := (mkF m 15 #[rv x, rv b1, iv 3, iv 2, rv aF] [(.ref b1)])) ?_ fun _ zk => XS.aloadN H5.here hx rfl (hb hby d_prog_22_m5_14) rfl rfl zk
  refine Rn.pu (T' := T5) (g' := (mkF m 16 #[rv x, rv b1, iv 3, iv 2, rv aF] [(.int (2 : Int32)), (.ref b1)])) ?_ fun _ zk => XS.iloadN H5.here hx rfl (hb hby d_prog_22_m5_15) rfl zk
  refine Rn.pu (g' := (mkF m 17 #[rv x, rv b1, iv 3, iv 2, rv aF] [(.ref aD)])) ?_ (H5.aald A1 rfl (by decide) (v := (.ref aD)) rfl (g := (mkF m 16 #[rv x, rv b1, iv 3, iv 2, rv aF] [(.int (2 : Int32)), (.ref b1)])) rfl rfl (hb hby d_prog_22_m5_16))
  refine Rn.pu (T' := T5) (g' := (mkF m 19 #[rv x, rv b1, iv 3, iv 2, rv aD] [])) ?_ fun _ zk => XS.astore H5.here hx rfl (hb hby d_prog_22_m5_17) rfl rfl (l' := #[rv x, rv b1, iv 3, iv 2, rv aD]) rfl zk
  refine Rn.pu (T' := T5) (g' := (mkF m 21 #[rv x, rv b1, iv 3, iv 2, rv aD] [(.ref aD)])) ?_ fun _ zk => XS.aload H5.here hx rfl (hb hby d_prog_22_m5_19) rfl rfl zk
  obtain ⟨T6, H6, st6⟩ := H5.getF (host := "") (Or.inl (wd hw 104 rfl)) Via.refl (FaD.ext H5.old) (g := (mkF m 21 #[rv x, rv b1, iv 3, iv 2, rv aD] [(.ref aD)])) rfl rfl (hb hby d_prog_22_m5_21)
  refine Rn.pu (g' := (mkF m 24 #[rv x, rv b1, iv 3, iv 2, rv aD] [(.ref sD)])) ?_ st6
  refine Rn.pu (T' := T6) (g' := (mkF m 25 #[rv x, rv b1, iv 3, iv 2, rv aD] [(.ref x), (.ref sD)])) ?_ fun _ zk => XS.aloadN H6.here hx rfl (hb hby d_prog_22_m5_24) rfl rfl zk
  obtain ⟨_, T7, h7, H7, ⟨rfl, rfl⟩, -, st7⟩ := H6.callV (C := "java/lang/String") (wd hw 106 rfl) (wd hw 73 rfl) (wd hw 75 rfl) (wd hw 74 rfl) (by decide) (payEqY (W := 0) q2 (hws_eq hw) (wd hw 2 rfl) (TaD.ext H6.old) (F.keep K1 nin0 nin0) (SC0.ext H6.old) hz0 (by decide) (by decide)) (TaD.ext H6.old).exa (g := (mkF m 25 #[rv x, rv b1, iv 3, iv 2, rv aD] [(.ref x), (.ref sD)])) rfl (by rw [hml]; rfl) (argsL := [(.ref x)]) (rest := []) (lenOf pd__Ljava_lang_Object__Z rfl) rfl rfl (Nat.le_of_eq rfl) (hb hby d_prog_22_m5_25) (by decide) (by decide) all0
  refine Rn.pu (g' := (mkF m 28 #[rv x, rv b1, iv 3, iv 2, rv aD] [(.int (1 : Int32))])) ?_ st7
  refine Rn.pu (T' := T7) (g' := (mkF m 31 #[rv x, rv b1, iv 3, iv 2, rv aD] [])) ?_ fun _ zk => XS.ifNo H7.here hx rfl (hb hby d_prog_22_m5_28) rfl (z_eq_f (by decide)) zk
  refine Rn.pu (T' := T7) (g' := (mkF m 33 #[rv x, rv b1, iv 3, iv 2, rv aD] [(.ref aD)])) ?_ fun _ zk => XS.aload H7.here hx rfl (hb hby d_prog_22_m5_31) rfl rfl zk
  exact H7.retA ends_N hlk hret rfl rfl rfl (hb hby d_prog_22_m5_33) (by decide) (by decide) (fun _ q => nomatch q) rfl
set_option maxRecDepth 65536 in
set_option maxHeartbeats 40000000 in
theorem c_fw3 (l : Launch) {Z : State} {a0 : Array Value} {zc : Int32} {fm : Value} {aV : Addr} {kV : ClassId} {aA : Addr} {sA : Addr} {tA : Addr} {aF : Addr} {sF : Addr} {tF : Addr} {aD : Addr} {sD : Addr} {tD : Addr} (B : Base Z a0 zc fm aV kV aA sA tA aF sF tF aD sD tD) (x t : Addr) (cs : List Int32) (h0 : Heap) (O : Ext Z.heap h0) (F : Str Z h0 x t cs) (q0 : ¬ [(97 : Int32), (99 : Int32), (116 : Int32), (105 : Int32), (118 : Int32), (101 : Int32)] = cs) (q1 : ¬ [(102 : Int32), (97 : Int32), (105 : Int32), (108 : Int32), (105 : Int32), (110 : Int32), (103 : Int32)] = cs) (q2 : ¬ [(100 : Int32), (105 : Int32), (115 : Int32), (97 : Int32), (98 : Int32), (108 : Int32), (101 : Int32), (100 : Int32)] = cs) :
    MetN l Z (⟨"com/example/calm_inbox/calminbox/webhook/WebhookStatus", "fromWireName", "(Ljava/lang/String;)Lcom/example/calm_inbox/calminbox/webhook/WebhookStatus;"⟩ : MethodName) prog_22_method_5_code 5 (some (.object "com/example/calm_inbox/calminbox/webhook/WebhookStatus")) [] ({ frames := 3, cells := 1, slots := 3, locals := 60 } : Room) #[(.ref x)] h0 [] (fun v h => v = some .null) := by
  have B0 := B
  obtain ⟨hw, SC0, hz0, SF1, rf1, hh7, hhA, hhF, hhD, hhE, hcw, SaA, FaA, TaA, SaF, FaF, TaF, SaD, FaD, TaD, SaV, XaV, AaV⟩ := B
  refine MetN.mk (plainFor_of_name pn_com_example_calm_inbox_calminbox_webhook_WebhookStatus) (fun m => ef_c_fw3 m x) O ?_
  intro p e s m below meth c T0 hx hby hml hret hlk hnm hsh H0
  have zs : s.heap.size = h0.size := by rw [hsh]
  have lx := natlt (F).lt
  have lt := natlt (F).ltt
  obtain ⟨_, T1, h1, H1, ⟨b1, rfl, A1, gb1, lb1⟩, K1, st1⟩ := H0.callS (wd hw 87 rfl) (wd hw 88 rfl) (wd hw 82 rfl) (wd hw 89 rfl) (by decide) (MetN.pay (W := 0) (c_values l B0  h0 H0.old) (wd hw 89 rfl) (wd hw 82 rfl) (by decide) (by decide)) (g := (mkF m 0 #[rv x, .unset, .unset, .unset, .unset] [])) rfl (by rw [hml]; rfl) (argsL := []) (rest := []) (lenOf pd___ALcom_example_calm_inbox_calminbox_webhook_WebhookStatus_ rfl) rfl rfl (Nat.le_of_eq rfl) (hb hby d_prog_22_m5_0) (by decide) (by decide) all0
  have zh1 := K1.1
  refine Rn.pu (g' := (mkF m 3 #[rv x, .unset, .unset, .unset, .unset] [(.ref b1)])) ?_ st1
  refine Rn.pu (T' := T1) (g' := (mkF m 4 #[rv x, rv b1, .unset, .unset, .unset] [])) ?_ fun _ zk => XS.astoreN H1.here hx rfl (hb hby d_prog_22_m5_3) rfl rfl (l' := #[rv x, rv b1, .unset, .unset, .unset]) rfl zk
  refine Rn.pu (T' := T1) (g' := (mkF m 5 #[rv x, rv b1, .unset, .unset, .unset] [(.ref b1)])) ?_ fun _ zk => XS.aloadN H1.here hx rfl (hb hby d_prog_22_m5_4) rfl rfl zk
  refine Rn.pu (g' := (mkF m 6 #[rv x, rv b1, .unset, .unset, .unset] [(.int (3 : Int32))])) ?_ (H1.alen A1 (g := (mkF m 5 #[rv x, rv b1, .unset, .unset, .unset] [(.ref b1)])) rfl rfl (hb hby d_prog_22_m5_5))
  refine Rn.pu (T' := T1) (g' := (mkF m 7 #[rv x, rv b1, iv 3, .unset, .unset] [])) ?_ fun _ zk => XS.istoreN H1.here hx rfl (hb hby d_prog_22_m5_6) rfl (l' := #[rv x, rv b1, iv 3, .unset, .unset]) rfl zk
  refine Rn.pu (T' := T1) (g' := (mkF m 8 #[rv x, rv b1, iv 3, .unset, .unset] [(.int (0 : Int32))])) ?_ fun _ zk => XS.iconst H1.here hx rfl (hb hby d_prog_22_m5_7) zk
  refine Rn.pu (T' := T1) (g' := (mkF m 9 #[rv x, rv b1, iv 3, iv 0, .unset] [])) ?_ fun _ zk => XS.istoreN H1.here hx rfl (hb hby d_prog_22_m5_8) rfl (l' := #[rv x, rv b1, iv 3, iv 0, .unset]) rfl zk
  refine Rn.pu (T' := T1) (g' := (mkF m 10 #[rv x, rv b1, iv 3, iv 0, .unset] [(.int (0 : Int32))])) ?_ fun _ zk => XS.iloadN H1.here hx rfl (hb hby d_prog_22_m5_9) rfl zk
  refine Rn.pu (T' := T1) (g' := (mkF m 11 #[rv x, rv b1, iv 3, iv 0, .unset] [(.int (3 : Int32)), (.int (0 : Int32))])) ?_ fun _ zk => XS.iloadN H1.here hx rfl (hb hby d_prog_22_m5_10) rfl zk
  refine Rn.pu (T' := T1) (g' := (mkF m 14 #[rv x, rv b1, iv 3, iv 0, .unset] [])) ?_ fun _ zk => XS.icmpNo H1.here hx rfl (hb hby d_prog_22_m5_11) rfl (c_ge_f (by decide)) zk
  refine Rn.pu (T' := T1) (g' := (mkF m 15 #[rv x, rv b1, iv 3, iv 0, .unset] [(.ref b1)])) ?_ fun _ zk => XS.aloadN H1.here hx rfl (hb hby d_prog_22_m5_14) rfl rfl zk
  refine Rn.pu (T' := T1) (g' := (mkF m 16 #[rv x, rv b1, iv 3, iv 0, .unset] [(.int (0 : Int32)), (.ref b1)])) ?_ fun _ zk => XS.iloadN H1.here hx rfl (hb hby d_prog_22_m5_15) rfl zk
  refine Rn.pu (g' := (mkF m 17 #[rv x, rv b1, iv 3, iv 0, .unset] [(.ref aA)])) ?_ (H1.aald A1 rfl (by decide) (v := (.ref aA)) rfl (g := (mkF m 16 #[rv x, rv b1, iv 3, iv 0, .unset] [(.int (0 : Int32)), (.ref b1)])) rfl rfl (hb hby d_prog_22_m5_16))
  refine Rn.pu (T' := T1) (g' := (mkF m 19 #[rv x, rv b1, iv 3, iv 0, rv aA] [])) ?_ fun _ zk => XS.astore H1.here hx rfl (hb hby d_prog_22_m5_17) rfl rfl (l' := #[rv x, rv b1, iv 3, iv 0, rv aA]) rfl zk
  refine Rn.pu (T' := T1) (g' := (mkF m 21 #[rv x, rv b1, iv 3, iv 0, rv aA] [(.ref aA)])) ?_ fun _ zk => XS.aload H1.here hx rfl (hb hby d_prog_22_m5_19) rfl rfl zk
  obtain ⟨T2, H2, st2⟩ := H1.getF (host := "") (Or.inl (wd hw 104 rfl)) Via.refl (FaA.ext H1.old) (g := (mkF m 21 #[rv x, rv b1, iv 3, iv 0, rv aA] [(.ref aA)])) rfl rfl (hb hby d_prog_22_m5_21)
  refine Rn.pu (g' := (mkF m 24 #[rv x, rv b1, iv 3, iv 0, rv aA] [(.ref sA)])) ?_ st2
  refine Rn.pu (T' := T2) (g' := (mkF m 25 #[rv x, rv b1, iv 3, iv 0, rv aA] [(.ref x), (.ref sA)])) ?_ fun _ zk => XS.aloadN H2.here hx rfl (hb hby d_prog_22_m5_24) rfl rfl zk
  obtain ⟨_, T3, h3, H3, ⟨rfl, rfl⟩, -, st3⟩ := H2.callV (C := "java/lang/String") (wd hw 106 rfl) (wd hw 73 rfl) (wd hw 75 rfl) (wd hw 74 rfl) (by decide) (payEqN (W := 0) q0 (hws_eq hw) (wd hw 2 rfl) (TaA.ext H2.old) (F.keep K1 nin0 nin0) (SC0.ext H2.old) hz0 (by decide) (by decide)) (TaA.ext H2.old).exa (g := (mkF m 25 #[rv x, rv b1, iv 3, iv 0, rv aA] [(.ref x), (.ref sA)])) rfl (by rw [hml]; rfl) (argsL := [(.ref x)]) (rest := []) (lenOf pd__Ljava_lang_Object__Z rfl) rfl rfl (Nat.le_of_eq rfl) (hb hby d_prog_22_m5_25) (by decide) (by decide) all0
  refine Rn.pu (g' := (mkF m 28 #[rv x, rv b1, iv 3, iv 0, rv aA] [(.int (0 : Int32))])) ?_ st3
  refine Rn.pu (T' := T3) (g' := (mkF m 34 #[rv x, rv b1, iv 3, iv 0, rv aA] [])) ?_ fun _ zk => XS.ifYes H3.here hx rfl (pc0 := 28) (pc' := 34) rfl (hb hby d_prog_22_m5_28) rfl (z_eq_t rfl) (by decide) (by decide) zk
  refine Rn.pu (T' := T3) (g' := (mkF m 37 #[rv x, rv b1, iv 3, iv 1, rv aA] [])) ?_ fun _ zk => XS.iinc H3.here hx rfl (hb hby d_prog_22_m5_34) rfl (l' := #[rv x, rv b1, iv 3, iv 1, rv aA]) rfl zk
  refine Rn.pu (T' := T3) (g' := (mkF m 9 #[rv x, rv b1, iv 3, iv 1, rv aA] [])) ?_ fun _ zk => XS.goto H3.here hx rfl (pc0 := 37) (pc' := 9) rfl (hb hby d_prog_22_m5_37) (by decide) (by decide) zk
  refine Rn.pu (T' := T3) (g' := (mkF m 10 #[rv x, rv b1, iv 3, iv 1, rv aA] [(.int (1 : Int32))])) ?_ fun _ zk => XS.iloadN H3.here hx rfl (hb hby d_prog_22_m5_9) rfl zk
  refine Rn.pu (T' := T3) (g' := (mkF m 11 #[rv x, rv b1, iv 3, iv 1, rv aA] [(.int (3 : Int32)), (.int (1 : Int32))])) ?_ fun _ zk => XS.iloadN H3.here hx rfl (hb hby d_prog_22_m5_10) rfl zk
  refine Rn.pu (T' := T3) (g' := (mkF m 14 #[rv x, rv b1, iv 3, iv 1, rv aA] [])) ?_ fun _ zk => XS.icmpNo H3.here hx rfl (hb hby d_prog_22_m5_11) rfl (c_ge_f (by decide)) zk
  refine Rn.pu (T' := T3) (g' := (mkF m 15 #[rv x, rv b1, iv 3, iv 1, rv aA] [(.ref b1)])) ?_ fun _ zk => XS.aloadN H3.here hx rfl (hb hby d_prog_22_m5_14) rfl rfl zk
  refine Rn.pu (T' := T3) (g' := (mkF m 16 #[rv x, rv b1, iv 3, iv 1, rv aA] [(.int (1 : Int32)), (.ref b1)])) ?_ fun _ zk => XS.iloadN H3.here hx rfl (hb hby d_prog_22_m5_15) rfl zk
  refine Rn.pu (g' := (mkF m 17 #[rv x, rv b1, iv 3, iv 1, rv aA] [(.ref aF)])) ?_ (H3.aald A1 rfl (by decide) (v := (.ref aF)) rfl (g := (mkF m 16 #[rv x, rv b1, iv 3, iv 1, rv aA] [(.int (1 : Int32)), (.ref b1)])) rfl rfl (hb hby d_prog_22_m5_16))
  refine Rn.pu (T' := T3) (g' := (mkF m 19 #[rv x, rv b1, iv 3, iv 1, rv aF] [])) ?_ fun _ zk => XS.astore H3.here hx rfl (hb hby d_prog_22_m5_17) rfl rfl (l' := #[rv x, rv b1, iv 3, iv 1, rv aF]) rfl zk
  refine Rn.pu (T' := T3) (g' := (mkF m 21 #[rv x, rv b1, iv 3, iv 1, rv aF] [(.ref aF)])) ?_ fun _ zk => XS.aload H3.here hx rfl (hb hby d_prog_22_m5_19) rfl rfl zk
  obtain ⟨T4, H4, st4⟩ := H3.getF (host := "") (Or.inl (wd hw 104 rfl)) Via.refl (FaF.ext H3.old) (g := (mkF m 21 #[rv x, rv b1, iv 3, iv 1, rv aF] [(.ref aF)])) rfl rfl (hb hby d_prog_22_m5_21)
  refine Rn.pu (g' := (mkF m 24 #[rv x, rv b1, iv 3, iv 1, rv aF] [(.ref sF)])) ?_ st4
  refine Rn.pu (T' := T4) (g' := (mkF m 25 #[rv x, rv b1, iv 3, iv 1, rv aF] [(.ref x), (.ref sF)])) ?_ fun _ zk => XS.aloadN H4.here hx rfl (hb hby d_prog_22_m5_24) rfl rfl zk
  obtain ⟨_, T5, h5, H5, ⟨rfl, rfl⟩, -, st5⟩ := H4.callV (C := "java/lang/String") (wd hw 106 rfl) (wd hw 73 rfl) (wd hw 75 rfl) (wd hw 74 rfl) (by decide) (payEqN (W := 0) q1 (hws_eq hw) (wd hw 2 rfl) (TaF.ext H4.old) (F.keep K1 nin0 nin0) (SC0.ext H4.old) hz0 (by decide) (by decide)) (TaF.ext H4.old).exa (g := (mkF m 25 #[rv x, rv b1, iv 3, iv 1, rv aF] [(.ref x), (.ref sF)])) rfl (by rw [hml]; rfl) (argsL := [(.ref x)]) (rest := []) (lenOf pd__Ljava_lang_Object__Z rfl) rfl rfl (Nat.le_of_eq rfl) (hb hby d_prog_22_m5_25) (by decide) (by decide) all0
  refine Rn.pu (g' := (mkF m 28 #[rv x, rv b1, iv 3, iv 1, rv aF] [(.int (0 : Int32))])) ?_ st5
  refine Rn.pu (T' := T5) (g' := (mkF m 34 #[rv x, rv b1, iv 3, iv 1, rv aF] [])) ?_ fun _ zk => XS.ifYes H5.here hx rfl (pc0 := 28) (pc' := 34) rfl (hb hby d_prog_22_m5_28) rfl (z_eq_t rfl) (by decide) (by decide) zk
  refine Rn.pu (T' := T5) (g' := (mkF m 37 #[rv x, rv b1, iv 3, iv 2, rv aF] [])) ?_ fun _ zk => XS.iinc H5.here hx rfl (hb hby d_prog_22_m5_34) rfl (l' := #[rv x, rv b1, iv 3, iv 2, rv aF]) rfl zk
  refine Rn.pu (T' := T5) (g' := (mkF m 9 #[rv x, rv b1, iv 3, iv 2, rv aF] [])) ?_ fun _ zk => XS.goto H5.here hx rfl (pc0 := 37) (pc' := 9) rfl (hb hby d_prog_22_m5_37) (by decide) (by decide) zk
  refine Rn.pu (T' := T5) (g' := (mkF m 10 #[rv x, rv b1, iv 3, iv 2, rv aF] [(.int (2 : Int32))])) ?_ fun _ zk => XS.iloadN H5.here hx rfl (hb hby d_prog_22_m5_9) rfl zk
  refine Rn.pu (T' := T5) (g' := (mkF m 11 #[rv x, rv b1, iv 3, iv 2, rv aF] [(.int (3 : Int32)), (.int (2 : Int32))])) ?_ fun _ zk => XS.iloadN H5.here hx rfl (hb hby d_prog_22_m5_10) rfl zk
  refine Rn.pu (T' := T5) (g' := (mkF m 14 #[rv x, rv b1, iv 3, iv 2, rv aF] [])) ?_ fun _ zk => XS.icmpNo H5.here hx rfl (hb hby d_prog_22_m5_11) rfl (c_ge_f (by decide)) zk
  refine Rn.pu (T' := T5) (g' := (mkF m 15 #[rv x, rv b1, iv 3, iv 2, rv aF] [(.ref b1)])) ?_ fun _ zk => XS.aloadN H5.here hx rfl (hb hby d_prog_22_m5_14) rfl rfl zk
  refine Rn.pu (T' := T5) (g' := (mkF m 16 #[rv x, rv b1, iv 3, iv 2, rv aF] [(.int (2 : Int32)), (.ref b1)])) ?_ fun _ zk => XS.iloadN H5.here hx rfl (hb hby d_prog_22_m5_15) rfl zk
  refine Rn.pu (g' := (mkF m 17 #[rv x, rv b1, iv 3, iv 2, rv aF] [(.ref aD)])) ?_ (H5.aald A1 rfl (by decide) (v := (.ref aD)) rfl (g := (mkF m 16 #[rv x, rv b1, iv 3, iv 2, rv aF] [(.int (2 : Int32)), (.ref b1)])) rfl rfl (hb hby d_prog_22_m5_16))
  refine Rn.pu (T' := T5) (g' := (mkF m 19 #[rv x, rv b1, iv 3, iv 2, rv aD] [])) ?_ fun _ zk => XS.astore H5.here hx rfl (hb hby d_prog_22_m5_17) rfl rfl (l' := #[rv x, rv b1, iv 3, iv 2, rv aD]) rfl zk
  refine Rn.pu (T' := T5) (g' := (mkF m 21 #[rv x, rv b1, iv 3, iv 2, rv aD] [(.ref aD)])) ?_ fun _ zk => XS.aload H5.here hx rfl (hb hby d_prog_22_m5_19) rfl rfl zk
  obtain ⟨T6, H6, st6⟩ := H5.getF (host := "") (Or.inl (wd hw 104 rfl)) Via.refl (FaD.ext H5.old) (g := (mkF m 21 #[rv x, rv b1, iv 3, iv 2, rv aD] [(.ref aD)])) rfl rfl (hb hby d_prog_22_m5_21)
  refine Rn.pu (g' := (mkF m 24 #[rv x, rv b1, iv 3, iv 2, rv aD] [(.ref sD)])) ?_ st6
  refine Rn.pu (T' := T6) (g' := (mkF m 25 #[rv x, rv b1, iv 3, iv 2, rv aD] [(.ref x), (.ref sD)])) ?_ fun _ zk => XS.aloadN H6.here hx rfl (hb hby d_prog_22_m5_24) rfl rfl zk
  obtain ⟨_, T7, h7, H7, ⟨rfl, rfl⟩, -, st7⟩ := H6.callV (C := "java/lang/String") (wd hw 106 rfl) (wd hw 73 rfl) (wd hw 75 rfl) (wd hw 74 rfl) (by decide) (payEqN (W := 0) q2 (hws_eq hw) (wd hw 2 rfl) (TaD.ext H6.old) (F.keep K1 nin0 nin0) (SC0.ext H6.old) hz0 (by decide) (by decide)) (TaD.ext H6.old).exa (g := (mkF m 25 #[rv x, rv b1, iv 3, iv 2, rv aD] [(.ref x), (.ref sD)])) rfl (by rw [hml]; rfl) (argsL := [(.ref x)]) (rest := []) (lenOf pd__Ljava_lang_Object__Z rfl) rfl rfl (Nat.le_of_eq rfl) (hb hby d_prog_22_m5_25) (by decide) (by decide) all0
  refine Rn.pu (g' := (mkF m 28 #[rv x, rv b1, iv 3, iv 2, rv aD] [(.int (0 : Int32))])) ?_ st7
  refine Rn.pu (T' := T7) (g' := (mkF m 34 #[rv x, rv b1, iv 3, iv 2, rv aD] [])) ?_ fun _ zk => XS.ifYes H7.here hx rfl (pc0 := 28) (pc' := 34) rfl (hb hby d_prog_22_m5_28) rfl (z_eq_t rfl) (by decide) (by decide) zk
  refine Rn.pu (T' := T7) (g' := (mkF m 37 #[rv x, rv b1, iv 3, iv 3, rv aD] [])) ?_ fun _ zk => XS.iinc H7.here hx rfl (hb hby d_prog_22_m5_34) rfl (l' := #[rv x, rv b1, iv 3, iv 3, rv aD]) rfl zk
  refine Rn.pu (T' := T7) (g' := (mkF m 9 #[rv x, rv b1, iv 3, iv 3, rv aD] [])) ?_ fun _ zk => XS.goto H7.here hx rfl (pc0 := 37) (pc' := 9) rfl (hb hby d_prog_22_m5_37) (by decide) (by decide) zk
  refine Rn.pu (T' := T7) (g' := (mkF m 10 #[rv x, rv b1, iv 3, iv 3, rv aD] [(.int (3 : Int32))])) ?_ fun _ zk => XS.iloadN H7.here hx rfl (hb hby d_prog_22_m5_9) rfl zk
  refine Rn.pu (T' := T7) (g' := (mkF m 11 #[rv x, rv b1, iv 3, iv 3, rv aD] [(.int (3 : Int32)), (.int (3 : Int32))])) ?_ fun _ zk => XS.iloadN H7.here hx rfl (hb hby d_prog_22_m5_10) rfl zk
  refine Rn.pu (T' := T7) (g' := (mkF m 40 #[rv x, rv b1, iv 3, iv 3, rv aD] [])) ?_ fun _ zk => XS.icmpYes H7.here hx rfl (pc0 := 11) (pc' := 40) rfl (hb hby d_prog_22_m5_11) rfl (c_ge_t (by decide)) (by decide) (by decide) zk
  refine Rn.pu (T' := T7) (g' := (mkF m 41 #[rv x, rv b1, iv 3, iv 3, rv aD] [.null])) ?_ fun _ zk => XS.aconstNull H7.here hx rfl (hb hby d_prog_22_m5_40) zk
  exact H7.retA ends_N hlk hret rfl rfl rfl (hb hby d_prog_22_m5_41) (by decide) (by decide) (fun _ q => nomatch q) rfl
set_option maxRecDepth 65536 in
set_option maxHeartbeats 40000000 in
theorem c_law (l : Launch) {Z : State} {a0 : Array Value} {zc : Int32} {fm : Value} {aV : Addr} {kV : ClassId} {aA : Addr} {sA : Addr} {tA : Addr} {aF : Addr} {sF : Addr} {tF : Addr} {aD : Addr} {sD : Addr} {tD : Addr} (B : Base Z a0 zc fm aV kV aA sA tA aF sF tF aD sD tD) (p0 : Int32) (p1 : Int32) (p2 : Int32) (p3 : Int32) (p4 : Int32) :
    MetW l Z x code maxLocals ret tables_1 room_1 #[(.int p0), (.int p1), (.int p2), (.int p3), (.int p4)] Z.heap [] ((fun vm => IB Z vm [] ∧ Z.Warmed39 vm)) (fun v vm h => v = some (.int 1)) := by
  have B0 := B
  obtain ⟨hw, SC0, hz0, SF1, rf1, hh7, hhA, hhF, hhD, hhE, hcw, SaA, FaA, TaA, SaF, FaF, TaF, SaD, FaD, TaD, SaV, XaV, AaV⟩ := B
  refine MetW.mk (plainFor_of_name pn_com_example_calm_inbox_calminbox_webhook_WebhookStatusFromWireNamePinLaw) (fun m => ef_c_law m p0 p1 p2 p3 p4) ⟨Nat.le_refl _, fun _ _ q => q⟩ ?_
  intro p e s m below meth c T0 hx hby hml hret hlk hnm hsh H0
  obtain ⟨h0, eh0⟩ : ∃ z, z = Z.heap := ⟨_, rfl⟩
  rw [← eh0] at H0 hsh
  have H0 : Hs p l e room_1 s m #[(.int p0), (.int p1), (.int p2), (.int p3), (.int p4)] below meth c Z "com/example/calm_inbox/calminbox/webhook/WebhookStatusFromWireNamePinLaw" [] ((fun vm => IB Z vm [] ∧ Z.Warmed39 vm)) T0 h0 0 0 := H0
  have zs : s.heap.size = h0.size := by rw [hsh]
  have zZ := H0.old.1
  refine Rn.pu (T' := T0) (g' := (mkF m 1 #[iv p0, iv p1, iv p2, iv p3, iv p4, .unset, .unset, .unset, .unset, .unset, .unset, .unset] [(.int p0)])) ?_ fun _ zk => XS.iloadN H0.here hx rfl (hb hby at_0) rfl zk
  refine Rn.pu (T' := T0) (g' := (mkF m 2 #[iv p0, iv p1, iv p2, iv p3, iv p4, .unset, .unset, .unset, .unset, .unset, .unset, .unset] [(.int (3 : Int32)), (.int p0)])) ?_ fun _ zk => XS.iconst H0.here hx rfl (hb hby at_1) zk
  refine Rn.pu (T' := T0) (g' := (mkF m 3 #[iv p0, iv p1, iv p2, iv p3, iv p4, .unset, .unset, .unset, .unset, .unset, .unset, .unset] [(.int (p0 &&& (3 : Int32)))])) ?_ fun _ zk => XS.iand H0.here hx rfl (hb hby at_2) rfl zk
  refine Rn.pu (T' := T0) (g' := (mkF m 5 #[iv p0, iv p1, iv p2, iv p3, iv p4, .val (.int (p0 &&& (3 : Int32))), .unset, .unset, .unset, .unset, .unset, .unset] [])) ?_ fun _ zk => XS.istore H0.here hx rfl (hb hby at_3) rfl (l' := #[iv p0, iv p1, iv p2, iv p3, iv p4, .val (.int (p0 &&& (3 : Int32))), .unset, .unset, .unset, .unset, .unset, .unset]) rfl zk
  obtain ⟨kd, ekd⟩ : ∃ z : Int32, z = (p0 &&& (3 : Int32)) := ⟨_, rfl⟩
  rw [← ekd]
  have rk : kd = 0 ∨ kd = 1 ∨ kd = 2 ∨ kd = 3 := by rw [ekd]; exact own_and3 _
  clear ekd
  rcases rk with rfl | rfl | rfl | rfl
  ·
    refine Rn.pu (T' := T0) (g' := (mkF m 7 #[iv p0, iv p1, iv p2, iv p3, iv p4, iv 0, .unset, .unset, .unset, .unset, .unset, .unset] [(.int (0 : Int32))])) ?_ fun _ zk => XS.iload H0.here hx rfl (hb hby at_5) rfl zk
    refine Rn.pu (T' := T0) (g' := (mkF m 10 #[iv p0, iv p1, iv p2, iv p3, iv p4, iv 0, .unset, .unset, .unset, .unset, .unset, .unset] [])) ?_ fun _ zk => XS.ifNo H0.here hx rfl (hb hby at_7) rfl (z_ne_f rfl) zk
    obtain ⟨l1, u1, T1, h1, H1, K1, S1, st1⟩ := H0.ldcV (Ts := []) (P := (fun vm => Z.Warmed39 vm)) (fun _ q => q) w39_stab (wd hw 0 rfl) (hws_sa hw) (by simp) hhA hcw (cs := [(97 : Int32), (99 : Int32), (116 : Int32), (105 : Int32), (118 : Int32), (101 : Int32)]) (by decide) (by decide) (by decide) (by decide) (g := (mkF m 10 #[iv p0, iv p1, iv p2, iv p3, iv p4, iv 0, .unset, .unset, .unset, .unset, .unset, .unset] [])) rfl (hb hby at_10) (n := 24) (by decide) (by decide) (by decide) (by decide)
    have zh1 := K1.1
    have l1a := natlt (S1).lt
    have l1t := natlt (S1).ltt
    refine Rn.pu (g' := (mkF m 12 #[iv p0, iv p1, iv p2, iv p3, iv p4, iv 0, .unset, .unset, .unset, .unset, .unset, .unset] [(.ref l1)])) ?_ st1
    refine Rn.pu (T' := T1) (g' := (mkF m 39 #[iv p0, iv p1, iv p2, iv p3, iv p4, iv 0, .unset, .unset, .unset, .unset, .unset, .unset] [(.ref l1)])) ?_ fun _ zk => XS.goto H1.here hx rfl (pc0 := 12) (pc' := 39) rfl (hb hby at_12) (by decide) (by decide) zk
    refine Rn.pu (T' := T1) (g' := (mkF m 41 #[iv p0, iv p1, iv p2, iv p3, iv p4, iv 0, rv l1, .unset, .unset, .unset, .unset, .unset] [])) ?_ fun _ zk => XS.astore H1.here hx rfl (hb hby at_39) rfl rfl (l' := #[iv p0, iv p1, iv p2, iv p3, iv p4, iv 0, rv l1, .unset, .unset, .unset, .unset, .unset]) rfl zk
    have J63 : ∀ (TJ63 : State) (n : Int32), Hs p l e room_1 s m #[(.int p0), (.int p1), (.int p2), (.int p3), (.int p4)] below meth c Z "com/example/calm_inbox/calminbox/webhook/WebhookStatusFromWireNamePinLaw" [] (fun vm => IB Z vm ["active"] ∧ Lv Z "com/example/calm_inbox/calminbox/webhook/WebhookStatusFromWireNamePinLaw" 7 l1 vm ∧ Z.Warmed39 vm) TJ63 h1 2 28 → (n = 0 ∨ n = 1 ∨ n = 2 ∨ n = 3 ∨ n = 4 ∨ n = 5 ∨ n = 6 ∨ n = 7 ∨ n = 8 ∨ n = 9) → Rn p e below s ReturnedEndW [] (room_1).cells (room_1).slots (fun v vm h => v = some (.int 1)) TJ63 (mkF m 63 #[iv p0, iv p1, iv p2, iv p3, iv p4, iv 0, rv l1, .unset, .unset, .unset, .unset, .unset] [(.int n)]) := by
      intro TJ63 n HJ63 yJ63
      refine Rn.pu (T' := TJ63) (g' := (mkF m 65 #[iv p0, iv p1, iv p2, iv p3, iv p4, iv 0, rv l1, iv n, .unset, .unset, .unset, .unset] [])) ?_ fun _ zk => XS.istore HJ63.here hx rfl (hb hby at_63) rfl (l' := #[iv p0, iv p1, iv p2, iv p3, iv p4, iv 0, rv l1, iv n, .unset, .unset, .unset, .unset]) rfl zk
      have J78 : ∀ (TJ78 : State) (mk : Int32), Hs p l e room_1 s m #[(.int p0), (.int p1), (.int p2), (.int p3), (.int p4)] below meth c Z "com/example/calm_inbox/calminbox/webhook/WebhookStatusFromWireNamePinLaw" [] (fun vm => IB Z vm ["active"] ∧ Lv Z "com/example/calm_inbox/calminbox/webhook/WebhookStatusFromWireNamePinLaw" 7 l1 vm ∧ Z.Warmed39 vm) TJ78 h1 2 28 → Rn p e below s ReturnedEndW [] (room_1).cells (room_1).slots (fun v vm h => v = some (.int 1)) TJ78 (mkF m 78 #[iv p0, iv p1, iv p2, iv p3, iv p4, iv 0, rv l1, iv n, .unset, .unset, .unset, .unset] [(.int mk)]) := by
        intro TJ78 mk HJ78
        refine Rn.pu (T' := TJ78) (g' := (mkF m 80 #[iv p0, iv p1, iv p2, iv p3, iv p4, iv 0, rv l1, iv n, iv mk, .unset, .unset, .unset] [])) ?_ fun _ zk => XS.istore HJ78.here hx rfl (hb hby at_78) rfl (l' := #[iv p0, iv p1, iv p2, iv p3, iv p4, iv 0, rv l1, iv n, iv mk, .unset, .unset, .unset]) rfl zk
        refine Rn.pu (T' := TJ78) (g' := (mkF m 82 #[iv p0, iv p1, iv p2, iv p3, iv p4, iv 0, rv l1, iv n, iv mk, .unset, .unset, .unset] [(.int (9 : Int32))])) ?_ fun _ zk => XS.bipush HJ78.here hx rfl (hb hby at_80) zk
        obtain ⟨a2, k2, T2, h2, e2, H2, K2, A2, st2⟩ := HJ78.newP (aty := .char) (wd hw 21 rfl) (g := (mkF m 82 #[iv p0, iv p1, iv p2, iv p3, iv p4, iv 0, rv l1, iv n, iv mk, .unset, .unset, .unset] [(.int (9 : Int32))])) rfl (hb hby at_82) rfl (by decide) (cap := 9) (by decide) (by decide) (by decide) (by decide)
        have zh2 := K2.1
        have l2 := natlt (A2).lt
        have g2 : s.heap.size ≤ a2 := by omega
        refine Rn.pu (g' := (mkF m 84 #[iv p0, iv p1, iv p2, iv p3, iv p4, iv 0, rv l1, iv n, iv mk, .unset, .unset, .unset] [(.ref a2)])) ?_ st2
        refine Rn.pu (T' := T2) (g' := (mkF m 86 #[iv p0, iv p1, iv p2, iv p3, iv p4, iv 0, rv l1, iv n, iv mk, rv a2, .unset, .unset] [])) ?_ fun _ zk => XS.astore H2.here hx rfl (hb hby at_84) rfl rfl (l' := #[iv p0, iv p1, iv p2, iv p3, iv p4, iv 0, rv l1, iv n, iv mk, rv a2, .unset, .unset]) rfl zk
        refine Rn.pu (T' := T2) (g' := (mkF m 88 #[iv p0, iv p1, iv p2, iv p3, iv p4, iv 0, rv l1, iv n, iv mk, rv a2, .unset, .unset] [(.ref a2)])) ?_ fun _ zk => XS.aload H2.here hx rfl (hb hby at_86) rfl rfl zk
        refine Rn.pu (T' := T2) (g' := (mkF m 89 #[iv p0, iv p1, iv p2, iv p3, iv p4, iv 0, rv l1, iv n, iv mk, rv a2, .unset, .unset] [(.int (0 : Int32)), (.ref a2)])) ?_ fun _ zk => XS.iconst H2.here hx rfl (hb hby at_88) zk
        refine Rn.pu (T' := T2) (g' := (mkF m 91 #[iv p0, iv p1, iv p2, iv p3, iv p4, iv 0, rv l1, iv n, iv mk, rv a2, .unset, .unset] [(.ref l1), (.int (0 : Int32)), (.ref a2)])) ?_ fun _ zk => XS.aload H2.here hx rfl (hb hby at_89) rfl rfl zk
        refine Rn.pu (T' := T2) (g' := (mkF m 93 #[iv p0, iv p1, iv p2, iv p3, iv p4, iv 0, rv l1, iv n, iv mk, rv a2, .unset, .unset] [(.int mk), (.ref l1), (.int (0 : Int32)), (.ref a2)])) ?_ fun _ zk => XS.iload H2.here hx rfl (hb hby at_91) rfl zk
        refine Rn.pu (T' := T2) (g' := (mkF m 94 #[iv p0, iv p1, iv p2, iv p3, iv p4, iv 0, rv l1, iv n, iv mk, rv a2, .unset, .unset] [(.int (0 : Int32)), (.int mk), (.ref l1), (.int (0 : Int32)), (.ref a2)])) ?_ fun _ zk => XS.iconst H2.here hx rfl (hb hby at_93) zk
        refine Rn.pu (T' := T2) (g' := (mkF m 95 #[iv p0, iv p1, iv p2, iv p3, iv p4, iv 0, rv l1, iv n, iv mk, rv a2, .unset, .unset] [(.int p2), (.int (0 : Int32)), (.int mk), (.ref l1), (.int (0 : Int32)), (.ref a2)])) ?_ fun _ zk => XS.iloadN H2.here hx rfl (hb hby at_94) rfl zk
        refine Rn.pu (T' := T2) (g' := (mkF m 96 #[iv p0, iv p1, iv p2, iv p3, iv p4, iv 0, rv l1, iv n, iv mk, rv a2, .unset, .unset] [(.int p3), (.int p2), (.int (0 : Int32)), (.int mk), (.ref l1), (.int (0 : Int32)), (.ref a2)])) ?_ fun _ zk => XS.iloadN H2.here hx rfl (hb hby at_95) rfl zk
        refine Rn.pu (T' := T2) (g' := (mkF m 98 #[iv p0, iv p1, iv p2, iv p3, iv p4, iv 0, rv l1, iv n, iv mk, rv a2, .unset, .unset] [(.int p4), (.int p3), (.int p2), (.int (0 : Int32)), (.int mk), (.ref l1), (.int (0 : Int32)), (.ref a2)])) ?_ fun _ zk => XS.iload H2.here hx rfl (hb hby at_96) rfl zk
        obtain ⟨_, T3, h3, H3, ⟨r3, rfl, rr3, rfl⟩, -, st3⟩ := H2.callS (wd hw 22 rfl) (wd hw 23 rfl) (wd hw 24 rfl) (wd hw 25 rfl) (by decide) (MetN.pay (W := 2) (c_ch l B0 l1 u1 mk p2 p3 p4 [(97 : Int32), (99 : Int32), (116 : Int32), (105 : Int32), (118 : Int32), (101 : Int32)] 0 h2 H2.old (S1.keep K2 nin0 nin0) (by decide) (by decide)) (wd hw 25 rfl) (wd hw 24 rfl) (by decide) (by decide)) (g := (mkF m 98 #[iv p0, iv p1, iv p2, iv p3, iv p4, iv 0, rv l1, iv n, iv mk, rv a2, .unset, .unset] [(.int p4), (.int p3), (.int p2), (.int (0 : Int32)), (.int mk), (.ref l1), (.int (0 : Int32)), (.ref a2)])) rfl (by rw [hml]; rfl) (argsL := [(.ref l1), (.int mk), (.int (0 : Int32)), (.int p2), (.int p3), (.int p4)]) (rest := [(.int (0 : Int32)), (.ref a2)]) (lenOf pd__Ljava_lang_String_IIIII_C rfl) rfl rfl (Nat.le_of_eq rfl) (hb hby at_98) (by decide) (by decide) all0
        refine Rn.pu (g' := (mkF m 101 #[iv p0, iv p1, iv p2, iv p3, iv p4, iv 0, rv l1, iv n, iv mk, rv a2, .unset, .unset] [(.int r3), (.int (0 : Int32)), (.ref a2)])) ?_ st3
        obtain ⟨T4, h4, H4, K4, A4, st4⟩ := H3.stC A2 (by decide) rfl (Or.inr (by omega)) (g := (mkF m 101 #[iv p0, iv p1, iv p2, iv p3, iv p4, iv 0, rv l1, iv n, iv mk, rv a2, .unset, .unset] [(.int r3), (.int (0 : Int32)), (.ref a2)])) rfl rfl (hb hby at_101)
        have zh4 := K4.1
        refine Rn.pu (g' := (mkF m 102 #[iv p0, iv p1, iv p2, iv p3, iv p4, iv 0, rv l1, iv n, iv mk, rv a2, .unset, .unset] [])) ?_ st4
        refine Rn.pu (T' := T4) (g' := (mkF m 104 #[iv p0, iv p1, iv p2, iv p3, iv p4, iv 0, rv l1, iv n, iv mk, rv a2, .unset, .unset] [(.ref a2)])) ?_ fun _ zk => XS.aload H4.here hx rfl (hb hby at_102) rfl rfl zk
        refine Rn.pu (T' := T4) (g' := (mkF m 105 #[iv p0, iv p1, iv p2, iv p3, iv p4, iv 0, rv l1, iv n, iv mk, rv a2, .unset, .unset] [(.int (1 : Int32)), (.ref a2)])) ?_ fun _ zk => XS.iconst H4.here hx rfl (hb hby at_104) zk
        refine Rn.pu (T' := T4) (g' := (mkF m 107 #[iv p0, iv p1, iv p2, iv p3, iv p4, iv 0, rv l1, iv n, iv mk, rv a2, .unset, .unset] [(.ref l1), (.int (1 : Int32)), (.ref a2)])) ?_ fun _ zk => XS.aload H4.here hx rfl (hb hby at_105) rfl rfl zk
        refine Rn.pu (T' := T4) (g' := (mkF m 109 #[iv p0, iv p1, iv p2, iv p3, iv p4, iv 0, rv l1, iv n, iv mk, rv a2, .unset, .unset] [(.int mk), (.ref l1), (.int (1 : Int32)), (.ref a2)])) ?_ fun _ zk => XS.iload H4.here hx rfl (hb hby at_107) rfl zk
        refine Rn.pu (T' := T4) (g' := (mkF m 110 #[iv p0, iv p1, iv p2, iv p3, iv p4, iv 0, rv l1, iv n, iv mk, rv a2, .unset, .unset] [(.int (1 : Int32)), (.int mk), (.ref l1), (.int (1 : Int32)), (.ref a2)])) ?_ fun _ zk => XS.iconst H4.here hx rfl (hb hby at_109) zk
        refine Rn.pu (T' := T4) (g' := (mkF m 111 #[iv p0, iv p1, iv p2, iv p3, iv p4, iv 0, rv l1, iv n, iv mk, rv a2, .unset, .unset] [(.int p2), (.int (1 : Int32)), (.int mk), (.ref l1), (.int (1 : Int32)), (.ref a2)])) ?_ fun _ zk => XS.iloadN H4.here hx rfl (hb hby at_110) rfl zk
        refine Rn.pu (T' := T4) (g' := (mkF m 112 #[iv p0, iv p1, iv p2, iv p3, iv p4, iv 0, rv l1, iv n, iv mk, rv a2, .unset, .unset] [(.int p3), (.int p2), (.int (1 : Int32)), (.int mk), (.ref l1), (.int (1 : Int32)), (.ref a2)])) ?_ fun _ zk => XS.iloadN H4.here hx rfl (hb hby at_111) rfl zk
        refine Rn.pu (T' := T4) (g' := (mkF m 114 #[iv p0, iv p1, iv p2, iv p3, iv p4, iv 0, rv l1, iv n, iv mk, rv a2, .unset, .unset] [(.int p4), (.int p3), (.int p2), (.int (1 : Int32)), (.int mk), (.ref l1), (.int (1 : Int32)), (.ref a2)])) ?_ fun _ zk => XS.iload H4.here hx rfl (hb hby at_112) rfl zk
        obtain ⟨_, T5, h5, H5, ⟨r5, rfl, rr5, rfl⟩, -, st5⟩ := H4.callS (wd hw 22 rfl) (wd hw 23 rfl) (wd hw 24 rfl) (wd hw 25 rfl) (by decide) (MetN.pay (W := 2) (c_ch l B0 l1 u1 mk p2 p3 p4 [(97 : Int32), (99 : Int32), (116 : Int32), (105 : Int32), (118 : Int32), (101 : Int32)] 1 h4 H4.old ((S1.keep K2 nin0 nin0).keep K4 (ninS (adne (by omega)) nin0) (ninS (adne (by omega)) nin0)) (by decide) (by decide)) (wd hw 25 rfl) (wd hw 24 rfl) (by decide) (by decide)) (g := (mkF m 114 #[iv p0, iv p1, iv p2, iv p3, iv p4, iv 0, rv l1, iv n, iv mk, rv a2, .unset, .unset] [(.int p4), (.int p3), (.int p2), (.int (1 : Int32)), (.int mk), (.ref l1), (.int (1 : Int32)), (.ref a2)])) rfl (by rw [hml]; rfl) (argsL := [(.ref l1), (.int mk), (.int (1 : Int32)), (.int p2), (.int p3), (.int p4)]) (rest := [(.int (1 : Int32)), (.ref a2)]) (lenOf pd__Ljava_lang_String_IIIII_C rfl) rfl rfl (Nat.le_of_eq rfl) (hb hby at_114) (by decide) (by decide) all0
        refine Rn.pu (g' := (mkF m 117 #[iv p0, iv p1, iv p2, iv p3, iv p4, iv 0, rv l1, iv n, iv mk, rv a2, .unset, .unset] [(.int r5), (.int (1 : Int32)), (.ref a2)])) ?_ st5
        obtain ⟨T6, h6, H6, K6, A6, st6⟩ := H5.stC A4 (by decide) rfl (Or.inr (by omega)) (g := (mkF m 117 #[iv p0, iv p1, iv p2, iv p3, iv p4, iv 0, rv l1, iv n, iv mk, rv a2, .unset, .unset] [(.int r5), (.int (1 : Int32)), (.ref a2)])) rfl rfl (hb hby at_117)
        have zh6 := K6.1
        refine Rn.pu (g' := (mkF m 118 #[iv p0, iv p1, iv p2, iv p3, iv p4, iv 0, rv l1, iv n, iv mk, rv a2, .unset, .unset] [])) ?_ st6
        refine Rn.pu (T' := T6) (g' := (mkF m 120 #[iv p0, iv p1, iv p2, iv p3, iv p4, iv 0, rv l1, iv n, iv mk, rv a2, .unset, .unset] [(.ref a2)])) ?_ fun _ zk => XS.aload H6.here hx rfl (hb hby at_118) rfl rfl zk
        refine Rn.pu (T' := T6) (g' := (mkF m 121 #[iv p0, iv p1, iv p2, iv p3, iv p4, iv 0, rv l1, iv n, iv mk, rv a2, .unset, .unset] [(.int (2 : Int32)), (.ref a2)])) ?_ fun _ zk => XS.iconst H6.here hx rfl (hb hby at_120) zk
        refine Rn.pu (T' := T6) (g' := (mkF m 123 #[iv p0, iv p1, iv p2, iv p3, iv p4, iv 0, rv l1, iv n, iv mk, rv a2, .unset, .unset] [(.ref l1), (.int (2 : Int32)), (.ref a2)])) ?_ fun _ zk => XS.aload H6.here hx rfl (hb hby at_121) rfl rfl zk
        refine Rn.pu (T' := T6) (g' := (mkF m 125 #[iv p0, iv p1, iv p2, iv p3, iv p4, iv 0, rv l1, iv n, iv mk, rv a2, .unset, .unset] [(.int mk), (.ref l1), (.int (2 : Int32)), (.ref a2)])) ?_ fun _ zk => XS.iload H6.here hx rfl (hb hby at_123) rfl zk
        refine Rn.pu (T' := T6) (g' := (mkF m 126 #[iv p0, iv p1, iv p2, iv p3, iv p4, iv 0, rv l1, iv n, iv mk, rv a2, .unset, .unset] [(.int (2 : Int32)), (.int mk), (.ref l1), (.int (2 : Int32)), (.ref a2)])) ?_ fun _ zk => XS.iconst H6.here hx rfl (hb hby at_125) zk
        refine Rn.pu (T' := T6) (g' := (mkF m 127 #[iv p0, iv p1, iv p2, iv p3, iv p4, iv 0, rv l1, iv n, iv mk, rv a2, .unset, .unset] [(.int p2), (.int (2 : Int32)), (.int mk), (.ref l1), (.int (2 : Int32)), (.ref a2)])) ?_ fun _ zk => XS.iloadN H6.here hx rfl (hb hby at_126) rfl zk
        refine Rn.pu (T' := T6) (g' := (mkF m 128 #[iv p0, iv p1, iv p2, iv p3, iv p4, iv 0, rv l1, iv n, iv mk, rv a2, .unset, .unset] [(.int p3), (.int p2), (.int (2 : Int32)), (.int mk), (.ref l1), (.int (2 : Int32)), (.ref a2)])) ?_ fun _ zk => XS.iloadN H6.here hx rfl (hb hby at_127) rfl zk
        refine Rn.pu (T' := T6) (g' := (mkF m 130 #[iv p0, iv p1, iv p2, iv p3, iv p4, iv 0, rv l1, iv n, iv mk, rv a2, .unset, .unset] [(.int p4), (.int p3), (.int p2), (.int (2 : Int32)), (.int mk), (.ref l1), (.int (2 : Int32)), (.ref a2)])) ?_ fun _ zk => XS.iload H6.here hx rfl (hb hby at_128) rfl zk
        obtain ⟨_, T7, h7, H7, ⟨r7, rfl, rr7, rfl⟩, -, st7⟩ := H6.callS (wd hw 22 rfl) (wd hw 23 rfl) (wd hw 24 rfl) (wd hw 25 rfl) (by decide) (MetN.pay (W := 2) (c_ch l B0 l1 u1 mk p2 p3 p4 [(97 : Int32), (99 : Int32), (116 : Int32), (105 : Int32), (118 : Int32), (101 : Int32)] 2 h6 H6.old (((S1.keep K2 nin0 nin0).keep K4 (ninS (adne (by omega)) nin0) (ninS (adne (by omega)) nin0)).keep K6 (ninS (adne (by omega)) nin0) (ninS (adne (by omega)) nin0)) (by decide) (by decide)) (wd hw 25 rfl) (wd hw 24 rfl) (by decide) (by decide)) (g := (mkF m 130 #[iv p0, iv p1, iv p2, iv p3, iv p4, iv 0, rv l1, iv n, iv mk, rv a2, .unset, .unset] [(.int p4), (.int p3), (.int p2), (.int (2 : Int32)), (.int mk), (.ref l1), (.int (2 : Int32)), (.ref a2)])) rfl (by rw [hml]; rfl) (argsL := [(.ref l1), (.int mk), (.int (2 : Int32)), (.int p2), (.int p3), (.int p4)]) (rest := [(.int (2 : Int32)), (.ref a2)]) (lenOf pd__Ljava_lang_String_IIIII_C rfl) rfl rfl (Nat.le_of_eq rfl) (hb hby at_130) (by decide) (by decide) all0
        refine Rn.pu (g' := (mkF m 133 #[iv p0, iv p1, iv p2, iv p3, iv p4, iv 0, rv l1, iv n, iv mk, rv a2, .unset, .unset] [(.int r7), (.int (2 : Int32)), (.ref a2)])) ?_ st7
        obtain ⟨T8, h8, H8, K8, A8, st8⟩ := H7.stC A6 (by decide) rfl (Or.inr (by omega)) (g := (mkF m 133 #[iv p0, iv p1, iv p2, iv p3, iv p4, iv 0, rv l1, iv n, iv mk, rv a2, .unset, .unset] [(.int r7), (.int (2 : Int32)), (.ref a2)])) rfl rfl (hb hby at_133)
        have zh8 := K8.1
        refine Rn.pu (g' := (mkF m 134 #[iv p0, iv p1, iv p2, iv p3, iv p4, iv 0, rv l1, iv n, iv mk, rv a2, .unset, .unset] [])) ?_ st8
        refine Rn.pu (T' := T8) (g' := (mkF m 136 #[iv p0, iv p1, iv p2, iv p3, iv p4, iv 0, rv l1, iv n, iv mk, rv a2, .unset, .unset] [(.ref a2)])) ?_ fun _ zk => XS.aload H8.here hx rfl (hb hby at_134) rfl rfl zk
        refine Rn.pu (T' := T8) (g' := (mkF m 137 #[iv p0, iv p1, iv p2, iv p3, iv p4, iv 0, rv l1, iv n, iv mk, rv a2, .unset, .unset] [(.int (3 : Int32)), (.ref a2)])) ?_ fun _ zk => XS.iconst H8.here hx rfl (hb hby at_136) zk
        refine Rn.pu (T' := T8) (g' := (mkF m 139 #[iv p0, iv p1, iv p2, iv p3, iv p4, iv 0, rv l1, iv n, iv mk, rv a2, .unset, .unset] [(.ref l1), (.int (3 : Int32)), (.ref a2)])) ?_ fun _ zk => XS.aload H8.here hx rfl (hb hby at_137) rfl rfl zk
        refine Rn.pu (T' := T8) (g' := (mkF m 141 #[iv p0, iv p1, iv p2, iv p3, iv p4, iv 0, rv l1, iv n, iv mk, rv a2, .unset, .unset] [(.int mk), (.ref l1), (.int (3 : Int32)), (.ref a2)])) ?_ fun _ zk => XS.iload H8.here hx rfl (hb hby at_139) rfl zk
        refine Rn.pu (T' := T8) (g' := (mkF m 142 #[iv p0, iv p1, iv p2, iv p3, iv p4, iv 0, rv l1, iv n, iv mk, rv a2, .unset, .unset] [(.int (3 : Int32)), (.int mk), (.ref l1), (.int (3 : Int32)), (.ref a2)])) ?_ fun _ zk => XS.iconst H8.here hx rfl (hb hby at_141) zk
        refine Rn.pu (T' := T8) (g' := (mkF m 143 #[iv p0, iv p1, iv p2, iv p3, iv p4, iv 0, rv l1, iv n, iv mk, rv a2, .unset, .unset] [(.int p2), (.int (3 : Int32)), (.int mk), (.ref l1), (.int (3 : Int32)), (.ref a2)])) ?_ fun _ zk => XS.iloadN H8.here hx rfl (hb hby at_142) rfl zk
        refine Rn.pu (T' := T8) (g' := (mkF m 144 #[iv p0, iv p1, iv p2, iv p3, iv p4, iv 0, rv l1, iv n, iv mk, rv a2, .unset, .unset] [(.int p3), (.int p2), (.int (3 : Int32)), (.int mk), (.ref l1), (.int (3 : Int32)), (.ref a2)])) ?_ fun _ zk => XS.iloadN H8.here hx rfl (hb hby at_143) rfl zk
        refine Rn.pu (T' := T8) (g' := (mkF m 146 #[iv p0, iv p1, iv p2, iv p3, iv p4, iv 0, rv l1, iv n, iv mk, rv a2, .unset, .unset] [(.int p4), (.int p3), (.int p2), (.int (3 : Int32)), (.int mk), (.ref l1), (.int (3 : Int32)), (.ref a2)])) ?_ fun _ zk => XS.iload H8.here hx rfl (hb hby at_144) rfl zk
        obtain ⟨_, T9, h9, H9, ⟨r9, rfl, rr9, rfl⟩, -, st9⟩ := H8.callS (wd hw 22 rfl) (wd hw 23 rfl) (wd hw 24 rfl) (wd hw 25 rfl) (by decide) (MetN.pay (W := 2) (c_ch l B0 l1 u1 mk p2 p3 p4 [(97 : Int32), (99 : Int32), (116 : Int32), (105 : Int32), (118 : Int32), (101 : Int32)] 3 h8 H8.old ((((S1.keep K2 nin0 nin0).keep K4 (ninS (adne (by omega)) nin0) (ninS (adne (by omega)) nin0)).keep K6 (ninS (adne (by omega)) nin0) (ninS (adne (by omega)) nin0)).keep K8 (ninS (adne (by omega)) nin0) (ninS (adne (by omega)) nin0)) (by decide) (by decide)) (wd hw 25 rfl) (wd hw 24 rfl) (by decide) (by decide)) (g := (mkF m 146 #[iv p0, iv p1, iv p2, iv p3, iv p4, iv 0, rv l1, iv n, iv mk, rv a2, .unset, .unset] [(.int p4), (.int p3), (.int p2), (.int (3 : Int32)), (.int mk), (.ref l1), (.int (3 : Int32)), (.ref a2)])) rfl (by rw [hml]; rfl) (argsL := [(.ref l1), (.int mk), (.int (3 : Int32)), (.int p2), (.int p3), (.int p4)]) (rest := [(.int (3 : Int32)), (.ref a2)]) (lenOf pd__Ljava_lang_String_IIIII_C rfl) rfl rfl (Nat.le_of_eq rfl) (hb hby at_146) (by decide) (by decide) all0
        refine Rn.pu (g' := (mkF m 149 #[iv p0, iv p1, iv p2, iv p3, iv p4, iv 0, rv l1, iv n, iv mk, rv a2, .unset, .unset] [(.int r9), (.int (3 : Int32)), (.ref a2)])) ?_ st9
        obtain ⟨T10, h10, H10, K10, A10, st10⟩ := H9.stC A8 (by decide) rfl (Or.inr (by omega)) (g := (mkF m 149 #[iv p0, iv p1, iv p2, iv p3, iv p4, iv 0, rv l1, iv n, iv mk, rv a2, .unset, .unset] [(.int r9), (.int (3 : Int32)), (.ref a2)])) rfl rfl (hb hby at_149)
        have zh10 := K10.1
        refine Rn.pu (g' := (mkF m 150 #[iv p0, iv p1, iv p2, iv p3, iv p4, iv 0, rv l1, iv n, iv mk, rv a2, .unset, .unset] [])) ?_ st10
        refine Rn.pu (T' := T10) (g' := (mkF m 152 #[iv p0, iv p1, iv p2, iv p3, iv p4, iv 0, rv l1, iv n, iv mk, rv a2, .unset, .unset] [(.ref a2)])) ?_ fun _ zk => XS.aload H10.here hx rfl (hb hby at_150) rfl rfl zk
        refine Rn.pu (T' := T10) (g' := (mkF m 153 #[iv p0, iv p1, iv p2, iv p3, iv p4, iv 0, rv l1, iv n, iv mk, rv a2, .unset, .unset] [(.int (4 : Int32)), (.ref a2)])) ?_ fun _ zk => XS.iconst H10.here hx rfl (hb hby at_152) zk
        refine Rn.pu (T' := T10) (g' := (mkF m 155 #[iv p0, iv p1, iv p2, iv p3, iv p4, iv 0, rv l1, iv n, iv mk, rv a2, .unset, .unset] [(.ref l1), (.int (4 : Int32)), (.ref a2)])) ?_ fun _ zk => XS.aload H10.here hx rfl (hb hby at_153) rfl rfl zk
        refine Rn.pu (T' := T10) (g' := (mkF m 157 #[iv p0, iv p1, iv p2, iv p3, iv p4, iv 0, rv l1, iv n, iv mk, rv a2, .unset, .unset] [(.int mk), (.ref l1), (.int (4 : Int32)), (.ref a2)])) ?_ fun _ zk => XS.iload H10.here hx rfl (hb hby at_155) rfl zk
        refine Rn.pu (T' := T10) (g' := (mkF m 158 #[iv p0, iv p1, iv p2, iv p3, iv p4, iv 0, rv l1, iv n, iv mk, rv a2, .unset, .unset] [(.int (4 : Int32)), (.int mk), (.ref l1), (.int (4 : Int32)), (.ref a2)])) ?_ fun _ zk => XS.iconst H10.here hx rfl (hb hby at_157) zk
        refine Rn.pu (T' := T10) (g' := (mkF m 159 #[iv p0, iv p1, iv p2, iv p3, iv p4, iv 0, rv l1, iv n, iv mk, rv a2, .unset, .unset] [(.int p2), (.int (4 : Int32)), (.int mk), (.ref l1), (.int (4 : Int32)), (.ref a2)])) ?_ fun _ zk => XS.iloadN H10.here hx rfl (hb hby at_158) rfl zk
        refine Rn.pu (T' := T10) (g' := (mkF m 160 #[iv p0, iv p1, iv p2, iv p3, iv p4, iv 0, rv l1, iv n, iv mk, rv a2, .unset, .unset] [(.int p3), (.int p2), (.int (4 : Int32)), (.int mk), (.ref l1), (.int (4 : Int32)), (.ref a2)])) ?_ fun _ zk => XS.iloadN H10.here hx rfl (hb hby at_159) rfl zk
        refine Rn.pu (T' := T10) (g' := (mkF m 162 #[iv p0, iv p1, iv p2, iv p3, iv p4, iv 0, rv l1, iv n, iv mk, rv a2, .unset, .unset] [(.int p4), (.int p3), (.int p2), (.int (4 : Int32)), (.int mk), (.ref l1), (.int (4 : Int32)), (.ref a2)])) ?_ fun _ zk => XS.iload H10.here hx rfl (hb hby at_160) rfl zk
        obtain ⟨_, T11, h11, H11, ⟨r11, rfl, rr11, rfl⟩, -, st11⟩ := H10.callS (wd hw 22 rfl) (wd hw 23 rfl) (wd hw 24 rfl) (wd hw 25 rfl) (by decide) (MetN.pay (W := 2) (c_ch l B0 l1 u1 mk p2 p3 p4 [(97 : Int32), (99 : Int32), (116 : Int32), (105 : Int32), (118 : Int32), (101 : Int32)] 4 h10 H10.old (((((S1.keep K2 nin0 nin0).keep K4 (ninS (adne (by omega)) nin0) (ninS (adne (by omega)) nin0)).keep K6 (ninS (adne (by omega)) nin0) (ninS (adne (by omega)) nin0)).keep K8 (ninS (adne (by omega)) nin0) (ninS (adne (by omega)) nin0)).keep K10 (ninS (adne (by omega)) nin0) (ninS (adne (by omega)) nin0)) (by decide) (by decide)) (wd hw 25 rfl) (wd hw 24 rfl) (by decide) (by decide)) (g := (mkF m 162 #[iv p0, iv p1, iv p2, iv p3, iv p4, iv 0, rv l1, iv n, iv mk, rv a2, .unset, .unset] [(.int p4), (.int p3), (.int p2), (.int (4 : Int32)), (.int mk), (.ref l1), (.int (4 : Int32)), (.ref a2)])) rfl (by rw [hml]; rfl) (argsL := [(.ref l1), (.int mk), (.int (4 : Int32)), (.int p2), (.int p3), (.int p4)]) (rest := [(.int (4 : Int32)), (.ref a2)]) (lenOf pd__Ljava_lang_String_IIIII_C rfl) rfl rfl (Nat.le_of_eq rfl) (hb hby at_162) (by decide) (by decide) all0
        refine Rn.pu (g' := (mkF m 165 #[iv p0, iv p1, iv p2, iv p3, iv p4, iv 0, rv l1, iv n, iv mk, rv a2, .unset, .unset] [(.int r11), (.int (4 : Int32)), (.ref a2)])) ?_ st11
        obtain ⟨T12, h12, H12, K12, A12, st12⟩ := H11.stC A10 (by decide) rfl (Or.inr (by omega)) (g := (mkF m 165 #[iv p0, iv p1, iv p2, iv p3, iv p4, iv 0, rv l1, iv n, iv mk, rv a2, .unset, .unset] [(.int r11), (.int (4 : Int32)), (.ref a2)])) rfl rfl (hb hby at_165)
        have zh12 := K12.1
        refine Rn.pu (g' := (mkF m 166 #[iv p0, iv p1, iv p2, iv p3, iv p4, iv 0, rv l1, iv n, iv mk, rv a2, .unset, .unset] [])) ?_ st12
        refine Rn.pu (T' := T12) (g' := (mkF m 168 #[iv p0, iv p1, iv p2, iv p3, iv p4, iv 0, rv l1, iv n, iv mk, rv a2, .unset, .unset] [(.ref a2)])) ?_ fun _ zk => XS.aload H12.here hx rfl (hb hby at_166) rfl rfl zk
        refine Rn.pu (T' := T12) (g' := (mkF m 169 #[iv p0, iv p1, iv p2, iv p3, iv p4, iv 0, rv l1, iv n, iv mk, rv a2, .unset, .unset] [(.int (5 : Int32)), (.ref a2)])) ?_ fun _ zk => XS.iconst H12.here hx rfl (hb hby at_168) zk
        refine Rn.pu (T' := T12) (g' := (mkF m 171 #[iv p0, iv p1, iv p2, iv p3, iv p4, iv 0, rv l1, iv n, iv mk, rv a2, .unset, .unset] [(.ref l1), (.int (5 : Int32)), (.ref a2)])) ?_ fun _ zk => XS.aload H12.here hx rfl (hb hby at_169) rfl rfl zk
        refine Rn.pu (T' := T12) (g' := (mkF m 173 #[iv p0, iv p1, iv p2, iv p3, iv p4, iv 0, rv l1, iv n, iv mk, rv a2, .unset, .unset] [(.int mk), (.ref l1), (.int (5 : Int32)), (.ref a2)])) ?_ fun _ zk => XS.iload H12.here hx rfl (hb hby at_171) rfl zk
        refine Rn.pu (T' := T12) (g' := (mkF m 174 #[iv p0, iv p1, iv p2, iv p3, iv p4, iv 0, rv l1, iv n, iv mk, rv a2, .unset, .unset] [(.int (5 : Int32)), (.int mk), (.ref l1), (.int (5 : Int32)), (.ref a2)])) ?_ fun _ zk => XS.iconst H12.here hx rfl (hb hby at_173) zk
        refine Rn.pu (T' := T12) (g' := (mkF m 175 #[iv p0, iv p1, iv p2, iv p3, iv p4, iv 0, rv l1, iv n, iv mk, rv a2, .unset, .unset] [(.int p2), (.int (5 : Int32)), (.int mk), (.ref l1), (.int (5 : Int32)), (.ref a2)])) ?_ fun _ zk => XS.iloadN H12.here hx rfl (hb hby at_174) rfl zk
        refine Rn.pu (T' := T12) (g' := (mkF m 176 #[iv p0, iv p1, iv p2, iv p3, iv p4, iv 0, rv l1, iv n, iv mk, rv a2, .unset, .unset] [(.int p3), (.int p2), (.int (5 : Int32)), (.int mk), (.ref l1), (.int (5 : Int32)), (.ref a2)])) ?_ fun _ zk => XS.iloadN H12.here hx rfl (hb hby at_175) rfl zk
        refine Rn.pu (T' := T12) (g' := (mkF m 178 #[iv p0, iv p1, iv p2, iv p3, iv p4, iv 0, rv l1, iv n, iv mk, rv a2, .unset, .unset] [(.int p4), (.int p3), (.int p2), (.int (5 : Int32)), (.int mk), (.ref l1), (.int (5 : Int32)), (.ref a2)])) ?_ fun _ zk => XS.iload H12.here hx rfl (hb hby at_176) rfl zk
        obtain ⟨_, T13, h13, H13, ⟨r13, rfl, rr13, rfl⟩, -, st13⟩ := H12.callS (wd hw 22 rfl) (wd hw 23 rfl) (wd hw 24 rfl) (wd hw 25 rfl) (by decide) (MetN.pay (W := 2) (c_ch l B0 l1 u1 mk p2 p3 p4 [(97 : Int32), (99 : Int32), (116 : Int32), (105 : Int32), (118 : Int32), (101 : Int32)] 5 h12 H12.old ((((((S1.keep K2 nin0 nin0).keep K4 (ninS (adne (by omega)) nin0) (ninS (adne (by omega)) nin0)).keep K6 (ninS (adne (by omega)) nin0) (ninS (adne (by omega)) nin0)).keep K8 (ninS (adne (by omega)) nin0) (ninS (adne (by omega)) nin0)).keep K10 (ninS (adne (by omega)) nin0) (ninS (adne (by omega)) nin0)).keep K12 (ninS (adne (by omega)) nin0) (ninS (adne (by omega)) nin0)) (by decide) (by decide)) (wd hw 25 rfl) (wd hw 24 rfl) (by decide) (by decide)) (g := (mkF m 178 #[iv p0, iv p1, iv p2, iv p3, iv p4, iv 0, rv l1, iv n, iv mk, rv a2, .unset, .unset] [(.int p4), (.int p3), (.int p2), (.int (5 : Int32)), (.int mk), (.ref l1), (.int (5 : Int32)), (.ref a2)])) rfl (by rw [hml]; rfl) (argsL := [(.ref l1), (.int mk), (.int (5 : Int32)), (.int p2), (.int p3), (.int p4)]) (rest := [(.int (5 : Int32)), (.ref a2)]) (lenOf pd__Ljava_lang_String_IIIII_C rfl) rfl rfl (Nat.le_of_eq rfl) (hb hby at_178) (by decide) (by decide) all0
        refine Rn.pu (g' := (mkF m 181 #[iv p0, iv p1, iv p2, iv p3, iv p4, iv 0, rv l1, iv n, iv mk, rv a2, .unset, .unset] [(.int r13), (.int (5 : Int32)), (.ref a2)])) ?_ st13
        obtain ⟨T14, h14, H14, K14, A14, st14⟩ := H13.stC A12 (by decide) rfl (Or.inr (by omega)) (g := (mkF m 181 #[iv p0, iv p1, iv p2, iv p3, iv p4, iv 0, rv l1, iv n, iv mk, rv a2, .unset, .unset] [(.int r13), (.int (5 : Int32)), (.ref a2)])) rfl rfl (hb hby at_181)
        have zh14 := K14.1
        refine Rn.pu (g' := (mkF m 182 #[iv p0, iv p1, iv p2, iv p3, iv p4, iv 0, rv l1, iv n, iv mk, rv a2, .unset, .unset] [])) ?_ st14
        refine Rn.pu (T' := T14) (g' := (mkF m 184 #[iv p0, iv p1, iv p2, iv p3, iv p4, iv 0, rv l1, iv n, iv mk, rv a2, .unset, .unset] [(.ref a2)])) ?_ fun _ zk => XS.aload H14.here hx rfl (hb hby at_182) rfl rfl zk
        refine Rn.pu (T' := T14) (g' := (mkF m 186 #[iv p0, iv p1, iv p2, iv p3, iv p4, iv 0, rv l1, iv n, iv mk, rv a2, .unset, .unset] [(.int (6 : Int32)), (.ref a2)])) ?_ fun _ zk => XS.bipush H14.here hx rfl (hb hby at_184) zk
        refine Rn.pu (T' := T14) (g' := (mkF m 188 #[iv p0, iv p1, iv p2, iv p3, iv p4, iv 0, rv l1, iv n, iv mk, rv a2, .unset, .unset] [(.ref l1), (.int (6 : Int32)), (.ref a2)])) ?_ fun _ zk => XS.aload H14.here hx rfl (hb hby at_186) rfl rfl zk
        refine Rn.pu (T' := T14) (g' := (mkF m 190 #[iv p0, iv p1, iv p2, iv p3, iv p4, iv 0, rv l1, iv n, iv mk, rv a2, .unset, .unset] [(.int mk), (.ref l1), (.int (6 : Int32)), (.ref a2)])) ?_ fun _ zk => XS.iload H14.here hx rfl (hb hby at_188) rfl zk
        refine Rn.pu (T' := T14) (g' := (mkF m 192 #[iv p0, iv p1, iv p2, iv p3, iv p4, iv 0, rv l1, iv n, iv mk, rv a2, .unset, .unset] [(.int (6 : Int32)), (.int mk), (.ref l1), (.int (6 : Int32)), (.ref a2)])) ?_ fun _ zk => XS.bipush H14.here hx rfl (hb hby at_190) zk
        refine Rn.pu (T' := T14) (g' := (mkF m 193 #[iv p0, iv p1, iv p2, iv p3, iv p4, iv 0, rv l1, iv n, iv mk, rv a2, .unset, .unset] [(.int p2), (.int (6 : Int32)), (.int mk), (.ref l1), (.int (6 : Int32)), (.ref a2)])) ?_ fun _ zk => XS.iloadN H14.here hx rfl (hb hby at_192) rfl zk
        refine Rn.pu (T' := T14) (g' := (mkF m 194 #[iv p0, iv p1, iv p2, iv p3, iv p4, iv 0, rv l1, iv n, iv mk, rv a2, .unset, .unset] [(.int p3), (.int p2), (.int (6 : Int32)), (.int mk), (.ref l1), (.int (6 : Int32)), (.ref a2)])) ?_ fun _ zk => XS.iloadN H14.here hx rfl (hb hby at_193) rfl zk
        refine Rn.pu (T' := T14) (g' := (mkF m 196 #[iv p0, iv p1, iv p2, iv p3, iv p4, iv 0, rv l1, iv n, iv mk, rv a2, .unset, .unset] [(.int p4), (.int p3), (.int p2), (.int (6 : Int32)), (.int mk), (.ref l1), (.int (6 : Int32)), (.ref a2)])) ?_ fun _ zk => XS.iload H14.here hx rfl (hb hby at_194) rfl zk
        obtain ⟨_, T15, h15, H15, ⟨r15, rfl, rr15, rfl⟩, -, st15⟩ := H14.callS (wd hw 22 rfl) (wd hw 23 rfl) (wd hw 24 rfl) (wd hw 25 rfl) (by decide) (MetN.pay (W := 2) (c_ch l B0 l1 u1 mk p2 p3 p4 [(97 : Int32), (99 : Int32), (116 : Int32), (105 : Int32), (118 : Int32), (101 : Int32)] 6 h14 H14.old (((((((S1.keep K2 nin0 nin0).keep K4 (ninS (adne (by omega)) nin0) (ninS (adne (by omega)) nin0)).keep K6 (ninS (adne (by omega)) nin0) (ninS (adne (by omega)) nin0)).keep K8 (ninS (adne (by omega)) nin0) (ninS (adne (by omega)) nin0)).keep K10 (ninS (adne (by omega)) nin0) (ninS (adne (by omega)) nin0)).keep K12 (ninS (adne (by omega)) nin0) (ninS (adne (by omega)) nin0)).keep K14 (ninS (adne (by omega)) nin0) (ninS (adne (by omega)) nin0)) (by decide) (by decide)) (wd hw 25 rfl) (wd hw 24 rfl) (by decide) (by decide)) (g := (mkF m 196 #[iv p0, iv p1, iv p2, iv p3, iv p4, iv 0, rv l1, iv n, iv mk, rv a2, .unset, .unset] [(.int p4), (.int p3), (.int p2), (.int (6 : Int32)), (.int mk), (.ref l1), (.int (6 : Int32)), (.ref a2)])) rfl (by rw [hml]; rfl) (argsL := [(.ref l1), (.int mk), (.int (6 : Int32)), (.int p2), (.int p3), (.int p4)]) (rest := [(.int (6 : Int32)), (.ref a2)]) (lenOf pd__Ljava_lang_String_IIIII_C rfl) rfl rfl (Nat.le_of_eq rfl) (hb hby at_196) (by decide) (by decide) all0
        refine Rn.pu (g' := (mkF m 199 #[iv p0, iv p1, iv p2, iv p3, iv p4, iv 0, rv l1, iv n, iv mk, rv a2, .unset, .unset] [(.int r15), (.int (6 : Int32)), (.ref a2)])) ?_ st15
        obtain ⟨T16, h16, H16, K16, A16, st16⟩ := H15.stC A14 (by decide) rfl (Or.inr (by omega)) (g := (mkF m 199 #[iv p0, iv p1, iv p2, iv p3, iv p4, iv 0, rv l1, iv n, iv mk, rv a2, .unset, .unset] [(.int r15), (.int (6 : Int32)), (.ref a2)])) rfl rfl (hb hby at_199)
        have zh16 := K16.1
        refine Rn.pu (g' := (mkF m 200 #[iv p0, iv p1, iv p2, iv p3, iv p4, iv 0, rv l1, iv n, iv mk, rv a2, .unset, .unset] [])) ?_ st16
        refine Rn.pu (T' := T16) (g' := (mkF m 202 #[iv p0, iv p1, iv p2, iv p3, iv p4, iv 0, rv l1, iv n, iv mk, rv a2, .unset, .unset] [(.ref a2)])) ?_ fun _ zk => XS.aload H16.here hx rfl (hb hby at_200) rfl rfl zk
        refine Rn.pu (T' := T16) (g' := (mkF m 204 #[iv p0, iv p1, iv p2, iv p3, iv p4, iv 0, rv l1, iv n, iv mk, rv a2, .unset, .unset] [(.int (7 : Int32)), (.ref a2)])) ?_ fun _ zk => XS.bipush H16.here hx rfl (hb hby at_202) zk
        refine Rn.pu (T' := T16) (g' := (mkF m 206 #[iv p0, iv p1, iv p2, iv p3, iv p4, iv 0, rv l1, iv n, iv mk, rv a2, .unset, .unset] [(.ref l1), (.int (7 : Int32)), (.ref a2)])) ?_ fun _ zk => XS.aload H16.here hx rfl (hb hby at_204) rfl rfl zk
        refine Rn.pu (T' := T16) (g' := (mkF m 208 #[iv p0, iv p1, iv p2, iv p3, iv p4, iv 0, rv l1, iv n, iv mk, rv a2, .unset, .unset] [(.int mk), (.ref l1), (.int (7 : Int32)), (.ref a2)])) ?_ fun _ zk => XS.iload H16.here hx rfl (hb hby at_206) rfl zk
        refine Rn.pu (T' := T16) (g' := (mkF m 210 #[iv p0, iv p1, iv p2, iv p3, iv p4, iv 0, rv l1, iv n, iv mk, rv a2, .unset, .unset] [(.int (7 : Int32)), (.int mk), (.ref l1), (.int (7 : Int32)), (.ref a2)])) ?_ fun _ zk => XS.bipush H16.here hx rfl (hb hby at_208) zk
        refine Rn.pu (T' := T16) (g' := (mkF m 211 #[iv p0, iv p1, iv p2, iv p3, iv p4, iv 0, rv l1, iv n, iv mk, rv a2, .unset, .unset] [(.int p2), (.int (7 : Int32)), (.int mk), (.ref l1), (.int (7 : Int32)), (.ref a2)])) ?_ fun _ zk => XS.iloadN H16.here hx rfl (hb hby at_210) rfl zk
        refine Rn.pu (T' := T16) (g' := (mkF m 212 #[iv p0, iv p1, iv p2, iv p3, iv p4, iv 0, rv l1, iv n, iv mk, rv a2, .unset, .unset] [(.int p3), (.int p2), (.int (7 : Int32)), (.int mk), (.ref l1), (.int (7 : Int32)), (.ref a2)])) ?_ fun _ zk => XS.iloadN H16.here hx rfl (hb hby at_211) rfl zk
        refine Rn.pu (T' := T16) (g' := (mkF m 214 #[iv p0, iv p1, iv p2, iv p3, iv p4, iv 0, rv l1, iv n, iv mk, rv a2, .unset, .unset] [(.int p4), (.int p3), (.int p2), (.int (7 : Int32)), (.int mk), (.ref l1), (.int (7 : Int32)), (.ref a2)])) ?_ fun _ zk => XS.iload H16.here hx rfl (hb hby at_212) rfl zk
        obtain ⟨_, T17, h17, H17, ⟨r17, rfl, rr17, rfl⟩, -, st17⟩ := H16.callS (wd hw 22 rfl) (wd hw 23 rfl) (wd hw 24 rfl) (wd hw 25 rfl) (by decide) (MetN.pay (W := 2) (c_ch l B0 l1 u1 mk p2 p3 p4 [(97 : Int32), (99 : Int32), (116 : Int32), (105 : Int32), (118 : Int32), (101 : Int32)] 7 h16 H16.old ((((((((S1.keep K2 nin0 nin0).keep K4 (ninS (adne (by omega)) nin0) (ninS (adne (by omega)) nin0)).keep K6 (ninS (adne (by omega)) nin0) (ninS (adne (by omega)) nin0)).keep K8 (ninS (adne (by omega)) nin0) (ninS (adne (by omega)) nin0)).keep K10 (ninS (adne (by omega)) nin0) (ninS (adne (by omega)) nin0)).keep K12 (ninS (adne (by omega)) nin0) (ninS (adne (by omega)) nin0)).keep K14 (ninS (adne (by omega)) nin0) (ninS (adne (by omega)) nin0)).keep K16 (ninS (adne (by omega)) nin0) (ninS (adne (by omega)) nin0)) (by decide) (by decide)) (wd hw 25 rfl) (wd hw 24 rfl) (by decide) (by decide)) (g := (mkF m 214 #[iv p0, iv p1, iv p2, iv p3, iv p4, iv 0, rv l1, iv n, iv mk, rv a2, .unset, .unset] [(.int p4), (.int p3), (.int p2), (.int (7 : Int32)), (.int mk), (.ref l1), (.int (7 : Int32)), (.ref a2)])) rfl (by rw [hml]; rfl) (argsL := [(.ref l1), (.int mk), (.int (7 : Int32)), (.int p2), (.int p3), (.int p4)]) (rest := [(.int (7 : Int32)), (.ref a2)]) (lenOf pd__Ljava_lang_String_IIIII_C rfl) rfl rfl (Nat.le_of_eq rfl) (hb hby at_214) (by decide) (by decide) all0
        refine Rn.pu (g' := (mkF m 217 #[iv p0, iv p1, iv p2, iv p3, iv p4, iv 0, rv l1, iv n, iv mk, rv a2, .unset, .unset] [(.int r17), (.int (7 : Int32)), (.ref a2)])) ?_ st17
        obtain ⟨T18, h18, H18, K18, A18, st18⟩ := H17.stC A16 (by decide) rfl (Or.inr (by omega)) (g := (mkF m 217 #[iv p0, iv p1, iv p2, iv p3, iv p4, iv 0, rv l1, iv n, iv mk, rv a2, .unset, .unset] [(.int r17), (.int (7 : Int32)), (.ref a2)])) rfl rfl (hb hby at_217)
        have zh18 := K18.1
        refine Rn.pu (g' := (mkF m 218 #[iv p0, iv p1, iv p2, iv p3, iv p4, iv 0, rv l1, iv n, iv mk, rv a2, .unset, .unset] [])) ?_ st18
        refine Rn.pu (T' := T18) (g' := (mkF m 220 #[iv p0, iv p1, iv p2, iv p3, iv p4, iv 0, rv l1, iv n, iv mk, rv a2, .unset, .unset] [(.ref a2)])) ?_ fun _ zk => XS.aload H18.here hx rfl (hb hby at_218) rfl rfl zk
        refine Rn.pu (T' := T18) (g' := (mkF m 222 #[iv p0, iv p1, iv p2, iv p3, iv p4, iv 0, rv l1, iv n, iv mk, rv a2, .unset, .unset] [(.int (8 : Int32)), (.ref a2)])) ?_ fun _ zk => XS.bipush H18.here hx rfl (hb hby at_220) zk
        refine Rn.pu (T' := T18) (g' := (mkF m 224 #[iv p0, iv p1, iv p2, iv p3, iv p4, iv 0, rv l1, iv n, iv mk, rv a2, .unset, .unset] [(.ref l1), (.int (8 : Int32)), (.ref a2)])) ?_ fun _ zk => XS.aload H18.here hx rfl (hb hby at_222) rfl rfl zk
        refine Rn.pu (T' := T18) (g' := (mkF m 226 #[iv p0, iv p1, iv p2, iv p3, iv p4, iv 0, rv l1, iv n, iv mk, rv a2, .unset, .unset] [(.int mk), (.ref l1), (.int (8 : Int32)), (.ref a2)])) ?_ fun _ zk => XS.iload H18.here hx rfl (hb hby at_224) rfl zk
        refine Rn.pu (T' := T18) (g' := (mkF m 228 #[iv p0, iv p1, iv p2, iv p3, iv p4, iv 0, rv l1, iv n, iv mk, rv a2, .unset, .unset] [(.int (8 : Int32)), (.int mk), (.ref l1), (.int (8 : Int32)), (.ref a2)])) ?_ fun _ zk => XS.bipush H18.here hx rfl (hb hby at_226) zk
        refine Rn.pu (T' := T18) (g' := (mkF m 229 #[iv p0, iv p1, iv p2, iv p3, iv p4, iv 0, rv l1, iv n, iv mk, rv a2, .unset, .unset] [(.int p2), (.int (8 : Int32)), (.int mk), (.ref l1), (.int (8 : Int32)), (.ref a2)])) ?_ fun _ zk => XS.iloadN H18.here hx rfl (hb hby at_228) rfl zk
        refine Rn.pu (T' := T18) (g' := (mkF m 230 #[iv p0, iv p1, iv p2, iv p3, iv p4, iv 0, rv l1, iv n, iv mk, rv a2, .unset, .unset] [(.int p3), (.int p2), (.int (8 : Int32)), (.int mk), (.ref l1), (.int (8 : Int32)), (.ref a2)])) ?_ fun _ zk => XS.iloadN H18.here hx rfl (hb hby at_229) rfl zk
        refine Rn.pu (T' := T18) (g' := (mkF m 232 #[iv p0, iv p1, iv p2, iv p3, iv p4, iv 0, rv l1, iv n, iv mk, rv a2, .unset, .unset] [(.int p4), (.int p3), (.int p2), (.int (8 : Int32)), (.int mk), (.ref l1), (.int (8 : Int32)), (.ref a2)])) ?_ fun _ zk => XS.iload H18.here hx rfl (hb hby at_230) rfl zk
        obtain ⟨_, T19, h19, H19, ⟨r19, rfl, rr19, rfl⟩, -, st19⟩ := H18.callS (wd hw 22 rfl) (wd hw 23 rfl) (wd hw 24 rfl) (wd hw 25 rfl) (by decide) (MetN.pay (W := 2) (c_ch l B0 l1 u1 mk p2 p3 p4 [(97 : Int32), (99 : Int32), (116 : Int32), (105 : Int32), (118 : Int32), (101 : Int32)] 8 h18 H18.old (((((((((S1.keep K2 nin0 nin0).keep K4 (ninS (adne (by omega)) nin0) (ninS (adne (by omega)) nin0)).keep K6 (ninS (adne (by omega)) nin0) (ninS (adne (by omega)) nin0)).keep K8 (ninS (adne (by omega)) nin0) (ninS (adne (by omega)) nin0)).keep K10 (ninS (adne (by omega)) nin0) (ninS (adne (by omega)) nin0)).keep K12 (ninS (adne (by omega)) nin0) (ninS (adne (by omega)) nin0)).keep K14 (ninS (adne (by omega)) nin0) (ninS (adne (by omega)) nin0)).keep K16 (ninS (adne (by omega)) nin0) (ninS (adne (by omega)) nin0)).keep K18 (ninS (adne (by omega)) nin0) (ninS (adne (by omega)) nin0)) (by decide) (by decide)) (wd hw 25 rfl) (wd hw 24 rfl) (by decide) (by decide)) (g := (mkF m 232 #[iv p0, iv p1, iv p2, iv p3, iv p4, iv 0, rv l1, iv n, iv mk, rv a2, .unset, .unset] [(.int p4), (.int p3), (.int p2), (.int (8 : Int32)), (.int mk), (.ref l1), (.int (8 : Int32)), (.ref a2)])) rfl (by rw [hml]; rfl) (argsL := [(.ref l1), (.int mk), (.int (8 : Int32)), (.int p2), (.int p3), (.int p4)]) (rest := [(.int (8 : Int32)), (.ref a2)]) (lenOf pd__Ljava_lang_String_IIIII_C rfl) rfl rfl (Nat.le_of_eq rfl) (hb hby at_232) (by decide) (by decide) all0
        refine Rn.pu (g' := (mkF m 235 #[iv p0, iv p1, iv p2, iv p3, iv p4, iv 0, rv l1, iv n, iv mk, rv a2, .unset, .unset] [(.int r19), (.int (8 : Int32)), (.ref a2)])) ?_ st19
        obtain ⟨T20, h20, H20, K20, A20, st20⟩ := H19.stC A18 (by decide) rfl (Or.inr (by omega)) (g := (mkF m 235 #[iv p0, iv p1, iv p2, iv p3, iv p4, iv 0, rv l1, iv n, iv mk, rv a2, .unset, .unset] [(.int r19), (.int (8 : Int32)), (.ref a2)])) rfl rfl (hb hby at_235)
        have zh20 := K20.1
        refine Rn.pu (g' := (mkF m 236 #[iv p0, iv p1, iv p2, iv p3, iv p4, iv 0, rv l1, iv n, iv mk, rv a2, .unset, .unset] [])) ?_ st20
        refine Rn.pu (T' := T20) (g' := (mkF m 238 #[iv p0, iv p1, iv p2, iv p3, iv p4, iv 0, rv l1, iv n, iv mk, rv a2, .unset, .unset] [(.ref a2)])) ?_ fun _ zk => XS.aload H20.here hx rfl (hb hby at_236) rfl rfl zk
        refine Rn.pu (T' := T20) (g' := (mkF m 240 #[iv p0, iv p1, iv p2, iv p3, iv p4, iv 0, rv l1, iv n, iv mk, rv a2, .unset, .unset] [(.int n), (.ref a2)])) ?_ fun _ zk => XS.iload H20.here hx rfl (hb hby at_238) rfl zk
        obtain ⟨_, T21, h21, H21, ⟨V21, m21, t21, c21, rfl, S21, ga21, la21, lt21⟩, K21, st21⟩ := H20.callSW (wd hw 48 rfl) (wd hw 49 rfl) (wd hw 24 rfl) (wd hw 50 rfl) (by decide) (MetW.pay (W := 0) (c_cut l B0 ["active"] (fun vm => Lv Z "com/example/calm_inbox/calminbox/webhook/WebhookStatusFromWireNamePinLaw" 7 l1 vm ∧ Z.Warmed39 vm) (fun U vm1 hW q => ⟨q.1.stab hW, w39_stab U vm1 hW q.2⟩) a2 k2 (.int 0) n (nar .char r3) (nar .char r5) (nar .char r7) (nar .char r9) (nar .char r11) (nar .char r13) (nar .char r15) (nar .char r17) (nar .char r19) h20 H20.old yJ63 A20 (lat_nar rr3) (lat_nar rr5) (lat_nar rr7) (lat_nar rr9) (lat_nar rr11) (lat_nar rr13) (lat_nar rr15) (lat_nar rr17) (lat_nar rr19)) (wd hw 50 rfl) (wd hw 24 rfl) (by decide) (by decide)) (g := (mkF m 240 #[iv p0, iv p1, iv p2, iv p3, iv p4, iv 0, rv l1, iv n, iv mk, rv a2, .unset, .unset] [(.int n), (.ref a2)])) rfl (by rw [hml]; rfl) (argsL := [(.ref a2), (.int n)]) (rest := []) (lenOf pd__ACI_Ljava_lang_String_ rfl) rfl rfl (Nat.le_of_eq rfl) (hb hby at_240) (by decide) (by decide) all0 (fun U vm1 hV hW => ⟨⟨hV.2.1.stab hW.wide, w39_stab U vm1 hW.wide hV.2.2⟩, ib_sub (ib_stab hW hV.1) (by simp), CH.start hh7 (wd hw 108 rfl) (hws_sa hw) hcw (w39_stab U vm1 hW.wide hV.2.2) (ib_stab hW hV.1) (by decide) H20.old⟩)
        have zh21 := K21.1
        have H21 := H21.reV (V' := (fun vm => ((fun vm => Lv Z "com/example/calm_inbox/calminbox/webhook/WebhookStatusFromWireNamePinLaw" 7 l1 vm ∧ Z.Warmed39 vm)) vm ∧ IB Z vm ("" :: ["active"]))) (fun v hv => by rw [hv]; exact V21)
        refine Rn.pu (g' := (mkF m 243 #[iv p0, iv p1, iv p2, iv p3, iv p4, iv 0, rv l1, iv n, iv mk, rv a2, .unset, .unset] [(.ref m21)])) ?_ st21
        refine Rn.pu (T' := T21) (g' := (mkF m 245 #[iv p0, iv p1, iv p2, iv p3, iv p4, iv 0, rv l1, iv n, iv mk, rv a2, rv m21, .unset] [])) ?_ fun _ zk => XS.astore H21.here hx rfl (hb hby at_243) rfl rfl (l' := #[iv p0, iv p1, iv p2, iv p3, iv p4, iv 0, rv l1, iv n, iv mk, rv a2, rv m21, .unset]) rfl zk
        refine Rn.pu (T' := T21) (g' := (mkF m 247 #[iv p0, iv p1, iv p2, iv p3, iv p4, iv 0, rv l1, iv n, iv mk, rv a2, rv m21, .unset] [(.ref m21)])) ?_ fun _ zk => XS.aload H21.here hx rfl (hb hby at_245) rfl rfl zk
        refine Rn.pu (g' := (mkF m 249 #[iv p0, iv p1, iv p2, iv p3, iv p4, iv 0, rv l1, iv n, iv mk, rv a2, rv m21, .unset] [(.ref l1), (.ref m21)])) ?_ (H21.ldcA (a := l1) (fun _ q => q.1.1) (wd hw 0 rfl) (g := (mkF m 247 #[iv p0, iv p1, iv p2, iv p3, iv p4, iv 0, rv l1, iv n, iv mk, rv a2, rv m21, .unset] [(.ref m21)])) rfl (hb hby at_247))
        by_cases q249_22 : c21 = [(97 : Int32), (99 : Int32), (116 : Int32), (105 : Int32), (118 : Int32), (101 : Int32)]
        ·
          obtain ⟨_, T23, h23, H23, ⟨rfl, rfl⟩, -, st23⟩ := H21.callV (C := "java/lang/String") (wd hw 72 rfl) (wd hw 73 rfl) (wd hw 75 rfl) (wd hw 74 rfl) (by decide) (payEqY (W := 0) q249_22 (hws_eq hw) (wd hw 2 rfl) S21 (((((((((((S1.keep K2 nin0 nin0).keep K4 (ninS (adne (by omega)) nin0) (ninS (adne (by omega)) nin0)).keep K6 (ninS (adne (by omega)) nin0) (ninS (adne (by omega)) nin0)).keep K8 (ninS (adne (by omega)) nin0) (ninS (adne (by omega)) nin0)).keep K10 (ninS (adne (by omega)) nin0) (ninS (adne (by omega)) nin0)).keep K12 (ninS (adne (by omega)) nin0) (ninS (adne (by omega)) nin0)).keep K14 (ninS (adne (by omega)) nin0) (ninS (adne (by omega)) nin0)).keep K16 (ninS (adne (by omega)) nin0) (ninS (adne (by omega)) nin0)).keep K18 (ninS (adne (by omega)) nin0) (ninS (adne (by omega)) nin0)).keep K20 (ninS (adne (by omega)) nin0) (ninS (adne (by omega)) nin0)).keep K21 nin0 nin0) (SC0.ext H21.old) hz0 (by decide) (by decide)) S21.exa (g := (mkF m 249 #[iv p0, iv p1, iv p2, iv p3, iv p4, iv 0, rv l1, iv n, iv mk, rv a2, rv m21, .unset] [(.ref l1), (.ref m21)])) rfl (by rw [hml]; rfl) (argsL := [(.ref l1)]) (rest := []) (lenOf pd__Ljava_lang_Object__Z rfl) rfl rfl (Nat.le_of_eq rfl) (hb hby at_249) (by decide) (by decide) all0
          refine Rn.pu (g' := (mkF m 252 #[iv p0, iv p1, iv p2, iv p3, iv p4, iv 0, rv l1, iv n, iv mk, rv a2, rv m21, .unset] [(.int (1 : Int32))])) ?_ st23
          refine Rn.pu (T' := T23) (g' := (mkF m 255 #[iv p0, iv p1, iv p2, iv p3, iv p4, iv 0, rv l1, iv n, iv mk, rv a2, rv m21, .unset] [])) ?_ fun _ zk => XS.ifNo H23.here hx rfl (hb hby at_252) rfl (z_eq_f (by decide)) zk
          obtain ⟨T24, H24, st24⟩ := H23.getS (host := "") (Or.inl (wd hw 81 rfl)) Via.refl (SaA.ext H23.old) (g := (mkF m 255 #[iv p0, iv p1, iv p2, iv p3, iv p4, iv 0, rv l1, iv n, iv mk, rv a2, rv m21, .unset] [])) rfl (hb hby at_255)
          refine Rn.pu (g' := (mkF m 258 #[iv p0, iv p1, iv p2, iv p3, iv p4, iv 0, rv l1, iv n, iv mk, rv a2, rv m21, .unset] [(.ref aA)])) ?_ st24
          refine Rn.pu (T' := T24) (g' := (mkF m 294 #[iv p0, iv p1, iv p2, iv p3, iv p4, iv 0, rv l1, iv n, iv mk, rv a2, rv m21, .unset] [(.ref aA)])) ?_ fun _ zk => XS.goto H24.here hx rfl (pc0 := 258) (pc' := 294) rfl (hb hby at_258) (by decide) (by decide) zk
          refine Rn.pu (T' := T24) (g' := (mkF m 296 #[iv p0, iv p1, iv p2, iv p3, iv p4, iv 0, rv l1, iv n, iv mk, rv a2, rv m21, rv aA] [])) ?_ fun _ zk => XS.astore H24.here hx rfl (hb hby at_294) rfl rfl (l' := #[iv p0, iv p1, iv p2, iv p3, iv p4, iv 0, rv l1, iv n, iv mk, rv a2, rv m21, rv aA]) rfl zk
          refine Rn.pu (T' := T24) (g' := (mkF m 298 #[iv p0, iv p1, iv p2, iv p3, iv p4, iv 0, rv l1, iv n, iv mk, rv a2, rv m21, rv aA] [(.ref m21)])) ?_ fun _ zk => XS.aload H24.here hx rfl (hb hby at_296) rfl rfl zk
          obtain ⟨_, T25, h25, H25, rfl, K25, st25⟩ := H24.callS (wd hw 84 rfl) (wd hw 85 rfl) (wd hw 82 rfl) (wd hw 86 rfl) (by decide) (MetN.pay (W := 0) (c_fw0 l B0 m21 t21 (c21) h21 H24.old S21 q249_22.symm) (wd hw 86 rfl) (wd hw 82 rfl) (by decide) (by decide)) (g := (mkF m 298 #[iv p0, iv p1, iv p2, iv p3, iv p4, iv 0, rv l1, iv n, iv mk, rv a2, rv m21, rv aA] [(.ref m21)])) rfl (by rw [hml]; rfl) (argsL := [(.ref m21)]) (rest := []) (lenOf pd__Ljava_lang_String__Lcom_example_calm_inbox_calminbox_webhook_WebhookStatus_ rfl) rfl rfl (Nat.le_of_eq rfl) (hb hby at_298) (by decide) (by decide) all0
          have zh25 := K25.1
          refine Rn.pu (g' := (mkF m 301 #[iv p0, iv p1, iv p2, iv p3, iv p4, iv 0, rv l1, iv n, iv mk, rv a2, rv m21, rv aA] [(.ref aA)])) ?_ st25
          refine Rn.pu (T' := T25) (g' := (mkF m 303 #[iv p0, iv p1, iv p2, iv p3, iv p4, iv 0, rv l1, iv n, iv mk, rv a2, rv m21, rv aA] [(.ref aA), (.ref aA)])) ?_ fun _ zk => XS.aload H25.here hx rfl (hb hby at_301) rfl rfl zk
          refine Rn.pu (T' := T25) (g' := (mkF m 306 #[iv p0, iv p1, iv p2, iv p3, iv p4, iv 0, rv l1, iv n, iv mk, rv a2, rv m21, rv aA] [])) ?_ fun _ zk => XT.acmpNo H25.here hx rfl (hb hby at_303) rfl rfl rfl (ac_ne_f rfl) zk
          refine Rn.pu (T' := T25) (g' := (mkF m 307 #[iv p0, iv p1, iv p2, iv p3, iv p4, iv 0, rv l1, iv n, iv mk, rv a2, rv m21, rv aA] [(.int (1 : Int32))])) ?_ fun _ zk => XS.iconst H25.here hx rfl (hb hby at_306) zk
          refine Rn.pu (T' := T25) (g' := (mkF m 311 #[iv p0, iv p1, iv p2, iv p3, iv p4, iv 0, rv l1, iv n, iv mk, rv a2, rv m21, rv aA] [(.int (1 : Int32))])) ?_ fun _ zk => XS.goto H25.here hx rfl (pc0 := 307) (pc' := 311) rfl (hb hby at_307) (by decide) (by decide) zk
          exact H25.retS ends_W hlk (t := .boolean) hret (by simp) (hb hby at_311) (by decide) (by decide) (fun _ q => nomatch q) rfl
        ·
          obtain ⟨_, T26, h26, H26, ⟨rfl, rfl⟩, -, st26⟩ := H21.callV (C := "java/lang/String") (wd hw 72 rfl) (wd hw 73 rfl) (wd hw 75 rfl) (wd hw 74 rfl) (by decide) (payEqN (W := 0) q249_22 (hws_eq hw) (wd hw 2 rfl) S21 (((((((((((S1.keep K2 nin0 nin0).keep K4 (ninS (adne (by omega)) nin0) (ninS (adne (by omega)) nin0)).keep K6 (ninS (adne (by omega)) nin0) (ninS (adne (by omega)) nin0)).keep K8 (ninS (adne (by omega)) nin0) (ninS (adne (by omega)) nin0)).keep K10 (ninS (adne (by omega)) nin0) (ninS (adne (by omega)) nin0)).keep K12 (ninS (adne (by omega)) nin0) (ninS (adne (by omega)) nin0)).keep K14 (ninS (adne (by omega)) nin0) (ninS (adne (by omega)) nin0)).keep K16 (ninS (adne (by omega)) nin0) (ninS (adne (by omega)) nin0)).keep K18 (ninS (adne (by omega)) nin0) (ninS (adne (by omega)) nin0)).keep K20 (ninS (adne (by omega)) nin0) (ninS (adne (by omega)) nin0)).keep K21 nin0 nin0) (SC0.ext H21.old) hz0 (by decide) (by decide)) S21.exa (g := (mkF m 249 #[iv p0, iv p1, iv p2, iv p3, iv p4, iv 0, rv l1, iv n, iv mk, rv a2, rv m21, .unset] [(.ref l1), (.ref m21)])) rfl (by rw [hml]; rfl) (argsL := [(.ref l1)]) (rest := []) (lenOf pd__Ljava_lang_Object__Z rfl) rfl rfl (Nat.le_of_eq rfl) (hb hby at_249) (by decide) (by decide) all0
          refine Rn.pu (g' := (mkF m 252 #[iv p0, iv p1, iv p2, iv p3, iv p4, iv 0, rv l1, iv n, iv mk, rv a2, rv m21, .unset] [(.int (0 : Int32))])) ?_ st26
          refine Rn.pu (T' := T26) (g' := (mkF m 261 #[iv p0, iv p1, iv p2, iv p3, iv p4, iv 0, rv l1, iv n, iv mk, rv a2, rv m21, .unset] [])) ?_ fun _ zk => XS.ifYes H26.here hx rfl (pc0 := 252) (pc' := 261) rfl (hb hby at_252) rfl (z_eq_t rfl) (by decide) (by decide) zk
          refine Rn.pu (T' := T26) (g' := (mkF m 263 #[iv p0, iv p1, iv p2, iv p3, iv p4, iv 0, rv l1, iv n, iv mk, rv a2, rv m21, .unset] [(.ref m21)])) ?_ fun _ zk => XS.aload H26.here hx rfl (hb hby at_261) rfl rfl zk
          obtain ⟨l27, u27, T27, h27, H27, K27, S27, st27⟩ := H26.ldcV (Ts := "" :: ["active"]) (P := (fun vm => Lv Z "com/example/calm_inbox/calminbox/webhook/WebhookStatusFromWireNamePinLaw" 7 l1 vm ∧ Z.Warmed39 vm)) (fun _ q => ⟨q.2, q.1⟩) (fun U vm1 hW q => ⟨q.1.stab hW, w39_stab U vm1 hW q.2⟩) (wd hw 109 rfl) (hws_sa hw) (by simp) hhF hcw (cs := [(102 : Int32), (97 : Int32), (105 : Int32), (108 : Int32), (105 : Int32), (110 : Int32), (103 : Int32)]) (by decide) (by decide) (by decide) (by decide) (g := (mkF m 263 #[iv p0, iv p1, iv p2, iv p3, iv p4, iv 0, rv l1, iv n, iv mk, rv a2, rv m21, .unset] [(.ref m21)])) rfl (hb hby at_263) (n := 28) (by decide) (by decide) (by decide) (by decide)
          have zh27 := K27.1
          have H27 := H27.reV (V' := (fun vm => ((fun vm => Lv Z "com/example/calm_inbox/calminbox/webhook/WebhookStatusFromWireNamePinLaw" 9 l27 vm ∧ Lv Z "com/example/calm_inbox/calminbox/webhook/WebhookStatusFromWireNamePinLaw" 7 l1 vm ∧ Z.Warmed39 vm)) vm ∧ IB Z vm ("failing" :: "" :: ["active"]))) (fun _ q => ⟨⟨q.2.1, q.2.2⟩, q.1⟩)
          have l27a := natlt (S27).lt
          have l27t := natlt (S27).ltt
          refine Rn.pu (g' := (mkF m 265 #[iv p0, iv p1, iv p2, iv p3, iv p4, iv 0, rv l1, iv n, iv mk, rv a2, rv m21, .unset] [(.ref l27), (.ref m21)])) ?_ st27
          by_cases q265_28 : c21 = [(102 : Int32), (97 : Int32), (105 : Int32), (108 : Int32), (105 : Int32), (110 : Int32), (103 : Int32)]
          ·
            obtain ⟨_, T29, h29, H29, ⟨rfl, rfl⟩, -, st29⟩ := H27.callV (C := "java/lang/String") (wd hw 72 rfl) (wd hw 73 rfl) (wd hw 75 rfl) (wd hw 74 rfl) (by decide) (payEqY (W := 0) q265_28 (hws_eq hw) (wd hw 2 rfl) (S21.keep K27 nin0 nin0) S27 (SC0.ext H27.old) hz0 (by decide) (by decide)) (S21.keep K27 nin0 nin0).exa (g := (mkF m 265 #[iv p0, iv p1, iv p2, iv p3, iv p4, iv 0, rv l1, iv n, iv mk, rv a2, rv m21, .unset] [(.ref l27), (.ref m21)])) rfl (by rw [hml]; rfl) (argsL := [(.ref l27)]) (rest := []) (lenOf pd__Ljava_lang_Object__Z rfl) rfl rfl (Nat.le_of_eq rfl) (hb hby at_265) (by decide) (by decide) all0
            refine Rn.pu (g' := (mkF m 268 #[iv p0, iv p1, iv p2, iv p3, iv p4, iv 0, rv l1, iv n, iv mk, rv a2, rv m21, .unset] [(.int (1 : Int32))])) ?_ st29
            refine Rn.pu (T' := T29) (g' := (mkF m 271 #[iv p0, iv p1, iv p2, iv p3, iv p4, iv 0, rv l1, iv n, iv mk, rv a2, rv m21, .unset] [])) ?_ fun _ zk => XS.ifNo H29.here hx rfl (hb hby at_268) rfl (z_eq_f (by decide)) zk
            obtain ⟨T30, H30, st30⟩ := H29.getS (host := "") (Or.inl (wd hw 112 rfl)) Via.refl (SaF.ext H29.old) (g := (mkF m 271 #[iv p0, iv p1, iv p2, iv p3, iv p4, iv 0, rv l1, iv n, iv mk, rv a2, rv m21, .unset] [])) rfl (hb hby at_271)
            refine Rn.pu (g' := (mkF m 274 #[iv p0, iv p1, iv p2, iv p3, iv p4, iv 0, rv l1, iv n, iv mk, rv a2, rv m21, .unset] [(.ref aF)])) ?_ st30
            refine Rn.pu (T' := T30) (g' := (mkF m 294 #[iv p0, iv p1, iv p2, iv p3, iv p4, iv 0, rv l1, iv n, iv mk, rv a2, rv m21, .unset] [(.ref aF)])) ?_ fun _ zk => XS.goto H30.here hx rfl (pc0 := 274) (pc' := 294) rfl (hb hby at_274) (by decide) (by decide) zk
            refine Rn.pu (T' := T30) (g' := (mkF m 296 #[iv p0, iv p1, iv p2, iv p3, iv p4, iv 0, rv l1, iv n, iv mk, rv a2, rv m21, rv aF] [])) ?_ fun _ zk => XS.astore H30.here hx rfl (hb hby at_294) rfl rfl (l' := #[iv p0, iv p1, iv p2, iv p3, iv p4, iv 0, rv l1, iv n, iv mk, rv a2, rv m21, rv aF]) rfl zk
            refine Rn.pu (T' := T30) (g' := (mkF m 298 #[iv p0, iv p1, iv p2, iv p3, iv p4, iv 0, rv l1, iv n, iv mk, rv a2, rv m21, rv aF] [(.ref m21)])) ?_ fun _ zk => XS.aload H30.here hx rfl (hb hby at_296) rfl rfl zk
            obtain ⟨_, T31, h31, H31, rfl, K31, st31⟩ := H30.callS (wd hw 84 rfl) (wd hw 85 rfl) (wd hw 82 rfl) (wd hw 86 rfl) (by decide) (MetN.pay (W := 0) (c_fw1 l B0 m21 t21 (c21) h27 H30.old (S21.keep K27 nin0 nin0) (fun r => q249_22 r.symm) q265_28.symm) (wd hw 86 rfl) (wd hw 82 rfl) (by decide) (by decide)) (g := (mkF m 298 #[iv p0, iv p1, iv p2, iv p3, iv p4, iv 0, rv l1, iv n, iv mk, rv a2, rv m21, rv aF] [(.ref m21)])) rfl (by rw [hml]; rfl) (argsL := [(.ref m21)]) (rest := []) (lenOf pd__Ljava_lang_String__Lcom_example_calm_inbox_calminbox_webhook_WebhookStatus_ rfl) rfl rfl (Nat.le_of_eq rfl) (hb hby at_298) (by decide) (by decide) all0
            have zh31 := K31.1
            refine Rn.pu (g' := (mkF m 301 #[iv p0, iv p1, iv p2, iv p3, iv p4, iv 0, rv l1, iv n, iv mk, rv a2, rv m21, rv aF] [(.ref aF)])) ?_ st31
            refine Rn.pu (T' := T31) (g' := (mkF m 303 #[iv p0, iv p1, iv p2, iv p3, iv p4, iv 0, rv l1, iv n, iv mk, rv a2, rv m21, rv aF] [(.ref aF), (.ref aF)])) ?_ fun _ zk => XS.aload H31.here hx rfl (hb hby at_301) rfl rfl zk
            refine Rn.pu (T' := T31) (g' := (mkF m 306 #[iv p0, iv p1, iv p2, iv p3, iv p4, iv 0, rv l1, iv n, iv mk, rv a2, rv m21, rv aF] [])) ?_ fun _ zk => XT.acmpNo H31.here hx rfl (hb hby at_303) rfl rfl rfl (ac_ne_f rfl) zk
            refine Rn.pu (T' := T31) (g' := (mkF m 307 #[iv p0, iv p1, iv p2, iv p3, iv p4, iv 0, rv l1, iv n, iv mk, rv a2, rv m21, rv aF] [(.int (1 : Int32))])) ?_ fun _ zk => XS.iconst H31.here hx rfl (hb hby at_306) zk
            refine Rn.pu (T' := T31) (g' := (mkF m 311 #[iv p0, iv p1, iv p2, iv p3, iv p4, iv 0, rv l1, iv n, iv mk, rv a2, rv m21, rv aF] [(.int (1 : Int32))])) ?_ fun _ zk => XS.goto H31.here hx rfl (pc0 := 307) (pc' := 311) rfl (hb hby at_307) (by decide) (by decide) zk
            exact H31.retS ends_W hlk (t := .boolean) hret (by simp) (hb hby at_311) (by decide) (by decide) (fun _ q => nomatch q) rfl
          ·
            obtain ⟨_, T32, h32, H32, ⟨rfl, rfl⟩, -, st32⟩ := H27.callV (C := "java/lang/String") (wd hw 72 rfl) (wd hw 73 rfl) (wd hw 75 rfl) (wd hw 74 rfl) (by decide) (payEqN (W := 0) q265_28 (hws_eq hw) (wd hw 2 rfl) (S21.keep K27 nin0 nin0) S27 (SC0.ext H27.old) hz0 (by decide) (by decide)) (S21.keep K27 nin0 nin0).exa (g := (mkF m 265 #[iv p0, iv p1, iv p2, iv p3, iv p4, iv 0, rv l1, iv n, iv mk, rv a2, rv m21, .unset] [(.ref l27), (.ref m21)])) rfl (by rw [hml]; rfl) (argsL := [(.ref l27)]) (rest := []) (lenOf pd__Ljava_lang_Object__Z rfl) rfl rfl (Nat.le_of_eq rfl) (hb hby at_265) (by decide) (by decide) all0
            refine Rn.pu (g' := (mkF m 268 #[iv p0, iv p1, iv p2, iv p3, iv p4, iv 0, rv l1, iv n, iv mk, rv a2, rv m21, .unset] [(.int (0 : Int32))])) ?_ st32
            refine Rn.pu (T' := T32) (g' := (mkF m 277 #[iv p0, iv p1, iv p2, iv p3, iv p4, iv 0, rv l1, iv n, iv mk, rv a2, rv m21, .unset] [])) ?_ fun _ zk => XS.ifYes H32.here hx rfl (pc0 := 268) (pc' := 277) rfl (hb hby at_268) rfl (z_eq_t rfl) (by decide) (by decide) zk
            refine Rn.pu (T' := T32) (g' := (mkF m 279 #[iv p0, iv p1, iv p2, iv p3, iv p4, iv 0, rv l1, iv n, iv mk, rv a2, rv m21, .unset] [(.ref m21)])) ?_ fun _ zk => XS.aload H32.here hx rfl (hb hby at_277) rfl rfl zk
            obtain ⟨l33, u33, T33, h33, H33, K33, S33, st33⟩ := H32.ldcV (Ts := "failing" :: "" :: ["active"]) (P := (fun vm => Lv Z "com/example/calm_inbox/calminbox/webhook/WebhookStatusFromWireNamePinLaw" 9 l27 vm ∧ Lv Z "com/example/calm_inbox/calminbox/webhook/WebhookStatusFromWireNamePinLaw" 7 l1 vm ∧ Z.Warmed39 vm)) (fun _ q => ⟨q.2, q.1⟩) (fun U vm1 hW q => ⟨q.1.stab hW, q.2.1.stab hW, w39_stab U vm1 hW q.2.2⟩) (wd hw 110 rfl) (hws_sa hw) (by simp) hhD hcw (cs := [(100 : Int32), (105 : Int32), (115 : Int32), (97 : Int32), (98 : Int32), (108 : Int32), (101 : Int32), (100 : Int32)]) (by decide) (by decide) (by decide) (by decide) (g := (mkF m 279 #[iv p0, iv p1, iv p2, iv p3, iv p4, iv 0, rv l1, iv n, iv mk, rv a2, rv m21, .unset] [(.ref m21)])) rfl (hb hby at_279) (n := 32) (by decide) (by decide) (by decide) (by decide)
            have zh33 := K33.1
            have H33 := H33.reV (V' := (fun vm => ((fun vm => Lv Z "com/example/calm_inbox/calminbox/webhook/WebhookStatusFromWireNamePinLaw" 11 l33 vm ∧ Lv Z "com/example/calm_inbox/calminbox/webhook/WebhookStatusFromWireNamePinLaw" 9 l27 vm ∧ Lv Z "com/example/calm_inbox/calminbox/webhook/WebhookStatusFromWireNamePinLaw" 7 l1 vm ∧ Z.Warmed39 vm)) vm ∧ IB Z vm ("disabled" :: "failing" :: "" :: ["active"]))) (fun _ q => ⟨⟨q.2.1, q.2.2⟩, q.1⟩)
            have l33a := natlt (S33).lt
            have l33t := natlt (S33).ltt
            refine Rn.pu (g' := (mkF m 281 #[iv p0, iv p1, iv p2, iv p3, iv p4, iv 0, rv l1, iv n, iv mk, rv a2, rv m21, .unset] [(.ref l33), (.ref m21)])) ?_ st33
            by_cases q281_34 : c21 = [(100 : Int32), (105 : Int32), (115 : Int32), (97 : Int32), (98 : Int32), (108 : Int32), (101 : Int32), (100 : Int32)]
            ·
              obtain ⟨_, T35, h35, H35, ⟨rfl, rfl⟩, -, st35⟩ := H33.callV (C := "java/lang/String") (wd hw 72 rfl) (wd hw 73 rfl) (wd hw 75 rfl) (wd hw 74 rfl) (by decide) (payEqY (W := 0) q281_34 (hws_eq hw) (wd hw 2 rfl) ((S21.keep K27 nin0 nin0).keep K33 nin0 nin0) S33 (SC0.ext H33.old) hz0 (by decide) (by decide)) ((S21.keep K27 nin0 nin0).keep K33 nin0 nin0).exa (g := (mkF m 281 #[iv p0, iv p1, iv p2, iv p3, iv p4, iv 0, rv l1, iv n, iv mk, rv a2, rv m21, .unset] [(.ref l33), (.ref m21)])) rfl (by rw [hml]; rfl) (argsL := [(.ref l33)]) (rest := []) (lenOf pd__Ljava_lang_Object__Z rfl) rfl rfl (Nat.le_of_eq rfl) (hb hby at_281) (by decide) (by decide) all0
              refine Rn.pu (g' := (mkF m 284 #[iv p0, iv p1, iv p2, iv p3, iv p4, iv 0, rv l1, iv n, iv mk, rv a2, rv m21, .unset] [(.int (1 : Int32))])) ?_ st35
              refine Rn.pu (T' := T35) (g' := (mkF m 287 #[iv p0, iv p1, iv p2, iv p3, iv p4, iv 0, rv l1, iv n, iv mk, rv a2, rv m21, .unset] [])) ?_ fun _ zk => XS.ifNo H35.here hx rfl (hb hby at_284) rfl (z_eq_f (by decide)) zk
              obtain ⟨T36, H36, st36⟩ := H35.getS (host := "") (Or.inl (wd hw 111 rfl)) Via.refl (SaD.ext H35.old) (g := (mkF m 287 #[iv p0, iv p1, iv p2, iv p3, iv p4, iv 0, rv l1, iv n, iv mk, rv a2, rv m21, .unset] [])) rfl (hb hby at_287)
              refine Rn.pu (g' := (mkF m 290 #[iv p0, iv p1, iv p2, iv p3, iv p4, iv 0, rv l1, iv n, iv mk, rv a2, rv m21, .unset] [(.ref aD)])) ?_ st36
              refine Rn.pu (T' := T36) (g' := (mkF m 294 #[iv p0, iv p1, iv p2, iv p3, iv p4, iv 0, rv l1, iv n, iv mk, rv a2, rv m21, .unset] [(.ref aD)])) ?_ fun _ zk => XS.goto H36.here hx rfl (pc0 := 290) (pc' := 294) rfl (hb hby at_290) (by decide) (by decide) zk
              refine Rn.pu (T' := T36) (g' := (mkF m 296 #[iv p0, iv p1, iv p2, iv p3, iv p4, iv 0, rv l1, iv n, iv mk, rv a2, rv m21, rv aD] [])) ?_ fun _ zk => XS.astore H36.here hx rfl (hb hby at_294) rfl rfl (l' := #[iv p0, iv p1, iv p2, iv p3, iv p4, iv 0, rv l1, iv n, iv mk, rv a2, rv m21, rv aD]) rfl zk
              refine Rn.pu (T' := T36) (g' := (mkF m 298 #[iv p0, iv p1, iv p2, iv p3, iv p4, iv 0, rv l1, iv n, iv mk, rv a2, rv m21, rv aD] [(.ref m21)])) ?_ fun _ zk => XS.aload H36.here hx rfl (hb hby at_296) rfl rfl zk
              obtain ⟨_, T37, h37, H37, rfl, K37, st37⟩ := H36.callS (wd hw 84 rfl) (wd hw 85 rfl) (wd hw 82 rfl) (wd hw 86 rfl) (by decide) (MetN.pay (W := 0) (c_fw2 l B0 m21 t21 (c21) h33 H36.old ((S21.keep K27 nin0 nin0).keep K33 nin0 nin0) (fun r => q249_22 r.symm) (fun r => q265_28 r.symm) q281_34.symm) (wd hw 86 rfl) (wd hw 82 rfl) (by decide) (by decide)) (g := (mkF m 298 #[iv p0, iv p1, iv p2, iv p3, iv p4, iv 0, rv l1, iv n, iv mk, rv a2, rv m21, rv aD] [(.ref m21)])) rfl (by rw [hml]; rfl) (argsL := [(.ref m21)]) (rest := []) (lenOf pd__Ljava_lang_String__Lcom_example_calm_inbox_calminbox_webhook_WebhookStatus_ rfl) rfl rfl (Nat.le_of_eq rfl) (hb hby at_298) (by decide) (by decide) all0
              have zh37 := K37.1
              refine Rn.pu (g' := (mkF m 301 #[iv p0, iv p1, iv p2, iv p3, iv p4, iv 0, rv l1, iv n, iv mk, rv a2, rv m21, rv aD] [(.ref aD)])) ?_ st37
              refine Rn.pu (T' := T37) (g' := (mkF m 303 #[iv p0, iv p1, iv p2, iv p3, iv p4, iv 0, rv l1, iv n, iv mk, rv a2, rv m21, rv aD] [(.ref aD), (.ref aD)])) ?_ fun _ zk => XS.aload H37.here hx rfl (hb hby at_301) rfl rfl zk
              refine Rn.pu (T' := T37) (g' := (mkF m 306 #[iv p0, iv p1, iv p2, iv p3, iv p4, iv 0, rv l1, iv n, iv mk, rv a2, rv m21, rv aD] [])) ?_ fun _ zk => XT.acmpNo H37.here hx rfl (hb hby at_303) rfl rfl rfl (ac_ne_f rfl) zk
              refine Rn.pu (T' := T37) (g' := (mkF m 307 #[iv p0, iv p1, iv p2, iv p3, iv p4, iv 0, rv l1, iv n, iv mk, rv a2, rv m21, rv aD] [(.int (1 : Int32))])) ?_ fun _ zk => XS.iconst H37.here hx rfl (hb hby at_306) zk
              refine Rn.pu (T' := T37) (g' := (mkF m 311 #[iv p0, iv p1, iv p2, iv p3, iv p4, iv 0, rv l1, iv n, iv mk, rv a2, rv m21, rv aD] [(.int (1 : Int32))])) ?_ fun _ zk => XS.goto H37.here hx rfl (pc0 := 307) (pc' := 311) rfl (hb hby at_307) (by decide) (by decide) zk
              exact H37.retS ends_W hlk (t := .boolean) hret (by simp) (hb hby at_311) (by decide) (by decide) (fun _ q => nomatch q) rfl
            ·
              obtain ⟨_, T38, h38, H38, ⟨rfl, rfl⟩, -, st38⟩ := H33.callV (C := "java/lang/String") (wd hw 72 rfl) (wd hw 73 rfl) (wd hw 75 rfl) (wd hw 74 rfl) (by decide) (payEqN (W := 0) q281_34 (hws_eq hw) (wd hw 2 rfl) ((S21.keep K27 nin0 nin0).keep K33 nin0 nin0) S33 (SC0.ext H33.old) hz0 (by decide) (by decide)) ((S21.keep K27 nin0 nin0).keep K33 nin0 nin0).exa (g := (mkF m 281 #[iv p0, iv p1, iv p2, iv p3, iv p4, iv 0, rv l1, iv n, iv mk, rv a2, rv m21, .unset] [(.ref l33), (.ref m21)])) rfl (by rw [hml]; rfl) (argsL := [(.ref l33)]) (rest := []) (lenOf pd__Ljava_lang_Object__Z rfl) rfl rfl (Nat.le_of_eq rfl) (hb hby at_281) (by decide) (by decide) all0
              refine Rn.pu (g' := (mkF m 284 #[iv p0, iv p1, iv p2, iv p3, iv p4, iv 0, rv l1, iv n, iv mk, rv a2, rv m21, .unset] [(.int (0 : Int32))])) ?_ st38
              refine Rn.pu (T' := T38) (g' := (mkF m 293 #[iv p0, iv p1, iv p2, iv p3, iv p4, iv 0, rv l1, iv n, iv mk, rv a2, rv m21, .unset] [])) ?_ fun _ zk => XS.ifYes H38.here hx rfl (pc0 := 284) (pc' := 293) rfl (hb hby at_284) rfl (z_eq_t rfl) (by decide) (by decide) zk
              refine Rn.pu (T' := T38) (g' := (mkF m 294 #[iv p0, iv p1, iv p2, iv p3, iv p4, iv 0, rv l1, iv n, iv mk, rv a2, rv m21, .unset] [.null])) ?_ fun _ zk => XS.aconstNull H38.here hx rfl (hb hby at_293) zk
              refine Rn.pu (T' := T38) (g' := (mkF m 296 #[iv p0, iv p1, iv p2, iv p3, iv p4, iv 0, rv l1, iv n, iv mk, rv a2, rv m21, .val .null] [])) ?_ fun _ zk => XS.astore H38.here hx rfl (hb hby at_294) rfl rfl (l' := #[iv p0, iv p1, iv p2, iv p3, iv p4, iv 0, rv l1, iv n, iv mk, rv a2, rv m21, .val .null]) rfl zk
              refine Rn.pu (T' := T38) (g' := (mkF m 298 #[iv p0, iv p1, iv p2, iv p3, iv p4, iv 0, rv l1, iv n, iv mk, rv a2, rv m21, .val .null] [(.ref m21)])) ?_ fun _ zk => XS.aload H38.here hx rfl (hb hby at_296) rfl rfl zk
              obtain ⟨_, T39, h39, H39, rfl, K39, st39⟩ := H38.callS (wd hw 84 rfl) (wd hw 85 rfl) (wd hw 82 rfl) (wd hw 86 rfl) (by decide) (MetN.pay (W := 0) (c_fw3 l B0 m21 t21 (c21) h33 H38.old ((S21.keep K27 nin0 nin0).keep K33 nin0 nin0) (fun r => q249_22 r.symm) (fun r => q265_28 r.symm) (fun r => q281_34 r.symm)) (wd hw 86 rfl) (wd hw 82 rfl) (by decide) (by decide)) (g := (mkF m 298 #[iv p0, iv p1, iv p2, iv p3, iv p4, iv 0, rv l1, iv n, iv mk, rv a2, rv m21, .val .null] [(.ref m21)])) rfl (by rw [hml]; rfl) (argsL := [(.ref m21)]) (rest := []) (lenOf pd__Ljava_lang_String__Lcom_example_calm_inbox_calminbox_webhook_WebhookStatus_ rfl) rfl rfl (Nat.le_of_eq rfl) (hb hby at_298) (by decide) (by decide) all0
              have zh39 := K39.1
              refine Rn.pu (g' := (mkF m 301 #[iv p0, iv p1, iv p2, iv p3, iv p4, iv 0, rv l1, iv n, iv mk, rv a2, rv m21, .val .null] [.null])) ?_ st39
              refine Rn.pu (T' := T39) (g' := (mkF m 303 #[iv p0, iv p1, iv p2, iv p3, iv p4, iv 0, rv l1, iv n, iv mk, rv a2, rv m21, .val .null] [.null, .null])) ?_ fun _ zk => XS.aload H39.here hx rfl (hb hby at_301) rfl rfl zk
              refine Rn.pu (T' := T39) (g' := (mkF m 306 #[iv p0, iv p1, iv p2, iv p3, iv p4, iv 0, rv l1, iv n, iv mk, rv a2, rv m21, .val .null] [])) ?_ fun _ zk => XT.acmpNo H39.here hx rfl (hb hby at_303) rfl rfl rfl (ac_ne_f rfl) zk
              refine Rn.pu (T' := T39) (g' := (mkF m 307 #[iv p0, iv p1, iv p2, iv p3, iv p4, iv 0, rv l1, iv n, iv mk, rv a2, rv m21, .val .null] [(.int (1 : Int32))])) ?_ fun _ zk => XS.iconst H39.here hx rfl (hb hby at_306) zk
              refine Rn.pu (T' := T39) (g' := (mkF m 311 #[iv p0, iv p1, iv p2, iv p3, iv p4, iv 0, rv l1, iv n, iv mk, rv a2, rv m21, .val .null] [(.int (1 : Int32))])) ?_ fun _ zk => XS.goto H39.here hx rfl (pc0 := 307) (pc' := 311) rfl (hb hby at_307) (by decide) (by decide) zk
              exact H39.retS ends_W hlk (t := .boolean) hret (by simp) (hb hby at_311) (by decide) (by decide) (fun _ q => nomatch q) rfl
      refine Rn.pu (T' := TJ63) (g' := (mkF m 66 #[iv p0, iv p1, iv p2, iv p3, iv p4, iv 0, rv l1, iv n, .unset, .unset, .unset, .unset] [(.int p0)])) ?_ fun _ zk => XS.iloadN HJ63.here hx rfl (hb hby at_65) rfl zk
      refine Rn.pu (T' := TJ63) (g' := (mkF m 67 #[iv p0, iv p1, iv p2, iv p3, iv p4, iv 0, rv l1, iv n, .unset, .unset, .unset, .unset] [(.int (3 : Int32)), (.int p0)])) ?_ fun _ zk => XS.iconst HJ63.here hx rfl (hb hby at_66) zk
      refine Rn.pu (T' := TJ63) (g' := (mkF m 68 #[iv p0, iv p1, iv p2, iv p3, iv p4, iv 0, rv l1, iv n, .unset, .unset, .unset, .unset] [(.int (XT.ushr p0 (3 : Int32)))])) ?_ fun _ zk => XT.iushr HJ63.here hx rfl (hb hby at_67) rfl zk
      refine Rn.pu (T' := TJ63) (g' := (mkF m 69 #[iv p0, iv p1, iv p2, iv p3, iv p4, iv 0, rv l1, iv n, .unset, .unset, .unset, .unset] [(.int (1 : Int32)), (.int (XT.ushr p0 (3 : Int32)))])) ?_ fun _ zk => XS.iconst HJ63.here hx rfl (hb hby at_68) zk
      refine Rn.pu (T' := TJ63) (g' := (mkF m 70 #[iv p0, iv p1, iv p2, iv p3, iv p4, iv 0, rv l1, iv n, .unset, .unset, .unset, .unset] [(.int ((XT.ushr p0 (3 : Int32)) &&& (1 : Int32)))])) ?_ fun _ zk => XS.iand HJ63.here hx rfl (hb hby at_69) rfl zk
      by_cases b70_40 : ((XT.ushr p0 (3 : Int32)) &&& (1 : Int32)) = 0
      ·
        refine Rn.pu (T' := TJ63) (g' := (mkF m 73 #[iv p0, iv p1, iv p2, iv p3, iv p4, iv 0, rv l1, iv n, .unset, .unset, .unset, .unset] [])) ?_ fun _ zk => XS.ifNo HJ63.here hx rfl (hb hby at_70) rfl (z_ne_f b70_40) zk
        refine Rn.pu (T' := TJ63) (g' := (mkF m 74 #[iv p0, iv p1, iv p2, iv p3, iv p4, iv 0, rv l1, iv n, .unset, .unset, .unset, .unset] [(.int (0 : Int32))])) ?_ fun _ zk => XS.iconst HJ63.here hx rfl (hb hby at_73) zk
        refine Rn.pu (T' := TJ63) (g' := (mkF m 78 #[iv p0, iv p1, iv p2, iv p3, iv p4, iv 0, rv l1, iv n, .unset, .unset, .unset, .unset] [(.int (0 : Int32))])) ?_ fun _ zk => XS.goto HJ63.here hx rfl (pc0 := 74) (pc' := 78) rfl (hb hby at_74) (by decide) (by decide) zk
        exact J78 _ _ HJ63
      ·
        refine Rn.pu (T' := TJ63) (g' := (mkF m 77 #[iv p0, iv p1, iv p2, iv p3, iv p4, iv 0, rv l1, iv n, .unset, .unset, .unset, .unset] [])) ?_ fun _ zk => XS.ifYes HJ63.here hx rfl (pc0 := 70) (pc' := 77) rfl (hb hby at_70) rfl (z_ne_t b70_40) (by decide) (by decide) zk
        refine Rn.pu (T' := TJ63) (g' := (mkF m 78 #[iv p0, iv p1, iv p2, iv p3, iv p4, iv 0, rv l1, iv n, .unset, .unset, .unset, .unset] [(.int p1)])) ?_ fun _ zk => XS.iloadN HJ63.here hx rfl (hb hby at_77) rfl zk
        exact J78 _ _ HJ63
    refine Rn.pu (T' := T1) (g' := (mkF m 42 #[iv p0, iv p1, iv p2, iv p3, iv p4, iv 0, rv l1, .unset, .unset, .unset, .unset, .unset] [(.int p0)])) ?_ fun _ zk => XS.iloadN H1.here hx rfl (hb hby at_41) rfl zk
    refine Rn.pu (T' := T1) (g' := (mkF m 43 #[iv p0, iv p1, iv p2, iv p3, iv p4, iv 0, rv l1, .unset, .unset, .unset, .unset, .unset] [(.int (2 : Int32)), (.int p0)])) ?_ fun _ zk => XS.iconst H1.here hx rfl (hb hby at_42) zk
    refine Rn.pu (T' := T1) (g' := (mkF m 44 #[iv p0, iv p1, iv p2, iv p3, iv p4, iv 0, rv l1, .unset, .unset, .unset, .unset, .unset] [(.int (XT.ushr p0 (2 : Int32)))])) ?_ fun _ zk => XT.iushr H1.here hx rfl (hb hby at_43) rfl zk
    refine Rn.pu (T' := T1) (g' := (mkF m 45 #[iv p0, iv p1, iv p2, iv p3, iv p4, iv 0, rv l1, .unset, .unset, .unset, .unset, .unset] [(.int (1 : Int32)), (.int (XT.ushr p0 (2 : Int32)))])) ?_ fun _ zk => XS.iconst H1.here hx rfl (hb hby at_44) zk
    refine Rn.pu (T' := T1) (g' := (mkF m 46 #[iv p0, iv p1, iv p2, iv p3, iv p4, iv 0, rv l1, .unset, .unset, .unset, .unset, .unset] [(.int ((XT.ushr p0 (2 : Int32)) &&& (1 : Int32)))])) ?_ fun _ zk => XS.iand H1.here hx rfl (hb hby at_45) rfl zk
    by_cases b46_41 : ((XT.ushr p0 (2 : Int32)) &&& (1 : Int32)) = 0
    ·
      refine Rn.pu (T' := T1) (g' := (mkF m 49 #[iv p0, iv p1, iv p2, iv p3, iv p4, iv 0, rv l1, .unset, .unset, .unset, .unset, .unset] [])) ?_ fun _ zk => XS.ifNo H1.here hx rfl (hb hby at_46) rfl (z_ne_f b46_41) zk
      refine Rn.pu (T' := T1) (g' := (mkF m 51 #[iv p0, iv p1, iv p2, iv p3, iv p4, iv 0, rv l1, .unset, .unset, .unset, .unset, .unset] [(.ref l1)])) ?_ fun _ zk => XS.aload H1.here hx rfl (hb hby at_49) rfl rfl zk
      obtain ⟨_, T42, h42, H42, ⟨rfl, rfl⟩, -, st42⟩ := H1.callV (C := "java/lang/String") (wd hw 8 rfl) (wd hw 9 rfl) (wd hw 11 rfl) (wd hw 10 rfl) (by decide) (payLen (W := 0) (hws_len hw) (wd hw 2 rfl) S1 (SC0.ext H1.old) hz0 (by decide) (by decide)) S1.exa (g := (mkF m 51 #[iv p0, iv p1, iv p2, iv p3, iv p4, iv 0, rv l1, .unset, .unset, .unset, .unset, .unset] [(.ref l1)])) rfl (by rw [hml]; rfl) (argsL := []) (rest := []) (lenOf pd___I rfl) rfl rfl (Nat.le_of_eq rfl) (hb hby at_51) (by decide) (by decide) all0
      refine Rn.pu (g' := (mkF m 54 #[iv p0, iv p1, iv p2, iv p3, iv p4, iv 0, rv l1, .unset, .unset, .unset, .unset, .unset] [(.int (Int32.ofNat ([(97 : Int32), (99 : Int32), (116 : Int32), (105 : Int32), (118 : Int32), (101 : Int32)]).length))])) ?_ st42
      refine Rn.pu (T' := T42) (g' := (mkF m 63 #[iv p0, iv p1, iv p2, iv p3, iv p4, iv 0, rv l1, .unset, .unset, .unset, .unset, .unset] [(.int (Int32.ofNat ([(97 : Int32), (99 : Int32), (116 : Int32), (105 : Int32), (118 : Int32), (101 : Int32)]).length))])) ?_ fun _ zk => XS.goto H42.here hx rfl (pc0 := 54) (pc' := 63) rfl (hb hby at_54) (by decide) (by decide) zk
      exact J63 _ _ H42 (by decide)
    ·
      refine Rn.pu (T' := T1) (g' := (mkF m 57 #[iv p0, iv p1, iv p2, iv p3, iv p4, iv 0, rv l1, .unset, .unset, .unset, .unset, .unset] [])) ?_ fun _ zk => XS.ifYes H1.here hx rfl (pc0 := 46) (pc' := 57) rfl (hb hby at_46) rfl (z_ne_t b46_41) (by decide) (by decide) zk
      refine Rn.pu (T' := T1) (g' := (mkF m 58 #[iv p0, iv p1, iv p2, iv p3, iv p4, iv 0, rv l1, .unset, .unset, .unset, .unset, .unset] [(.int p0)])) ?_ fun _ zk => XS.iloadN H1.here hx rfl (hb hby at_57) rfl zk
      refine Rn.pu (T' := T1) (g' := (mkF m 59 #[iv p0, iv p1, iv p2, iv p3, iv p4, iv 0, rv l1, .unset, .unset, .unset, .unset, .unset] [(.int (5 : Int32)), (.int p0)])) ?_ fun _ zk => XS.iconst H1.here hx rfl (hb hby at_58) zk
      refine Rn.pu (T' := T1) (g' := (mkF m 60 #[iv p0, iv p1, iv p2, iv p3, iv p4, iv 0, rv l1, .unset, .unset, .unset, .unset, .unset] [(.int (XT.ushr p0 (5 : Int32)))])) ?_ fun _ zk => XT.iushr H1.here hx rfl (hb hby at_59) rfl zk
      refine Rn.pu (T' := T1) (g' := (mkF m 62 #[iv p0, iv p1, iv p2, iv p3, iv p4, iv 0, rv l1, .unset, .unset, .unset, .unset, .unset] [(.int (10 : Int32)), (.int (XT.ushr p0 (5 : Int32)))])) ?_ fun _ zk => XS.bipush H1.here hx rfl (hb hby at_60) zk
      refine Rn.pu (T' := T1) (g' := (mkF m 63 #[iv p0, iv p1, iv p2, iv p3, iv p4, iv 0, rv l1, .unset, .unset, .unset, .unset, .unset] [(.int ((XT.ushr p0 (5 : Int32)) % (10 : Int32)))])) ?_ fun _ zk => iremH H1 hx rfl (hb hby at_62) rfl (by decide) zk
      exact J63 _ _ H1 (own_rem10 _)
  ·
    refine Rn.pu (T' := T0) (g' := (mkF m 7 #[iv p0, iv p1, iv p2, iv p3, iv p4, iv 1, .unset, .unset, .unset, .unset, .unset, .unset] [(.int (1 : Int32))])) ?_ fun _ zk => XS.iload H0.here hx rfl (hb hby at_5) rfl zk
    refine Rn.pu (T' := T0) (g' := (mkF m 15 #[iv p0, iv p1, iv p2, iv p3, iv p4, iv 1, .unset, .unset, .unset, .unset, .unset, .unset] [])) ?_ fun _ zk => XS.ifYes H0.here hx rfl (pc0 := 7) (pc' := 15) rfl (hb hby at_7) rfl (z_ne_t (by decide)) (by decide) (by decide) zk
    refine Rn.pu (T' := T0) (g' := (mkF m 17 #[iv p0, iv p1, iv p2, iv p3, iv p4, iv 1, .unset, .unset, .unset, .unset, .unset, .unset] [(.int (1 : Int32))])) ?_ fun _ zk => XS.iload H0.here hx rfl (hb hby at_15) rfl zk
    refine Rn.pu (T' := T0) (g' := (mkF m 18 #[iv p0, iv p1, iv p2, iv p3, iv p4, iv 1, .unset, .unset, .unset, .unset, .unset, .unset] [(.int (1 : Int32)), (.int (1 : Int32))])) ?_ fun _ zk => XS.iconst H0.here hx rfl (hb hby at_17) zk
    refine Rn.pu (T' := T0) (g' := (mkF m 21 #[iv p0, iv p1, iv p2, iv p3, iv p4, iv 1, .unset, .unset, .unset, .unset, .unset, .unset] [])) ?_ fun _ zk => XS.icmpNo H0.here hx rfl (hb hby at_18) rfl (c_ne_f rfl) zk
    obtain ⟨l43, u43, T43, h43, H43, K43, S43, st43⟩ := H0.ldcV (Ts := []) (P := (fun vm => Z.Warmed39 vm)) (fun _ q => q) w39_stab (wd hw 109 rfl) (hws_sa hw) (by simp) hhF hcw (cs := [(102 : Int32), (97 : Int32), (105 : Int32), (108 : Int32), (105 : Int32), (110 : Int32), (103 : Int32)]) (by decide) (by decide) (by decide) (by decide) (g := (mkF m 21 #[iv p0, iv p1, iv p2, iv p3, iv p4, iv 1, .unset, .unset, .unset, .unset, .unset, .unset] [])) rfl (hb hby at_21) (n := 28) (by decide) (by decide) (by decide) (by decide)
    have zh43 := K43.1
    have l43a := natlt (S43).lt
    have l43t := natlt (S43).ltt
    refine Rn.pu (g' := (mkF m 23 #[iv p0, iv p1, iv p2, iv p3, iv p4, iv 1, .unset, .unset, .unset, .unset, .unset, .unset] [(.ref l43)])) ?_ st43
    refine Rn.pu (T' := T43) (g' := (mkF m 39 #[iv p0, iv p1, iv p2, iv p3, iv p4, iv 1, .unset, .unset, .unset, .unset, .unset, .unset] [(.ref l43)])) ?_ fun _ zk => XS.goto H43.here hx rfl (pc0 := 23) (pc' := 39) rfl (hb hby at_23) (by decide) (by decide) zk
    refine Rn.pu (T' := T43) (g' := (mkF m 41 #[iv p0, iv p1, iv p2, iv p3, iv p4, iv 1, rv l43, .unset, .unset, .unset, .unset, .unset] [])) ?_ fun _ zk => XS.astore H43.here hx rfl (hb hby at_39) rfl rfl (l' := #[iv p0, iv p1, iv p2, iv p3, iv p4, iv 1, rv l43, .unset, .unset, .unset, .unset, .unset]) rfl zk
    have J63 : ∀ (TJ63 : State) (n : Int32), Hs p l e room_1 s m #[(.int p0), (.int p1), (.int p2), (.int p3), (.int p4)] below meth c Z "com/example/calm_inbox/calminbox/webhook/WebhookStatusFromWireNamePinLaw" [] (fun vm => IB Z vm ["failing"] ∧ Lv Z "com/example/calm_inbox/calminbox/webhook/WebhookStatusFromWireNamePinLaw" 9 l43 vm ∧ Z.Warmed39 vm) TJ63 h43 2 32 → (n = 0 ∨ n = 1 ∨ n = 2 ∨ n = 3 ∨ n = 4 ∨ n = 5 ∨ n = 6 ∨ n = 7 ∨ n = 8 ∨ n = 9) → Rn p e below s ReturnedEndW [] (room_1).cells (room_1).slots (fun v vm h => v = some (.int 1)) TJ63 (mkF m 63 #[iv p0, iv p1, iv p2, iv p3, iv p4, iv 1, rv l43, .unset, .unset, .unset, .unset, .unset] [(.int n)]) := by
      intro TJ63 n HJ63 yJ63
      refine Rn.pu (T' := TJ63) (g' := (mkF m 65 #[iv p0, iv p1, iv p2, iv p3, iv p4, iv 1, rv l43, iv n, .unset, .unset, .unset, .unset] [])) ?_ fun _ zk => XS.istore HJ63.here hx rfl (hb hby at_63) rfl (l' := #[iv p0, iv p1, iv p2, iv p3, iv p4, iv 1, rv l43, iv n, .unset, .unset, .unset, .unset]) rfl zk
      have J78 : ∀ (TJ78 : State) (mk : Int32), Hs p l e room_1 s m #[(.int p0), (.int p1), (.int p2), (.int p3), (.int p4)] below meth c Z "com/example/calm_inbox/calminbox/webhook/WebhookStatusFromWireNamePinLaw" [] (fun vm => IB Z vm ["failing"] ∧ Lv Z "com/example/calm_inbox/calminbox/webhook/WebhookStatusFromWireNamePinLaw" 9 l43 vm ∧ Z.Warmed39 vm) TJ78 h43 2 32 → Rn p e below s ReturnedEndW [] (room_1).cells (room_1).slots (fun v vm h => v = some (.int 1)) TJ78 (mkF m 78 #[iv p0, iv p1, iv p2, iv p3, iv p4, iv 1, rv l43, iv n, .unset, .unset, .unset, .unset] [(.int mk)]) := by
        intro TJ78 mk HJ78
        refine Rn.pu (T' := TJ78) (g' := (mkF m 80 #[iv p0, iv p1, iv p2, iv p3, iv p4, iv 1, rv l43, iv n, iv mk, .unset, .unset, .unset] [])) ?_ fun _ zk => XS.istore HJ78.here hx rfl (hb hby at_78) rfl (l' := #[iv p0, iv p1, iv p2, iv p3, iv p4, iv 1, rv l43, iv n, iv mk, .unset, .unset, .unset]) rfl zk
        refine Rn.pu (T' := TJ78) (g' := (mkF m 82 #[iv p0, iv p1, iv p2, iv p3, iv p4, iv 1, rv l43, iv n, iv mk, .unset, .unset, .unset] [(.int (9 : Int32))])) ?_ fun _ zk => XS.bipush HJ78.here hx rfl (hb hby at_80) zk
        obtain ⟨a44, k44, T44, h44, e44, H44, K44, A44, st44⟩ := HJ78.newP (aty := .char) (wd hw 21 rfl) (g := (mkF m 82 #[iv p0, iv p1, iv p2, iv p3, iv p4, iv 1, rv l43, iv n, iv mk, .unset, .unset, .unset] [(.int (9 : Int32))])) rfl (hb hby at_82) rfl (by decide) (cap := 9) (by decide) (by decide) (by decide) (by decide)
        have zh44 := K44.1
        have l44 := natlt (A44).lt
        have g44 : s.heap.size ≤ a44 := by omega
        refine Rn.pu (g' := (mkF m 84 #[iv p0, iv p1, iv p2, iv p3, iv p4, iv 1, rv l43, iv n, iv mk, .unset, .unset, .unset] [(.ref a44)])) ?_ st44
        refine Rn.pu (T' := T44) (g' := (mkF m 86 #[iv p0, iv p1, iv p2, iv p3, iv p4, iv 1, rv l43, iv n, iv mk, rv a44, .unset, .unset] [])) ?_ fun _ zk => XS.astore H44.here hx rfl (hb hby at_84) rfl rfl (l' := #[iv p0, iv p1, iv p2, iv p3, iv p4, iv 1, rv l43, iv n, iv mk, rv a44, .unset, .unset]) rfl zk
        refine Rn.pu (T' := T44) (g' := (mkF m 88 #[iv p0, iv p1, iv p2, iv p3, iv p4, iv 1, rv l43, iv n, iv mk, rv a44, .unset, .unset] [(.ref a44)])) ?_ fun _ zk => XS.aload H44.here hx rfl (hb hby at_86) rfl rfl zk
        refine Rn.pu (T' := T44) (g' := (mkF m 89 #[iv p0, iv p1, iv p2, iv p3, iv p4, iv 1, rv l43, iv n, iv mk, rv a44, .unset, .unset] [(.int (0 : Int32)), (.ref a44)])) ?_ fun _ zk => XS.iconst H44.here hx rfl (hb hby at_88) zk
        refine Rn.pu (T' := T44) (g' := (mkF m 91 #[iv p0, iv p1, iv p2, iv p3, iv p4, iv 1, rv l43, iv n, iv mk, rv a44, .unset, .unset] [(.ref l43), (.int (0 : Int32)), (.ref a44)])) ?_ fun _ zk => XS.aload H44.here hx rfl (hb hby at_89) rfl rfl zk
        refine Rn.pu (T' := T44) (g' := (mkF m 93 #[iv p0, iv p1, iv p2, iv p3, iv p4, iv 1, rv l43, iv n, iv mk, rv a44, .unset, .unset] [(.int mk), (.ref l43), (.int (0 : Int32)), (.ref a44)])) ?_ fun _ zk => XS.iload H44.here hx rfl (hb hby at_91) rfl zk
        refine Rn.pu (T' := T44) (g' := (mkF m 94 #[iv p0, iv p1, iv p2, iv p3, iv p4, iv 1, rv l43, iv n, iv mk, rv a44, .unset, .unset] [(.int (0 : Int32)), (.int mk), (.ref l43), (.int (0 : Int32)), (.ref a44)])) ?_ fun _ zk => XS.iconst H44.here hx rfl (hb hby at_93) zk
        refine Rn.pu (T' := T44) (g' := (mkF m 95 #[iv p0, iv p1, iv p2, iv p3, iv p4, iv 1, rv l43, iv n, iv mk, rv a44, .unset, .unset] [(.int p2), (.int (0 : Int32)), (.int mk), (.ref l43), (.int (0 : Int32)), (.ref a44)])) ?_ fun _ zk => XS.iloadN H44.here hx rfl (hb hby at_94) rfl zk
        refine Rn.pu (T' := T44) (g' := (mkF m 96 #[iv p0, iv p1, iv p2, iv p3, iv p4, iv 1, rv l43, iv n, iv mk, rv a44, .unset, .unset] [(.int p3), (.int p2), (.int (0 : Int32)), (.int mk), (.ref l43), (.int (0 : Int32)), (.ref a44)])) ?_ fun _ zk => XS.iloadN H44.here hx rfl (hb hby at_95) rfl zk
        refine Rn.pu (T' := T44) (g' := (mkF m 98 #[iv p0, iv p1, iv p2, iv p3, iv p4, iv 1, rv l43, iv n, iv mk, rv a44, .unset, .unset] [(.int p4), (.int p3), (.int p2), (.int (0 : Int32)), (.int mk), (.ref l43), (.int (0 : Int32)), (.ref a44)])) ?_ fun _ zk => XS.iload H44.here hx rfl (hb hby at_96) rfl zk
        obtain ⟨_, T45, h45, H45, ⟨r45, rfl, rr45, rfl⟩, -, st45⟩ := H44.callS (wd hw 22 rfl) (wd hw 23 rfl) (wd hw 24 rfl) (wd hw 25 rfl) (by decide) (MetN.pay (W := 2) (c_ch l B0 l43 u43 mk p2 p3 p4 [(102 : Int32), (97 : Int32), (105 : Int32), (108 : Int32), (105 : Int32), (110 : Int32), (103 : Int32)] 0 h44 H44.old (S43.keep K44 nin0 nin0) (by decide) (by decide)) (wd hw 25 rfl) (wd hw 24 rfl) (by decide) (by decide)) (g := (mkF m 98 #[iv p0, iv p1, iv p2, iv p3, iv p4, iv 1, rv l43, iv n, iv mk, rv a44, .unset, .unset] [(.int p4), (.int p3), (.int p2), (.int (0 : Int32)), (.int mk), (.ref l43), (.int (0 : Int32)), (.ref a44)])) rfl (by rw [hml]; rfl) (argsL := [(.ref l43), (.int mk), (.int (0 : Int32)), (.int p2), (.int p3), (.int p4)]) (rest := [(.int (0 : Int32)), (.ref a44)]) (lenOf pd__Ljava_lang_String_IIIII_C rfl) rfl rfl (Nat.le_of_eq rfl) (hb hby at_98) (by decide) (by decide) all0
        refine Rn.pu (g' := (mkF m 101 #[iv p0, iv p1, iv p2, iv p3, iv p4, iv 1, rv l43, iv n, iv mk, rv a44, .unset, .unset] [(.int r45), (.int (0 : Int32)), (.ref a44)])) ?_ st45
        obtain ⟨T46, h46, H46, K46, A46, st46⟩ := H45.stC A44 (by decide) rfl (Or.inr (by omega)) (g := (mkF m 101 #[iv p0, iv p1, iv p2, iv p3, iv p4, iv 1, rv l43, iv n, iv mk, rv a44, .unset, .unset] [(.int r45), (.int (0 : Int32)), (.ref a44)])) rfl rfl (hb hby at_101)
        have zh46 := K46.1
        refine Rn.pu (g' := (mkF m 102 #[iv p0, iv p1, iv p2, iv p3, iv p4, iv 1, rv l43, iv n, iv mk, rv a44, .unset, .unset] [])) ?_ st46
        refine Rn.pu (T' := T46) (g' := (mkF m 104 #[iv p0, iv p1, iv p2, iv p3, iv p4, iv 1, rv l43, iv n, iv mk, rv a44, .unset, .unset] [(.ref a44)])) ?_ fun _ zk => XS.aload H46.here hx rfl (hb hby at_102) rfl rfl zk
        refine Rn.pu (T' := T46) (g' := (mkF m 105 #[iv p0, iv p1, iv p2, iv p3, iv p4, iv 1, rv l43, iv n, iv mk, rv a44, .unset, .unset] [(.int (1 : Int32)), (.ref a44)])) ?_ fun _ zk => XS.iconst H46.here hx rfl (hb hby at_104) zk
        refine Rn.pu (T' := T46) (g' := (mkF m 107 #[iv p0, iv p1, iv p2, iv p3, iv p4, iv 1, rv l43, iv n, iv mk, rv a44, .unset, .unset] [(.ref l43), (.int (1 : Int32)), (.ref a44)])) ?_ fun _ zk => XS.aload H46.here hx rfl (hb hby at_105) rfl rfl zk
        refine Rn.pu (T' := T46) (g' := (mkF m 109 #[iv p0, iv p1, iv p2, iv p3, iv p4, iv 1, rv l43, iv n, iv mk, rv a44, .unset, .unset] [(.int mk), (.ref l43), (.int (1 : Int32)), (.ref a44)])) ?_ fun _ zk => XS.iload H46.here hx rfl (hb hby at_107) rfl zk
        refine Rn.pu (T' := T46) (g' := (mkF m 110 #[iv p0, iv p1, iv p2, iv p3, iv p4, iv 1, rv l43, iv n, iv mk, rv a44, .unset, .unset] [(.int (1 : Int32)), (.int mk), (.ref l43), (.int (1 : Int32)), (.ref a44)])) ?_ fun _ zk => XS.iconst H46.here hx rfl (hb hby at_109) zk
        refine Rn.pu (T' := T46) (g' := (mkF m 111 #[iv p0, iv p1, iv p2, iv p3, iv p4, iv 1, rv l43, iv n, iv mk, rv a44, .unset, .unset] [(.int p2), (.int (1 : Int32)), (.int mk), (.ref l43), (.int (1 : Int32)), (.ref a44)])) ?_ fun _ zk => XS.iloadN H46.here hx rfl (hb hby at_110) rfl zk
        refine Rn.pu (T' := T46) (g' := (mkF m 112 #[iv p0, iv p1, iv p2, iv p3, iv p4, iv 1, rv l43, iv n, iv mk, rv a44, .unset, .unset] [(.int p3), (.int p2), (.int (1 : Int32)), (.int mk), (.ref l43), (.int (1 : Int32)), (.ref a44)])) ?_ fun _ zk => XS.iloadN H46.here hx rfl (hb hby at_111) rfl zk
        refine Rn.pu (T' := T46) (g' := (mkF m 114 #[iv p0, iv p1, iv p2, iv p3, iv p4, iv 1, rv l43, iv n, iv mk, rv a44, .unset, .unset] [(.int p4), (.int p3), (.int p2), (.int (1 : Int32)), (.int mk), (.ref l43), (.int (1 : Int32)), (.ref a44)])) ?_ fun _ zk => XS.iload H46.here hx rfl (hb hby at_112) rfl zk
        obtain ⟨_, T47, h47, H47, ⟨r47, rfl, rr47, rfl⟩, -, st47⟩ := H46.callS (wd hw 22 rfl) (wd hw 23 rfl) (wd hw 24 rfl) (wd hw 25 rfl) (by decide) (MetN.pay (W := 2) (c_ch l B0 l43 u43 mk p2 p3 p4 [(102 : Int32), (97 : Int32), (105 : Int32), (108 : Int32), (105 : Int32), (110 : Int32), (103 : Int32)] 1 h46 H46.old ((S43.keep K44 nin0 nin0).keep K46 (ninS (adne (by omega)) nin0) (ninS (adne (by omega)) nin0)) (by decide) (by decide)) (wd hw 25 rfl) (wd hw 24 rfl) (by decide) (by decide)) (g := (mkF m 114 #[iv p0, iv p1, iv p2, iv p3, iv p4, iv 1, rv l43, iv n, iv mk, rv a44, .unset, .unset] [(.int p4), (.int p3), (.int p2), (.int (1 : Int32)), (.int mk), (.ref l43), (.int (1 : Int32)), (.ref a44)])) rfl (by rw [hml]; rfl) (argsL := [(.ref l43), (.int mk), (.int (1 : Int32)), (.int p2), (.int p3), (.int p4)]) (rest := [(.int (1 : Int32)), (.ref a44)]) (lenOf pd__Ljava_lang_String_IIIII_C rfl) rfl rfl (Nat.le_of_eq rfl) (hb hby at_114) (by decide) (by decide) all0
        refine Rn.pu (g' := (mkF m 117 #[iv p0, iv p1, iv p2, iv p3, iv p4, iv 1, rv l43, iv n, iv mk, rv a44, .unset, .unset] [(.int r47), (.int (1 : Int32)), (.ref a44)])) ?_ st47
        obtain ⟨T48, h48, H48, K48, A48, st48⟩ := H47.stC A46 (by decide) rfl (Or.inr (by omega)) (g := (mkF m 117 #[iv p0, iv p1, iv p2, iv p3, iv p4, iv 1, rv l43, iv n, iv mk, rv a44, .unset, .unset] [(.int r47), (.int (1 : Int32)), (.ref a44)])) rfl rfl (hb hby at_117)
        have zh48 := K48.1
        refine Rn.pu (g' := (mkF m 118 #[iv p0, iv p1, iv p2, iv p3, iv p4, iv 1, rv l43, iv n, iv mk, rv a44, .unset, .unset] [])) ?_ st48
        refine Rn.pu (T' := T48) (g' := (mkF m 120 #[iv p0, iv p1, iv p2, iv p3, iv p4, iv 1, rv l43, iv n, iv mk, rv a44, .unset, .unset] [(.ref a44)])) ?_ fun _ zk => XS.aload H48.here hx rfl (hb hby at_118) rfl rfl zk
        refine Rn.pu (T' := T48) (g' := (mkF m 121 #[iv p0, iv p1, iv p2, iv p3, iv p4, iv 1, rv l43, iv n, iv mk, rv a44, .unset, .unset] [(.int (2 : Int32)), (.ref a44)])) ?_ fun _ zk => XS.iconst H48.here hx rfl (hb hby at_120) zk
        refine Rn.pu (T' := T48) (g' := (mkF m 123 #[iv p0, iv p1, iv p2, iv p3, iv p4, iv 1, rv l43, iv n, iv mk, rv a44, .unset, .unset] [(.ref l43), (.int (2 : Int32)), (.ref a44)])) ?_ fun _ zk => XS.aload H48.here hx rfl (hb hby at_121) rfl rfl zk
        refine Rn.pu (T' := T48) (g' := (mkF m 125 #[iv p0, iv p1, iv p2, iv p3, iv p4, iv 1, rv l43, iv n, iv mk, rv a44, .unset, .unset] [(.int mk), (.ref l43), (.int (2 : Int32)), (.ref a44)])) ?_ fun _ zk => XS.iload H48.here hx rfl (hb hby at_123) rfl zk
        refine Rn.pu (T' := T48) (g' := (mkF m 126 #[iv p0, iv p1, iv p2, iv p3, iv p4, iv 1, rv l43, iv n, iv mk, rv a44, .unset, .unset] [(.int (2 : Int32)), (.int mk), (.ref l43), (.int (2 : Int32)), (.ref a44)])) ?_ fun _ zk => XS.iconst H48.here hx rfl (hb hby at_125) zk
        refine Rn.pu (T' := T48) (g' := (mkF m 127 #[iv p0, iv p1, iv p2, iv p3, iv p4, iv 1, rv l43, iv n, iv mk, rv a44, .unset, .unset] [(.int p2), (.int (2 : Int32)), (.int mk), (.ref l43), (.int (2 : Int32)), (.ref a44)])) ?_ fun _ zk => XS.iloadN H48.here hx rfl (hb hby at_126) rfl zk
        refine Rn.pu (T' := T48) (g' := (mkF m 128 #[iv p0, iv p1, iv p2, iv p3, iv p4, iv 1, rv l43, iv n, iv mk, rv a44, .unset, .unset] [(.int p3), (.int p2), (.int (2 : Int32)), (.int mk), (.ref l43), (.int (2 : Int32)), (.ref a44)])) ?_ fun _ zk => XS.iloadN H48.here hx rfl (hb hby at_127) rfl zk
        refine Rn.pu (T' := T48) (g' := (mkF m 130 #[iv p0, iv p1, iv p2, iv p3, iv p4, iv 1, rv l43, iv n, iv mk, rv a44, .unset, .unset] [(.int p4), (.int p3), (.int p2), (.int (2 : Int32)), (.int mk), (.ref l43), (.int (2 : Int32)), (.ref a44)])) ?_ fun _ zk => XS.iload H48.here hx rfl (hb hby at_128) rfl zk
        obtain ⟨_, T49, h49, H49, ⟨r49, rfl, rr49, rfl⟩, -, st49⟩ := H48.callS (wd hw 22 rfl) (wd hw 23 rfl) (wd hw 24 rfl) (wd hw 25 rfl) (by decide) (MetN.pay (W := 2) (c_ch l B0 l43 u43 mk p2 p3 p4 [(102 : Int32), (97 : Int32), (105 : Int32), (108 : Int32), (105 : Int32), (110 : Int32), (103 : Int32)] 2 h48 H48.old (((S43.keep K44 nin0 nin0).keep K46 (ninS (adne (by omega)) nin0) (ninS (adne (by omega)) nin0)).keep K48 (ninS (adne (by omega)) nin0) (ninS (adne (by omega)) nin0)) (by decide) (by decide)) (wd hw 25 rfl) (wd hw 24 rfl) (by decide) (by decide)) (g := (mkF m 130 #[iv p0, iv p1, iv p2, iv p3, iv p4, iv 1, rv l43, iv n, iv mk, rv a44, .unset, .unset] [(.int p4), (.int p3), (.int p2), (.int (2 : Int32)), (.int mk), (.ref l43), (.int (2 : Int32)), (.ref a44)])) rfl (by rw [hml]; rfl) (argsL := [(.ref l43), (.int mk), (.int (2 : Int32)), (.int p2), (.int p3), (.int p4)]) (rest := [(.int (2 : Int32)), (.ref a44)]) (lenOf pd__Ljava_lang_String_IIIII_C rfl) rfl rfl (Nat.le_of_eq rfl) (hb hby at_130) (by decide) (by decide) all0
        refine Rn.pu (g' := (mkF m 133 #[iv p0, iv p1, iv p2, iv p3, iv p4, iv 1, rv l43, iv n, iv mk, rv a44, .unset, .unset] [(.int r49), (.int (2 : Int32)), (.ref a44)])) ?_ st49
        obtain ⟨T50, h50, H50, K50, A50, st50⟩ := H49.stC A48 (by decide) rfl (Or.inr (by omega)) (g := (mkF m 133 #[iv p0, iv p1, iv p2, iv p3, iv p4, iv 1, rv l43, iv n, iv mk, rv a44, .unset, .unset] [(.int r49), (.int (2 : Int32)), (.ref a44)])) rfl rfl (hb hby at_133)
        have zh50 := K50.1
        refine Rn.pu (g' := (mkF m 134 #[iv p0, iv p1, iv p2, iv p3, iv p4, iv 1, rv l43, iv n, iv mk, rv a44, .unset, .unset] [])) ?_ st50
        refine Rn.pu (T' := T50) (g' := (mkF m 136 #[iv p0, iv p1, iv p2, iv p3, iv p4, iv 1, rv l43, iv n, iv mk, rv a44, .unset, .unset] [(.ref a44)])) ?_ fun _ zk => XS.aload H50.here hx rfl (hb hby at_134) rfl rfl zk
        refine Rn.pu (T' := T50) (g' := (mkF m 137 #[iv p0, iv p1, iv p2, iv p3, iv p4, iv 1, rv l43, iv n, iv mk, rv a44, .unset, .unset] [(.int (3 : Int32)), (.ref a44)])) ?_ fun _ zk => XS.iconst H50.here hx rfl (hb hby at_136) zk
        refine Rn.pu (T' := T50) (g' := (mkF m 139 #[iv p0, iv p1, iv p2, iv p3, iv p4, iv 1, rv l43, iv n, iv mk, rv a44, .unset, .unset] [(.ref l43), (.int (3 : Int32)), (.ref a44)])) ?_ fun _ zk => XS.aload H50.here hx rfl (hb hby at_137) rfl rfl zk
        refine Rn.pu (T' := T50) (g' := (mkF m 141 #[iv p0, iv p1, iv p2, iv p3, iv p4, iv 1, rv l43, iv n, iv mk, rv a44, .unset, .unset] [(.int mk), (.ref l43), (.int (3 : Int32)), (.ref a44)])) ?_ fun _ zk => XS.iload H50.here hx rfl (hb hby at_139) rfl zk
        refine Rn.pu (T' := T50) (g' := (mkF m 142 #[iv p0, iv p1, iv p2, iv p3, iv p4, iv 1, rv l43, iv n, iv mk, rv a44, .unset, .unset] [(.int (3 : Int32)), (.int mk), (.ref l43), (.int (3 : Int32)), (.ref a44)])) ?_ fun _ zk => XS.iconst H50.here hx rfl (hb hby at_141) zk
        refine Rn.pu (T' := T50) (g' := (mkF m 143 #[iv p0, iv p1, iv p2, iv p3, iv p4, iv 1, rv l43, iv n, iv mk, rv a44, .unset, .unset] [(.int p2), (.int (3 : Int32)), (.int mk), (.ref l43), (.int (3 : Int32)), (.ref a44)])) ?_ fun _ zk => XS.iloadN H50.here hx rfl (hb hby at_142) rfl zk
        refine Rn.pu (T' := T50) (g' := (mkF m 144 #[iv p0, iv p1, iv p2, iv p3, iv p4, iv 1, rv l43, iv n, iv mk, rv a44, .unset, .unset] [(.int p3), (.int p2), (.int (3 : Int32)), (.int mk), (.ref l43), (.int (3 : Int32)), (.ref a44)])) ?_ fun _ zk => XS.iloadN H50.here hx rfl (hb hby at_143) rfl zk
        refine Rn.pu (T' := T50) (g' := (mkF m 146 #[iv p0, iv p1, iv p2, iv p3, iv p4, iv 1, rv l43, iv n, iv mk, rv a44, .unset, .unset] [(.int p4), (.int p3), (.int p2), (.int (3 : Int32)), (.int mk), (.ref l43), (.int (3 : Int32)), (.ref a44)])) ?_ fun _ zk => XS.iload H50.here hx rfl (hb hby at_144) rfl zk
        obtain ⟨_, T51, h51, H51, ⟨r51, rfl, rr51, rfl⟩, -, st51⟩ := H50.callS (wd hw 22 rfl) (wd hw 23 rfl) (wd hw 24 rfl) (wd hw 25 rfl) (by decide) (MetN.pay (W := 2) (c_ch l B0 l43 u43 mk p2 p3 p4 [(102 : Int32), (97 : Int32), (105 : Int32), (108 : Int32), (105 : Int32), (110 : Int32), (103 : Int32)] 3 h50 H50.old ((((S43.keep K44 nin0 nin0).keep K46 (ninS (adne (by omega)) nin0) (ninS (adne (by omega)) nin0)).keep K48 (ninS (adne (by omega)) nin0) (ninS (adne (by omega)) nin0)).keep K50 (ninS (adne (by omega)) nin0) (ninS (adne (by omega)) nin0)) (by decide) (by decide)) (wd hw 25 rfl) (wd hw 24 rfl) (by decide) (by decide)) (g := (mkF m 146 #[iv p0, iv p1, iv p2, iv p3, iv p4, iv 1, rv l43, iv n, iv mk, rv a44, .unset, .unset] [(.int p4), (.int p3), (.int p2), (.int (3 : Int32)), (.int mk), (.ref l43), (.int (3 : Int32)), (.ref a44)])) rfl (by rw [hml]; rfl) (argsL := [(.ref l43), (.int mk), (.int (3 : Int32)), (.int p2), (.int p3), (.int p4)]) (rest := [(.int (3 : Int32)), (.ref a44)]) (lenOf pd__Ljava_lang_String_IIIII_C rfl) rfl rfl (Nat.le_of_eq rfl) (hb hby at_146) (by decide) (by decide) all0
        refine Rn.pu (g' := (mkF m 149 #[iv p0, iv p1, iv p2, iv p3, iv p4, iv 1, rv l43, iv n, iv mk, rv a44, .unset, .unset] [(.int r51), (.int (3 : Int32)), (.ref a44)])) ?_ st51
        obtain ⟨T52, h52, H52, K52, A52, st52⟩ := H51.stC A50 (by decide) rfl (Or.inr (by omega)) (g := (mkF m 149 #[iv p0, iv p1, iv p2, iv p3, iv p4, iv 1, rv l43, iv n, iv mk, rv a44, .unset, .unset] [(.int r51), (.int (3 : Int32)), (.ref a44)])) rfl rfl (hb hby at_149)
        have zh52 := K52.1
        refine Rn.pu (g' := (mkF m 150 #[iv p0, iv p1, iv p2, iv p3, iv p4, iv 1, rv l43, iv n, iv mk, rv a44, .unset, .unset] [])) ?_ st52
        refine Rn.pu (T' := T52) (g' := (mkF m 152 #[iv p0, iv p1, iv p2, iv p3, iv p4, iv 1, rv l43, iv n, iv mk, rv a44, .unset, .unset] [(.ref a44)])) ?_ fun _ zk => XS.aload H52.here hx rfl (hb hby at_150) rfl rfl zk
        refine Rn.pu (T' := T52) (g' := (mkF m 153 #[iv p0, iv p1, iv p2, iv p3, iv p4, iv 1, rv l43, iv n, iv mk, rv a44, .unset, .unset] [(.int (4 : Int32)), (.ref a44)])) ?_ fun _ zk => XS.iconst H52.here hx rfl (hb hby at_152) zk
        refine Rn.pu (T' := T52) (g' := (mkF m 155 #[iv p0, iv p1, iv p2, iv p3, iv p4, iv 1, rv l43, iv n, iv mk, rv a44, .unset, .unset] [(.ref l43), (.int (4 : Int32)), (.ref a44)])) ?_ fun _ zk => XS.aload H52.here hx rfl (hb hby at_153) rfl rfl zk
        refine Rn.pu (T' := T52) (g' := (mkF m 157 #[iv p0, iv p1, iv p2, iv p3, iv p4, iv 1, rv l43, iv n, iv mk, rv a44, .unset, .unset] [(.int mk), (.ref l43), (.int (4 : Int32)), (.ref a44)])) ?_ fun _ zk => XS.iload H52.here hx rfl (hb hby at_155) rfl zk
        refine Rn.pu (T' := T52) (g' := (mkF m 158 #[iv p0, iv p1, iv p2, iv p3, iv p4, iv 1, rv l43, iv n, iv mk, rv a44, .unset, .unset] [(.int (4 : Int32)), (.int mk), (.ref l43), (.int (4 : Int32)), (.ref a44)])) ?_ fun _ zk => XS.iconst H52.here hx rfl (hb hby at_157) zk
        refine Rn.pu (T' := T52) (g' := (mkF m 159 #[iv p0, iv p1, iv p2, iv p3, iv p4, iv 1, rv l43, iv n, iv mk, rv a44, .unset, .unset] [(.int p2), (.int (4 : Int32)), (.int mk), (.ref l43), (.int (4 : Int32)), (.ref a44)])) ?_ fun _ zk => XS.iloadN H52.here hx rfl (hb hby at_158) rfl zk
        refine Rn.pu (T' := T52) (g' := (mkF m 160 #[iv p0, iv p1, iv p2, iv p3, iv p4, iv 1, rv l43, iv n, iv mk, rv a44, .unset, .unset] [(.int p3), (.int p2), (.int (4 : Int32)), (.int mk), (.ref l43), (.int (4 : Int32)), (.ref a44)])) ?_ fun _ zk => XS.iloadN H52.here hx rfl (hb hby at_159) rfl zk
        refine Rn.pu (T' := T52) (g' := (mkF m 162 #[iv p0, iv p1, iv p2, iv p3, iv p4, iv 1, rv l43, iv n, iv mk, rv a44, .unset, .unset] [(.int p4), (.int p3), (.int p2), (.int (4 : Int32)), (.int mk), (.ref l43), (.int (4 : Int32)), (.ref a44)])) ?_ fun _ zk => XS.iload H52.here hx rfl (hb hby at_160) rfl zk
        obtain ⟨_, T53, h53, H53, ⟨r53, rfl, rr53, rfl⟩, -, st53⟩ := H52.callS (wd hw 22 rfl) (wd hw 23 rfl) (wd hw 24 rfl) (wd hw 25 rfl) (by decide) (MetN.pay (W := 2) (c_ch l B0 l43 u43 mk p2 p3 p4 [(102 : Int32), (97 : Int32), (105 : Int32), (108 : Int32), (105 : Int32), (110 : Int32), (103 : Int32)] 4 h52 H52.old (((((S43.keep K44 nin0 nin0).keep K46 (ninS (adne (by omega)) nin0) (ninS (adne (by omega)) nin0)).keep K48 (ninS (adne (by omega)) nin0) (ninS (adne (by omega)) nin0)).keep K50 (ninS (adne (by omega)) nin0) (ninS (adne (by omega)) nin0)).keep K52 (ninS (adne (by omega)) nin0) (ninS (adne (by omega)) nin0)) (by decide) (by decide)) (wd hw 25 rfl) (wd hw 24 rfl) (by decide) (by decide)) (g := (mkF m 162 #[iv p0, iv p1, iv p2, iv p3, iv p4, iv 1, rv l43, iv n, iv mk, rv a44, .unset, .unset] [(.int p4), (.int p3), (.int p2), (.int (4 : Int32)), (.int mk), (.ref l43), (.int (4 : Int32)), (.ref a44)])) rfl (by rw [hml]; rfl) (argsL := [(.ref l43), (.int mk), (.int (4 : Int32)), (.int p2), (.int p3), (.int p4)]) (rest := [(.int (4 : Int32)), (.ref a44)]) (lenOf pd__Ljava_lang_String_IIIII_C rfl) rfl rfl (Nat.le_of_eq rfl) (hb hby at_162) (by decide) (by decide) all0
        refine Rn.pu (g' := (mkF m 165 #[iv p0, iv p1, iv p2, iv p3, iv p4, iv 1, rv l43, iv n, iv mk, rv a44, .unset, .unset] [(.int r53), (.int (4 : Int32)), (.ref a44)])) ?_ st53
        obtain ⟨T54, h54, H54, K54, A54, st54⟩ := H53.stC A52 (by decide) rfl (Or.inr (by omega)) (g := (mkF m 165 #[iv p0, iv p1, iv p2, iv p3, iv p4, iv 1, rv l43, iv n, iv mk, rv a44, .unset, .unset] [(.int r53), (.int (4 : Int32)), (.ref a44)])) rfl rfl (hb hby at_165)
        have zh54 := K54.1
        refine Rn.pu (g' := (mkF m 166 #[iv p0, iv p1, iv p2, iv p3, iv p4, iv 1, rv l43, iv n, iv mk, rv a44, .unset, .unset] [])) ?_ st54
        refine Rn.pu (T' := T54) (g' := (mkF m 168 #[iv p0, iv p1, iv p2, iv p3, iv p4, iv 1, rv l43, iv n, iv mk, rv a44, .unset, .unset] [(.ref a44)])) ?_ fun _ zk => XS.aload H54.here hx rfl (hb hby at_166) rfl rfl zk
        refine Rn.pu (T' := T54) (g' := (mkF m 169 #[iv p0, iv p1, iv p2, iv p3, iv p4, iv 1, rv l43, iv n, iv mk, rv a44, .unset, .unset] [(.int (5 : Int32)), (.ref a44)])) ?_ fun _ zk => XS.iconst H54.here hx rfl (hb hby at_168) zk
        refine Rn.pu (T' := T54) (g' := (mkF m 171 #[iv p0, iv p1, iv p2, iv p3, iv p4, iv 1, rv l43, iv n, iv mk, rv a44, .unset, .unset] [(.ref l43), (.int (5 : Int32)), (.ref a44)])) ?_ fun _ zk => XS.aload H54.here hx rfl (hb hby at_169) rfl rfl zk
        refine Rn.pu (T' := T54) (g' := (mkF m 173 #[iv p0, iv p1, iv p2, iv p3, iv p4, iv 1, rv l43, iv n, iv mk, rv a44, .unset, .unset] [(.int mk), (.ref l43), (.int (5 : Int32)), (.ref a44)])) ?_ fun _ zk => XS.iload H54.here hx rfl (hb hby at_171) rfl zk
        refine Rn.pu (T' := T54) (g' := (mkF m 174 #[iv p0, iv p1, iv p2, iv p3, iv p4, iv 1, rv l43, iv n, iv mk, rv a44, .unset, .unset] [(.int (5 : Int32)), (.int mk), (.ref l43), (.int (5 : Int32)), (.ref a44)])) ?_ fun _ zk => XS.iconst H54.here hx rfl (hb hby at_173) zk
        refine Rn.pu (T' := T54) (g' := (mkF m 175 #[iv p0, iv p1, iv p2, iv p3, iv p4, iv 1, rv l43, iv n, iv mk, rv a44, .unset, .unset] [(.int p2), (.int (5 : Int32)), (.int mk), (.ref l43), (.int (5 : Int32)), (.ref a44)])) ?_ fun _ zk => XS.iloadN H54.here hx rfl (hb hby at_174) rfl zk
        refine Rn.pu (T' := T54) (g' := (mkF m 176 #[iv p0, iv p1, iv p2, iv p3, iv p4, iv 1, rv l43, iv n, iv mk, rv a44, .unset, .unset] [(.int p3), (.int p2), (.int (5 : Int32)), (.int mk), (.ref l43), (.int (5 : Int32)), (.ref a44)])) ?_ fun _ zk => XS.iloadN H54.here hx rfl (hb hby at_175) rfl zk
        refine Rn.pu (T' := T54) (g' := (mkF m 178 #[iv p0, iv p1, iv p2, iv p3, iv p4, iv 1, rv l43, iv n, iv mk, rv a44, .unset, .unset] [(.int p4), (.int p3), (.int p2), (.int (5 : Int32)), (.int mk), (.ref l43), (.int (5 : Int32)), (.ref a44)])) ?_ fun _ zk => XS.iload H54.here hx rfl (hb hby at_176) rfl zk
        obtain ⟨_, T55, h55, H55, ⟨r55, rfl, rr55, rfl⟩, -, st55⟩ := H54.callS (wd hw 22 rfl) (wd hw 23 rfl) (wd hw 24 rfl) (wd hw 25 rfl) (by decide) (MetN.pay (W := 2) (c_ch l B0 l43 u43 mk p2 p3 p4 [(102 : Int32), (97 : Int32), (105 : Int32), (108 : Int32), (105 : Int32), (110 : Int32), (103 : Int32)] 5 h54 H54.old ((((((S43.keep K44 nin0 nin0).keep K46 (ninS (adne (by omega)) nin0) (ninS (adne (by omega)) nin0)).keep K48 (ninS (adne (by omega)) nin0) (ninS (adne (by omega)) nin0)).keep K50 (ninS (adne (by omega)) nin0) (ninS (adne (by omega)) nin0)).keep K52 (ninS (adne (by omega)) nin0) (ninS (adne (by omega)) nin0)).keep K54 (ninS (adne (by omega)) nin0) (ninS (adne (by omega)) nin0)) (by decide) (by decide)) (wd hw 25 rfl) (wd hw 24 rfl) (by decide) (by decide)) (g := (mkF m 178 #[iv p0, iv p1, iv p2, iv p3, iv p4, iv 1, rv l43, iv n, iv mk, rv a44, .unset, .unset] [(.int p4), (.int p3), (.int p2), (.int (5 : Int32)), (.int mk), (.ref l43), (.int (5 : Int32)), (.ref a44)])) rfl (by rw [hml]; rfl) (argsL := [(.ref l43), (.int mk), (.int (5 : Int32)), (.int p2), (.int p3), (.int p4)]) (rest := [(.int (5 : Int32)), (.ref a44)]) (lenOf pd__Ljava_lang_String_IIIII_C rfl) rfl rfl (Nat.le_of_eq rfl) (hb hby at_178) (by decide) (by decide) all0
        refine Rn.pu (g' := (mkF m 181 #[iv p0, iv p1, iv p2, iv p3, iv p4, iv 1, rv l43, iv n, iv mk, rv a44, .unset, .unset] [(.int r55), (.int (5 : Int32)), (.ref a44)])) ?_ st55
        obtain ⟨T56, h56, H56, K56, A56, st56⟩ := H55.stC A54 (by decide) rfl (Or.inr (by omega)) (g := (mkF m 181 #[iv p0, iv p1, iv p2, iv p3, iv p4, iv 1, rv l43, iv n, iv mk, rv a44, .unset, .unset] [(.int r55), (.int (5 : Int32)), (.ref a44)])) rfl rfl (hb hby at_181)
        have zh56 := K56.1
        refine Rn.pu (g' := (mkF m 182 #[iv p0, iv p1, iv p2, iv p3, iv p4, iv 1, rv l43, iv n, iv mk, rv a44, .unset, .unset] [])) ?_ st56
        refine Rn.pu (T' := T56) (g' := (mkF m 184 #[iv p0, iv p1, iv p2, iv p3, iv p4, iv 1, rv l43, iv n, iv mk, rv a44, .unset, .unset] [(.ref a44)])) ?_ fun _ zk => XS.aload H56.here hx rfl (hb hby at_182) rfl rfl zk
        refine Rn.pu (T' := T56) (g' := (mkF m 186 #[iv p0, iv p1, iv p2, iv p3, iv p4, iv 1, rv l43, iv n, iv mk, rv a44, .unset, .unset] [(.int (6 : Int32)), (.ref a44)])) ?_ fun _ zk => XS.bipush H56.here hx rfl (hb hby at_184) zk
        refine Rn.pu (T' := T56) (g' := (mkF m 188 #[iv p0, iv p1, iv p2, iv p3, iv p4, iv 1, rv l43, iv n, iv mk, rv a44, .unset, .unset] [(.ref l43), (.int (6 : Int32)), (.ref a44)])) ?_ fun _ zk => XS.aload H56.here hx rfl (hb hby at_186) rfl rfl zk
        refine Rn.pu (T' := T56) (g' := (mkF m 190 #[iv p0, iv p1, iv p2, iv p3, iv p4, iv 1, rv l43, iv n, iv mk, rv a44, .unset, .unset] [(.int mk), (.ref l43), (.int (6 : Int32)), (.ref a44)])) ?_ fun _ zk => XS.iload H56.here hx rfl (hb hby at_188) rfl zk
        refine Rn.pu (T' := T56) (g' := (mkF m 192 #[iv p0, iv p1, iv p2, iv p3, iv p4, iv 1, rv l43, iv n, iv mk, rv a44, .unset, .unset] [(.int (6 : Int32)), (.int mk), (.ref l43), (.int (6 : Int32)), (.ref a44)])) ?_ fun _ zk => XS.bipush H56.here hx rfl (hb hby at_190) zk
        refine Rn.pu (T' := T56) (g' := (mkF m 193 #[iv p0, iv p1, iv p2, iv p3, iv p4, iv 1, rv l43, iv n, iv mk, rv a44, .unset, .unset] [(.int p2), (.int (6 : Int32)), (.int mk), (.ref l43), (.int (6 : Int32)), (.ref a44)])) ?_ fun _ zk => XS.iloadN H56.here hx rfl (hb hby at_192) rfl zk
        refine Rn.pu (T' := T56) (g' := (mkF m 194 #[iv p0, iv p1, iv p2, iv p3, iv p4, iv 1, rv l43, iv n, iv mk, rv a44, .unset, .unset] [(.int p3), (.int p2), (.int (6 : Int32)), (.int mk), (.ref l43), (.int (6 : Int32)), (.ref a44)])) ?_ fun _ zk => XS.iloadN H56.here hx rfl (hb hby at_193) rfl zk
        refine Rn.pu (T' := T56) (g' := (mkF m 196 #[iv p0, iv p1, iv p2, iv p3, iv p4, iv 1, rv l43, iv n, iv mk, rv a44, .unset, .unset] [(.int p4), (.int p3), (.int p2), (.int (6 : Int32)), (.int mk), (.ref l43), (.int (6 : Int32)), (.ref a44)])) ?_ fun _ zk => XS.iload H56.here hx rfl (hb hby at_194) rfl zk
        obtain ⟨_, T57, h57, H57, ⟨r57, rfl, rr57, rfl⟩, -, st57⟩ := H56.callS (wd hw 22 rfl) (wd hw 23 rfl) (wd hw 24 rfl) (wd hw 25 rfl) (by decide) (MetN.pay (W := 2) (c_ch l B0 l43 u43 mk p2 p3 p4 [(102 : Int32), (97 : Int32), (105 : Int32), (108 : Int32), (105 : Int32), (110 : Int32), (103 : Int32)] 6 h56 H56.old (((((((S43.keep K44 nin0 nin0).keep K46 (ninS (adne (by omega)) nin0) (ninS (adne (by omega)) nin0)).keep K48 (ninS (adne (by omega)) nin0) (ninS (adne (by omega)) nin0)).keep K50 (ninS (adne (by omega)) nin0) (ninS (adne (by omega)) nin0)).keep K52 (ninS (adne (by omega)) nin0) (ninS (adne (by omega)) nin0)).keep K54 (ninS (adne (by omega)) nin0) (ninS (adne (by omega)) nin0)).keep K56 (ninS (adne (by omega)) nin0) (ninS (adne (by omega)) nin0)) (by decide) (by decide)) (wd hw 25 rfl) (wd hw 24 rfl) (by decide) (by decide)) (g := (mkF m 196 #[iv p0, iv p1, iv p2, iv p3, iv p4, iv 1, rv l43, iv n, iv mk, rv a44, .unset, .unset] [(.int p4), (.int p3), (.int p2), (.int (6 : Int32)), (.int mk), (.ref l43), (.int (6 : Int32)), (.ref a44)])) rfl (by rw [hml]; rfl) (argsL := [(.ref l43), (.int mk), (.int (6 : Int32)), (.int p2), (.int p3), (.int p4)]) (rest := [(.int (6 : Int32)), (.ref a44)]) (lenOf pd__Ljava_lang_String_IIIII_C rfl) rfl rfl (Nat.le_of_eq rfl) (hb hby at_196) (by decide) (by decide) all0
        refine Rn.pu (g' := (mkF m 199 #[iv p0, iv p1, iv p2, iv p3, iv p4, iv 1, rv l43, iv n, iv mk, rv a44, .unset, .unset] [(.int r57), (.int (6 : Int32)), (.ref a44)])) ?_ st57
        obtain ⟨T58, h58, H58, K58, A58, st58⟩ := H57.stC A56 (by decide) rfl (Or.inr (by omega)) (g := (mkF m 199 #[iv p0, iv p1, iv p2, iv p3, iv p4, iv 1, rv l43, iv n, iv mk, rv a44, .unset, .unset] [(.int r57), (.int (6 : Int32)), (.ref a44)])) rfl rfl (hb hby at_199)
        have zh58 := K58.1
        refine Rn.pu (g' := (mkF m 200 #[iv p0, iv p1, iv p2, iv p3, iv p4, iv 1, rv l43, iv n, iv mk, rv a44, .unset, .unset] [])) ?_ st58
        refine Rn.pu (T' := T58) (g' := (mkF m 202 #[iv p0, iv p1, iv p2, iv p3, iv p4, iv 1, rv l43, iv n, iv mk, rv a44, .unset, .unset] [(.ref a44)])) ?_ fun _ zk => XS.aload H58.here hx rfl (hb hby at_200) rfl rfl zk
        refine Rn.pu (T' := T58) (g' := (mkF m 204 #[iv p0, iv p1, iv p2, iv p3, iv p4, iv 1, rv l43, iv n, iv mk, rv a44, .unset, .unset] [(.int (7 : Int32)), (.ref a44)])) ?_ fun _ zk => XS.bipush H58.here hx rfl (hb hby at_202) zk
        refine Rn.pu (T' := T58) (g' := (mkF m 206 #[iv p0, iv p1, iv p2, iv p3, iv p4, iv 1, rv l43, iv n, iv mk, rv a44, .unset, .unset] [(.ref l43), (.int (7 : Int32)), (.ref a44)])) ?_ fun _ zk => XS.aload H58.here hx rfl (hb hby at_204) rfl rfl zk
        refine Rn.pu (T' := T58) (g' := (mkF m 208 #[iv p0, iv p1, iv p2, iv p3, iv p4, iv 1, rv l43, iv n, iv mk, rv a44, .unset, .unset] [(.int mk), (.ref l43), (.int (7 : Int32)), (.ref a44)])) ?_ fun _ zk => XS.iload H58.here hx rfl (hb hby at_206) rfl zk
        refine Rn.pu (T' := T58) (g' := (mkF m 210 #[iv p0, iv p1, iv p2, iv p3, iv p4, iv 1, rv l43, iv n, iv mk, rv a44, .unset, .unset] [(.int (7 : Int32)), (.int mk), (.ref l43), (.int (7 : Int32)), (.ref a44)])) ?_ fun _ zk => XS.bipush H58.here hx rfl (hb hby at_208) zk
        refine Rn.pu (T' := T58) (g' := (mkF m 211 #[iv p0, iv p1, iv p2, iv p3, iv p4, iv 1, rv l43, iv n, iv mk, rv a44, .unset, .unset] [(.int p2), (.int (7 : Int32)), (.int mk), (.ref l43), (.int (7 : Int32)), (.ref a44)])) ?_ fun _ zk => XS.iloadN H58.here hx rfl (hb hby at_210) rfl zk
        refine Rn.pu (T' := T58) (g' := (mkF m 212 #[iv p0, iv p1, iv p2, iv p3, iv p4, iv 1, rv l43, iv n, iv mk, rv a44, .unset, .unset] [(.int p3), (.int p2), (.int (7 : Int32)), (.int mk), (.ref l43), (.int (7 : Int32)), (.ref a44)])) ?_ fun _ zk => XS.iloadN H58.here hx rfl (hb hby at_211) rfl zk
        refine Rn.pu (T' := T58) (g' := (mkF m 214 #[iv p0, iv p1, iv p2, iv p3, iv p4, iv 1, rv l43, iv n, iv mk, rv a44, .unset, .unset] [(.int p4), (.int p3), (.int p2), (.int (7 : Int32)), (.int mk), (.ref l43), (.int (7 : Int32)), (.ref a44)])) ?_ fun _ zk => XS.iload H58.here hx rfl (hb hby at_212) rfl zk
        obtain ⟨_, T59, h59, H59, ⟨r59, rfl, rr59, rfl⟩, -, st59⟩ := H58.callS (wd hw 22 rfl) (wd hw 23 rfl) (wd hw 24 rfl) (wd hw 25 rfl) (by decide) (MetN.pay (W := 2) (c_ch l B0 l43 u43 mk p2 p3 p4 [(102 : Int32), (97 : Int32), (105 : Int32), (108 : Int32), (105 : Int32), (110 : Int32), (103 : Int32)] 7 h58 H58.old ((((((((S43.keep K44 nin0 nin0).keep K46 (ninS (adne (by omega)) nin0) (ninS (adne (by omega)) nin0)).keep K48 (ninS (adne (by omega)) nin0) (ninS (adne (by omega)) nin0)).keep K50 (ninS (adne (by omega)) nin0) (ninS (adne (by omega)) nin0)).keep K52 (ninS (adne (by omega)) nin0) (ninS (adne (by omega)) nin0)).keep K54 (ninS (adne (by omega)) nin0) (ninS (adne (by omega)) nin0)).keep K56 (ninS (adne (by omega)) nin0) (ninS (adne (by omega)) nin0)).keep K58 (ninS (adne (by omega)) nin0) (ninS (adne (by omega)) nin0)) (by decide) (by decide)) (wd hw 25 rfl) (wd hw 24 rfl) (by decide) (by decide)) (g := (mkF m 214 #[iv p0, iv p1, iv p2, iv p3, iv p4, iv 1, rv l43, iv n, iv mk, rv a44, .unset, .unset] [(.int p4), (.int p3), (.int p2), (.int (7 : Int32)), (.int mk), (.ref l43), (.int (7 : Int32)), (.ref a44)])) rfl (by rw [hml]; rfl) (argsL := [(.ref l43), (.int mk), (.int (7 : Int32)), (.int p2), (.int p3), (.int p4)]) (rest := [(.int (7 : Int32)), (.ref a44)]) (lenOf pd__Ljava_lang_String_IIIII_C rfl) rfl rfl (Nat.le_of_eq rfl) (hb hby at_214) (by decide) (by decide) all0
        refine Rn.pu (g' := (mkF m 217 #[iv p0, iv p1, iv p2, iv p3, iv p4, iv 1, rv l43, iv n, iv mk, rv a44, .unset, .unset] [(.int r59), (.int (7 : Int32)), (.ref a44)])) ?_ st59
        obtain ⟨T60, h60, H60, K60, A60, st60⟩ := H59.stC A58 (by decide) rfl (Or.inr (by omega)) (g := (mkF m 217 #[iv p0, iv p1, iv p2, iv p3, iv p4, iv 1, rv l43, iv n, iv mk, rv a44, .unset, .unset] [(.int r59), (.int (7 : Int32)), (.ref a44)])) rfl rfl (hb hby at_217)
        have zh60 := K60.1
        refine Rn.pu (g' := (mkF m 218 #[iv p0, iv p1, iv p2, iv p3, iv p4, iv 1, rv l43, iv n, iv mk, rv a44, .unset, .unset] [])) ?_ st60
        refine Rn.pu (T' := T60) (g' := (mkF m 220 #[iv p0, iv p1, iv p2, iv p3, iv p4, iv 1, rv l43, iv n, iv mk, rv a44, .unset, .unset] [(.ref a44)])) ?_ fun _ zk => XS.aload H60.here hx rfl (hb hby at_218) rfl rfl zk
        refine Rn.pu (T' := T60) (g' := (mkF m 222 #[iv p0, iv p1, iv p2, iv p3, iv p4, iv 1, rv l43, iv n, iv mk, rv a44, .unset, .unset] [(.int (8 : Int32)), (.ref a44)])) ?_ fun _ zk => XS.bipush H60.here hx rfl (hb hby at_220) zk
        refine Rn.pu (T' := T60) (g' := (mkF m 224 #[iv p0, iv p1, iv p2, iv p3, iv p4, iv 1, rv l43, iv n, iv mk, rv a44, .unset, .unset] [(.ref l43), (.int (8 : Int32)), (.ref a44)])) ?_ fun _ zk => XS.aload H60.here hx rfl (hb hby at_222) rfl rfl zk
        refine Rn.pu (T' := T60) (g' := (mkF m 226 #[iv p0, iv p1, iv p2, iv p3, iv p4, iv 1, rv l43, iv n, iv mk, rv a44, .unset, .unset] [(.int mk), (.ref l43), (.int (8 : Int32)), (.ref a44)])) ?_ fun _ zk => XS.iload H60.here hx rfl (hb hby at_224) rfl zk
        refine Rn.pu (T' := T60) (g' := (mkF m 228 #[iv p0, iv p1, iv p2, iv p3, iv p4, iv 1, rv l43, iv n, iv mk, rv a44, .unset, .unset] [(.int (8 : Int32)), (.int mk), (.ref l43), (.int (8 : Int32)), (.ref a44)])) ?_ fun _ zk => XS.bipush H60.here hx rfl (hb hby at_226) zk
        refine Rn.pu (T' := T60) (g' := (mkF m 229 #[iv p0, iv p1, iv p2, iv p3, iv p4, iv 1, rv l43, iv n, iv mk, rv a44, .unset, .unset] [(.int p2), (.int (8 : Int32)), (.int mk), (.ref l43), (.int (8 : Int32)), (.ref a44)])) ?_ fun _ zk => XS.iloadN H60.here hx rfl (hb hby at_228) rfl zk
        refine Rn.pu (T' := T60) (g' := (mkF m 230 #[iv p0, iv p1, iv p2, iv p3, iv p4, iv 1, rv l43, iv n, iv mk, rv a44, .unset, .unset] [(.int p3), (.int p2), (.int (8 : Int32)), (.int mk), (.ref l43), (.int (8 : Int32)), (.ref a44)])) ?_ fun _ zk => XS.iloadN H60.here hx rfl (hb hby at_229) rfl zk
        refine Rn.pu (T' := T60) (g' := (mkF m 232 #[iv p0, iv p1, iv p2, iv p3, iv p4, iv 1, rv l43, iv n, iv mk, rv a44, .unset, .unset] [(.int p4), (.int p3), (.int p2), (.int (8 : Int32)), (.int mk), (.ref l43), (.int (8 : Int32)), (.ref a44)])) ?_ fun _ zk => XS.iload H60.here hx rfl (hb hby at_230) rfl zk
        obtain ⟨_, T61, h61, H61, ⟨r61, rfl, rr61, rfl⟩, -, st61⟩ := H60.callS (wd hw 22 rfl) (wd hw 23 rfl) (wd hw 24 rfl) (wd hw 25 rfl) (by decide) (MetN.pay (W := 2) (c_ch l B0 l43 u43 mk p2 p3 p4 [(102 : Int32), (97 : Int32), (105 : Int32), (108 : Int32), (105 : Int32), (110 : Int32), (103 : Int32)] 8 h60 H60.old (((((((((S43.keep K44 nin0 nin0).keep K46 (ninS (adne (by omega)) nin0) (ninS (adne (by omega)) nin0)).keep K48 (ninS (adne (by omega)) nin0) (ninS (adne (by omega)) nin0)).keep K50 (ninS (adne (by omega)) nin0) (ninS (adne (by omega)) nin0)).keep K52 (ninS (adne (by omega)) nin0) (ninS (adne (by omega)) nin0)).keep K54 (ninS (adne (by omega)) nin0) (ninS (adne (by omega)) nin0)).keep K56 (ninS (adne (by omega)) nin0) (ninS (adne (by omega)) nin0)).keep K58 (ninS (adne (by omega)) nin0) (ninS (adne (by omega)) nin0)).keep K60 (ninS (adne (by omega)) nin0) (ninS (adne (by omega)) nin0)) (by decide) (by decide)) (wd hw 25 rfl) (wd hw 24 rfl) (by decide) (by decide)) (g := (mkF m 232 #[iv p0, iv p1, iv p2, iv p3, iv p4, iv 1, rv l43, iv n, iv mk, rv a44, .unset, .unset] [(.int p4), (.int p3), (.int p2), (.int (8 : Int32)), (.int mk), (.ref l43), (.int (8 : Int32)), (.ref a44)])) rfl (by rw [hml]; rfl) (argsL := [(.ref l43), (.int mk), (.int (8 : Int32)), (.int p2), (.int p3), (.int p4)]) (rest := [(.int (8 : Int32)), (.ref a44)]) (lenOf pd__Ljava_lang_String_IIIII_C rfl) rfl rfl (Nat.le_of_eq rfl) (hb hby at_232) (by decide) (by decide) all0
        refine Rn.pu (g' := (mkF m 235 #[iv p0, iv p1, iv p2, iv p3, iv p4, iv 1, rv l43, iv n, iv mk, rv a44, .unset, .unset] [(.int r61), (.int (8 : Int32)), (.ref a44)])) ?_ st61
        obtain ⟨T62, h62, H62, K62, A62, st62⟩ := H61.stC A60 (by decide) rfl (Or.inr (by omega)) (g := (mkF m 235 #[iv p0, iv p1, iv p2, iv p3, iv p4, iv 1, rv l43, iv n, iv mk, rv a44, .unset, .unset] [(.int r61), (.int (8 : Int32)), (.ref a44)])) rfl rfl (hb hby at_235)
        have zh62 := K62.1
        refine Rn.pu (g' := (mkF m 236 #[iv p0, iv p1, iv p2, iv p3, iv p4, iv 1, rv l43, iv n, iv mk, rv a44, .unset, .unset] [])) ?_ st62
        refine Rn.pu (T' := T62) (g' := (mkF m 238 #[iv p0, iv p1, iv p2, iv p3, iv p4, iv 1, rv l43, iv n, iv mk, rv a44, .unset, .unset] [(.ref a44)])) ?_ fun _ zk => XS.aload H62.here hx rfl (hb hby at_236) rfl rfl zk
        refine Rn.pu (T' := T62) (g' := (mkF m 240 #[iv p0, iv p1, iv p2, iv p3, iv p4, iv 1, rv l43, iv n, iv mk, rv a44, .unset, .unset] [(.int n), (.ref a44)])) ?_ fun _ zk => XS.iload H62.here hx rfl (hb hby at_238) rfl zk
        obtain ⟨_, T63, h63, H63, ⟨V63, m63, t63, c63, rfl, S63, ga63, la63, lt63⟩, K63, st63⟩ := H62.callSW (wd hw 48 rfl) (wd hw 49 rfl) (wd hw 24 rfl) (wd hw 50 rfl) (by decide) (MetW.pay (W := 0) (c_cut l B0 ["failing"] (fun vm => Lv Z "com/example/calm_inbox/calminbox/webhook/WebhookStatusFromWireNamePinLaw" 9 l43 vm ∧ Z.Warmed39 vm) (fun U vm1 hW q => ⟨q.1.stab hW, w39_stab U vm1 hW q.2⟩) a44 k44 (.int 0) n (nar .char r45) (nar .char r47) (nar .char r49) (nar .char r51) (nar .char r53) (nar .char r55) (nar .char r57) (nar .char r59) (nar .char r61) h62 H62.old yJ63 A62 (lat_nar rr45) (lat_nar rr47) (lat_nar rr49) (lat_nar rr51) (lat_nar rr53) (lat_nar rr55) (lat_nar rr57) (lat_nar rr59) (lat_nar rr61)) (wd hw 50 rfl) (wd hw 24 rfl) (by decide) (by decide)) (g := (mkF m 240 #[iv p0, iv p1, iv p2, iv p3, iv p4, iv 1, rv l43, iv n, iv mk, rv a44, .unset, .unset] [(.int n), (.ref a44)])) rfl (by rw [hml]; rfl) (argsL := [(.ref a44), (.int n)]) (rest := []) (lenOf pd__ACI_Ljava_lang_String_ rfl) rfl rfl (Nat.le_of_eq rfl) (hb hby at_240) (by decide) (by decide) all0 (fun U vm1 hV hW => ⟨⟨hV.2.1.stab hW.wide, w39_stab U vm1 hW.wide hV.2.2⟩, ib_sub (ib_stab hW hV.1) (by simp), CH.start hh7 (wd hw 108 rfl) (hws_sa hw) hcw (w39_stab U vm1 hW.wide hV.2.2) (ib_stab hW hV.1) (by decide) H62.old⟩)
        have zh63 := K63.1
        have H63 := H63.reV (V' := (fun vm => ((fun vm => Lv Z "com/example/calm_inbox/calminbox/webhook/WebhookStatusFromWireNamePinLaw" 9 l43 vm ∧ Z.Warmed39 vm)) vm ∧ IB Z vm ("" :: ["failing"]))) (fun v hv => by rw [hv]; exact V63)
        refine Rn.pu (g' := (mkF m 243 #[iv p0, iv p1, iv p2, iv p3, iv p4, iv 1, rv l43, iv n, iv mk, rv a44, .unset, .unset] [(.ref m63)])) ?_ st63
        refine Rn.pu (T' := T63) (g' := (mkF m 245 #[iv p0, iv p1, iv p2, iv p3, iv p4, iv 1, rv l43, iv n, iv mk, rv a44, rv m63, .unset] [])) ?_ fun _ zk => XS.astore H63.here hx rfl (hb hby at_243) rfl rfl (l' := #[iv p0, iv p1, iv p2, iv p3, iv p4, iv 1, rv l43, iv n, iv mk, rv a44, rv m63, .unset]) rfl zk
        refine Rn.pu (T' := T63) (g' := (mkF m 247 #[iv p0, iv p1, iv p2, iv p3, iv p4, iv 1, rv l43, iv n, iv mk, rv a44, rv m63, .unset] [(.ref m63)])) ?_ fun _ zk => XS.aload H63.here hx rfl (hb hby at_245) rfl rfl zk
        obtain ⟨l64, u64, T64, h64, H64, K64, S64, st64⟩ := H63.ldcV (Ts := "" :: ["failing"]) (P := (fun vm => Lv Z "com/example/calm_inbox/calminbox/webhook/WebhookStatusFromWireNamePinLaw" 9 l43 vm ∧ Z.Warmed39 vm)) (fun _ q => ⟨q.2, q.1⟩) (fun U vm1 hW q => ⟨q.1.stab hW, w39_stab U vm1 hW q.2⟩) (wd hw 0 rfl) (hws_sa hw) (by simp) hhA hcw (cs := [(97 : Int32), (99 : Int32), (116 : Int32), (105 : Int32), (118 : Int32), (101 : Int32)]) (by decide) (by decide) (by decide) (by decide) (g := (mkF m 247 #[iv p0, iv p1, iv p2, iv p3, iv p4, iv 1, rv l43, iv n, iv mk, rv a44, rv m63, .unset] [(.ref m63)])) rfl (hb hby at_247) (n := 24) (by decide) (by decide) (by decide) (by decide)
        have zh64 := K64.1
        have H64 := H64.reV (V' := (fun vm => ((fun vm => Lv Z "com/example/calm_inbox/calminbox/webhook/WebhookStatusFromWireNamePinLaw" 7 l64 vm ∧ Lv Z "com/example/calm_inbox/calminbox/webhook/WebhookStatusFromWireNamePinLaw" 9 l43 vm ∧ Z.Warmed39 vm)) vm ∧ IB Z vm ("active" :: "" :: ["failing"]))) (fun _ q => ⟨⟨q.2.1, q.2.2⟩, q.1⟩)
        have l64a := natlt (S64).lt
        have l64t := natlt (S64).ltt
        refine Rn.pu (g' := (mkF m 249 #[iv p0, iv p1, iv p2, iv p3, iv p4, iv 1, rv l43, iv n, iv mk, rv a44, rv m63, .unset] [(.ref l64), (.ref m63)])) ?_ st64
        by_cases q249_65 : c63 = [(97 : Int32), (99 : Int32), (116 : Int32), (105 : Int32), (118 : Int32), (101 : Int32)]
        ·
          obtain ⟨_, T66, h66, H66, ⟨rfl, rfl⟩, -, st66⟩ := H64.callV (C := "java/lang/String") (wd hw 72 rfl) (wd hw 73 rfl) (wd hw 75 rfl) (wd hw 74 rfl) (by decide) (payEqY (W := 0) q249_65 (hws_eq hw) (wd hw 2 rfl) (S63.keep K64 nin0 nin0) S64 (SC0.ext H64.old) hz0 (by decide) (by decide)) (S63.keep K64 nin0 nin0).exa (g := (mkF m 249 #[iv p0, iv p1, iv p2, iv p3, iv p4, iv 1, rv l43, iv n, iv mk, rv a44, rv m63, .unset] [(.ref l64), (.ref m63)])) rfl (by rw [hml]; rfl) (argsL := [(.ref l64)]) (rest := []) (lenOf pd__Ljava_lang_Object__Z rfl) rfl rfl (Nat.le_of_eq rfl) (hb hby at_249) (by decide) (by decide) all0
          refine Rn.pu (g' := (mkF m 252 #[iv p0, iv p1, iv p2, iv p3, iv p4, iv 1, rv l43, iv n, iv mk, rv a44, rv m63, .unset] [(.int (1 : Int32))])) ?_ st66
          refine Rn.pu (T' := T66) (g' := (mkF m 255 #[iv p0, iv p1, iv p2, iv p3, iv p4, iv 1, rv l43, iv n, iv mk, rv a44, rv m63, .unset] [])) ?_ fun _ zk => XS.ifNo H66.here hx rfl (hb hby at_252) rfl (z_eq_f (by decide)) zk
          obtain ⟨T67, H67, st67⟩ := H66.getS (host := "") (Or.inl (wd hw 81 rfl)) Via.refl (SaA.ext H66.old) (g := (mkF m 255 #[iv p0, iv p1, iv p2, iv p3, iv p4, iv 1, rv l43, iv n, iv mk, rv a44, rv m63, .unset] [])) rfl (hb hby at_255)
          refine Rn.pu (g' := (mkF m 258 #[iv p0, iv p1, iv p2, iv p3, iv p4, iv 1, rv l43, iv n, iv mk, rv a44, rv m63, .unset] [(.ref aA)])) ?_ st67
          refine Rn.pu (T' := T67) (g' := (mkF m 294 #[iv p0, iv p1, iv p2, iv p3, iv p4, iv 1, rv l43, iv n, iv mk, rv a44, rv m63, .unset] [(.ref aA)])) ?_ fun _ zk => XS.goto H67.here hx rfl (pc0 := 258) (pc' := 294) rfl (hb hby at_258) (by decide) (by decide) zk
          refine Rn.pu (T' := T67) (g' := (mkF m 296 #[iv p0, iv p1, iv p2, iv p3, iv p4, iv 1, rv l43, iv n, iv mk, rv a44, rv m63, rv aA] [])) ?_ fun _ zk => XS.astore H67.here hx rfl (hb hby at_294) rfl rfl (l' := #[iv p0, iv p1, iv p2, iv p3, iv p4, iv 1, rv l43, iv n, iv mk, rv a44, rv m63, rv aA]) rfl zk
          refine Rn.pu (T' := T67) (g' := (mkF m 298 #[iv p0, iv p1, iv p2, iv p3, iv p4, iv 1, rv l43, iv n, iv mk, rv a44, rv m63, rv aA] [(.ref m63)])) ?_ fun _ zk => XS.aload H67.here hx rfl (hb hby at_296) rfl rfl zk
          obtain ⟨_, T68, h68, H68, rfl, K68, st68⟩ := H67.callS (wd hw 84 rfl) (wd hw 85 rfl) (wd hw 82 rfl) (wd hw 86 rfl) (by decide) (MetN.pay (W := 0) (c_fw0 l B0 m63 t63 (c63) h64 H67.old (S63.keep K64 nin0 nin0) q249_65.symm) (wd hw 86 rfl) (wd hw 82 rfl) (by decide) (by decide)) (g := (mkF m 298 #[iv p0, iv p1, iv p2, iv p3, iv p4, iv 1, rv l43, iv n, iv mk, rv a44, rv m63, rv aA] [(.ref m63)])) rfl (by rw [hml]; rfl) (argsL := [(.ref m63)]) (rest := []) (lenOf pd__Ljava_lang_String__Lcom_example_calm_inbox_calminbox_webhook_WebhookStatus_ rfl) rfl rfl (Nat.le_of_eq rfl) (hb hby at_298) (by decide) (by decide) all0
          have zh68 := K68.1
          refine Rn.pu (g' := (mkF m 301 #[iv p0, iv p1, iv p2, iv p3, iv p4, iv 1, rv l43, iv n, iv mk, rv a44, rv m63, rv aA] [(.ref aA)])) ?_ st68
          refine Rn.pu (T' := T68) (g' := (mkF m 303 #[iv p0, iv p1, iv p2, iv p3, iv p4, iv 1, rv l43, iv n, iv mk, rv a44, rv m63, rv aA] [(.ref aA), (.ref aA)])) ?_ fun _ zk => XS.aload H68.here hx rfl (hb hby at_301) rfl rfl zk
          refine Rn.pu (T' := T68) (g' := (mkF m 306 #[iv p0, iv p1, iv p2, iv p3, iv p4, iv 1, rv l43, iv n, iv mk, rv a44, rv m63, rv aA] [])) ?_ fun _ zk => XT.acmpNo H68.here hx rfl (hb hby at_303) rfl rfl rfl (ac_ne_f rfl) zk
          refine Rn.pu (T' := T68) (g' := (mkF m 307 #[iv p0, iv p1, iv p2, iv p3, iv p4, iv 1, rv l43, iv n, iv mk, rv a44, rv m63, rv aA] [(.int (1 : Int32))])) ?_ fun _ zk => XS.iconst H68.here hx rfl (hb hby at_306) zk
          refine Rn.pu (T' := T68) (g' := (mkF m 311 #[iv p0, iv p1, iv p2, iv p3, iv p4, iv 1, rv l43, iv n, iv mk, rv a44, rv m63, rv aA] [(.int (1 : Int32))])) ?_ fun _ zk => XS.goto H68.here hx rfl (pc0 := 307) (pc' := 311) rfl (hb hby at_307) (by decide) (by decide) zk
          exact H68.retS ends_W hlk (t := .boolean) hret (by simp) (hb hby at_311) (by decide) (by decide) (fun _ q => nomatch q) rfl
        ·
          obtain ⟨_, T69, h69, H69, ⟨rfl, rfl⟩, -, st69⟩ := H64.callV (C := "java/lang/String") (wd hw 72 rfl) (wd hw 73 rfl) (wd hw 75 rfl) (wd hw 74 rfl) (by decide) (payEqN (W := 0) q249_65 (hws_eq hw) (wd hw 2 rfl) (S63.keep K64 nin0 nin0) S64 (SC0.ext H64.old) hz0 (by decide) (by decide)) (S63.keep K64 nin0 nin0).exa (g := (mkF m 249 #[iv p0, iv p1, iv p2, iv p3, iv p4, iv 1, rv l43, iv n, iv mk, rv a44, rv m63, .unset] [(.ref l64), (.ref m63)])) rfl (by rw [hml]; rfl) (argsL := [(.ref l64)]) (rest := []) (lenOf pd__Ljava_lang_Object__Z rfl) rfl rfl (Nat.le_of_eq rfl) (hb hby at_249) (by decide) (by decide) all0
          refine Rn.pu (g' := (mkF m 252 #[iv p0, iv p1, iv p2, iv p3, iv p4, iv 1, rv l43, iv n, iv mk, rv a44, rv m63, .unset] [(.int (0 : Int32))])) ?_ st69
          refine Rn.pu (T' := T69) (g' := (mkF m 261 #[iv p0, iv p1, iv p2, iv p3, iv p4, iv 1, rv l43, iv n, iv mk, rv a44, rv m63, .unset] [])) ?_ fun _ zk => XS.ifYes H69.here hx rfl (pc0 := 252) (pc' := 261) rfl (hb hby at_252) rfl (z_eq_t rfl) (by decide) (by decide) zk
          refine Rn.pu (T' := T69) (g' := (mkF m 263 #[iv p0, iv p1, iv p2, iv p3, iv p4, iv 1, rv l43, iv n, iv mk, rv a44, rv m63, .unset] [(.ref m63)])) ?_ fun _ zk => XS.aload H69.here hx rfl (hb hby at_261) rfl rfl zk
          refine Rn.pu (g' := (mkF m 265 #[iv p0, iv p1, iv p2, iv p3, iv p4, iv 1, rv l43, iv n, iv mk, rv a44, rv m63, .unset] [(.ref l43), (.ref m63)])) ?_ (H69.ldcA (a := l43) (fun _ q => q.1.2.1) (wd hw 109 rfl) (g := (mkF m 263 #[iv p0, iv p1, iv p2, iv p3, iv p4, iv 1, rv l43, iv n, iv mk, rv a44, rv m63, .unset] [(.ref m63)])) rfl (hb hby at_263))
          by_cases q265_70 : c63 = [(102 : Int32), (97 : Int32), (105 : Int32), (108 : Int32), (105 : Int32), (110 : Int32), (103 : Int32)]
          ·
            obtain ⟨_, T71, h71, H71, ⟨rfl, rfl⟩, -, st71⟩ := H69.callV (C := "java/lang/String") (wd hw 72 rfl) (wd hw 73 rfl) (wd hw 75 rfl) (wd hw 74 rfl) (by decide) (payEqY (W := 0) q265_70 (hws_eq hw) (wd hw 2 rfl) (S63.keep K64 nin0 nin0) ((((((((((((S43.keep K44 nin0 nin0).keep K46 (ninS (adne (by omega)) nin0) (ninS (adne (by omega)) nin0)).keep K48 (ninS (adne (by omega)) nin0) (ninS (adne (by omega)) nin0)).keep K50 (ninS (adne (by omega)) nin0) (ninS (adne (by omega)) nin0)).keep K52 (ninS (adne (by omega)) nin0) (ninS (adne (by omega)) nin0)).keep K54 (ninS (adne (by omega)) nin0) (ninS (adne (by omega)) nin0)).keep K56 (ninS (adne (by omega)) nin0) (ninS (adne (by omega)) nin0)).keep K58 (ninS (adne (by omega)) nin0) (ninS (adne (by omega)) nin0)).keep K60 (ninS (adne (by omega)) nin0) (ninS (adne (by omega)) nin0)).keep K62 (ninS (adne (by omega)) nin0) (ninS (adne (by omega)) nin0)).keep K63 nin0 nin0).keep K64 nin0 nin0) (SC0.ext H69.old) hz0 (by decide) (by decide)) (S63.keep K64 nin0 nin0).exa (g := (mkF m 265 #[iv p0, iv p1, iv p2, iv p3, iv p4, iv 1, rv l43, iv n, iv mk, rv a44, rv m63, .unset] [(.ref l43), (.ref m63)])) rfl (by rw [hml]; rfl) (argsL := [(.ref l43)]) (rest := []) (lenOf pd__Ljava_lang_Object__Z rfl) rfl rfl (Nat.le_of_eq rfl) (hb hby at_265) (by decide) (by decide) all0
            refine Rn.pu (g' := (mkF m 268 #[iv p0, iv p1, iv p2, iv p3, iv p4, iv 1, rv l43, iv n, iv mk, rv a44, rv m63, .unset] [(.int (1 : Int32))])) ?_ st71
            refine Rn.pu (T' := T71) (g' := (mkF m 271 #[iv p0, iv p1, iv p2, iv p3, iv p4, iv 1, rv l43, iv n, iv mk, rv a44, rv m63, .unset] [])) ?_ fun _ zk => XS.ifNo H71.here hx rfl (hb hby at_268) rfl (z_eq_f (by decide)) zk
            obtain ⟨T72, H72, st72⟩ := H71.getS (host := "") (Or.inl (wd hw 112 rfl)) Via.refl (SaF.ext H71.old) (g := (mkF m 271 #[iv p0, iv p1, iv p2, iv p3, iv p4, iv 1, rv l43, iv n, iv mk, rv a44, rv m63, .unset] [])) rfl (hb hby at_271)
            refine Rn.pu (g' := (mkF m 274 #[iv p0, iv p1, iv p2, iv p3, iv p4, iv 1, rv l43, iv n, iv mk, rv a44, rv m63, .unset] [(.ref aF)])) ?_ st72
            refine Rn.pu (T' := T72) (g' := (mkF m 294 #[iv p0, iv p1, iv p2, iv p3, iv p4, iv 1, rv l43, iv n, iv mk, rv a44, rv m63, .unset] [(.ref aF)])) ?_ fun _ zk => XS.goto H72.here hx rfl (pc0 := 274) (pc' := 294) rfl (hb hby at_274) (by decide) (by decide) zk
            refine Rn.pu (T' := T72) (g' := (mkF m 296 #[iv p0, iv p1, iv p2, iv p3, iv p4, iv 1, rv l43, iv n, iv mk, rv a44, rv m63, rv aF] [])) ?_ fun _ zk => XS.astore H72.here hx rfl (hb hby at_294) rfl rfl (l' := #[iv p0, iv p1, iv p2, iv p3, iv p4, iv 1, rv l43, iv n, iv mk, rv a44, rv m63, rv aF]) rfl zk
            refine Rn.pu (T' := T72) (g' := (mkF m 298 #[iv p0, iv p1, iv p2, iv p3, iv p4, iv 1, rv l43, iv n, iv mk, rv a44, rv m63, rv aF] [(.ref m63)])) ?_ fun _ zk => XS.aload H72.here hx rfl (hb hby at_296) rfl rfl zk
            obtain ⟨_, T73, h73, H73, rfl, K73, st73⟩ := H72.callS (wd hw 84 rfl) (wd hw 85 rfl) (wd hw 82 rfl) (wd hw 86 rfl) (by decide) (MetN.pay (W := 0) (c_fw1 l B0 m63 t63 (c63) h64 H72.old (S63.keep K64 nin0 nin0) (fun r => q249_65 r.symm) q265_70.symm) (wd hw 86 rfl) (wd hw 82 rfl) (by decide) (by decide)) (g := (mkF m 298 #[iv p0, iv p1, iv p2, iv p3, iv p4, iv 1, rv l43, iv n, iv mk, rv a44, rv m63, rv aF] [(.ref m63)])) rfl (by rw [hml]; rfl) (argsL := [(.ref m63)]) (rest := []) (lenOf pd__Ljava_lang_String__Lcom_example_calm_inbox_calminbox_webhook_WebhookStatus_ rfl) rfl rfl (Nat.le_of_eq rfl) (hb hby at_298) (by decide) (by decide) all0
            have zh73 := K73.1
            refine Rn.pu (g' := (mkF m 301 #[iv p0, iv p1, iv p2, iv p3, iv p4, iv 1, rv l43, iv n, iv mk, rv a44, rv m63, rv aF] [(.ref aF)])) ?_ st73
            refine Rn.pu (T' := T73) (g' := (mkF m 303 #[iv p0, iv p1, iv p2, iv p3, iv p4, iv 1, rv l43, iv n, iv mk, rv a44, rv m63, rv aF] [(.ref aF), (.ref aF)])) ?_ fun _ zk => XS.aload H73.here hx rfl (hb hby at_301) rfl rfl zk
            refine Rn.pu (T' := T73) (g' := (mkF m 306 #[iv p0, iv p1, iv p2, iv p3, iv p4, iv 1, rv l43, iv n, iv mk, rv a44, rv m63, rv aF] [])) ?_ fun _ zk => XT.acmpNo H73.here hx rfl (hb hby at_303) rfl rfl rfl (ac_ne_f rfl) zk
            refine Rn.pu (T' := T73) (g' := (mkF m 307 #[iv p0, iv p1, iv p2, iv p3, iv p4, iv 1, rv l43, iv n, iv mk, rv a44, rv m63, rv aF] [(.int (1 : Int32))])) ?_ fun _ zk => XS.iconst H73.here hx rfl (hb hby at_306) zk
            refine Rn.pu (T' := T73) (g' := (mkF m 311 #[iv p0, iv p1, iv p2, iv p3, iv p4, iv 1, rv l43, iv n, iv mk, rv a44, rv m63, rv aF] [(.int (1 : Int32))])) ?_ fun _ zk => XS.goto H73.here hx rfl (pc0 := 307) (pc' := 311) rfl (hb hby at_307) (by decide) (by decide) zk
            exact H73.retS ends_W hlk (t := .boolean) hret (by simp) (hb hby at_311) (by decide) (by decide) (fun _ q => nomatch q) rfl
          ·
            obtain ⟨_, T74, h74, H74, ⟨rfl, rfl⟩, -, st74⟩ := H69.callV (C := "java/lang/String") (wd hw 72 rfl) (wd hw 73 rfl) (wd hw 75 rfl) (wd hw 74 rfl) (by decide) (payEqN (W := 0) q265_70 (hws_eq hw) (wd hw 2 rfl) (S63.keep K64 nin0 nin0) ((((((((((((S43.keep K44 nin0 nin0).keep K46 (ninS (adne (by omega)) nin0) (ninS (adne (by omega)) nin0)).keep K48 (ninS (adne (by omega)) nin0) (ninS (adne (by omega)) nin0)).keep K50 (ninS (adne (by omega)) nin0) (ninS (adne (by omega)) nin0)).keep K52 (ninS (adne (by omega)) nin0) (ninS (adne (by omega)) nin0)).keep K54 (ninS (adne (by omega)) nin0) (ninS (adne (by omega)) nin0)).keep K56 (ninS (adne (by omega)) nin0) (ninS (adne (by omega)) nin0)).keep K58 (ninS (adne (by omega)) nin0) (ninS (adne (by omega)) nin0)).keep K60 (ninS (adne (by omega)) nin0) (ninS (adne (by omega)) nin0)).keep K62 (ninS (adne (by omega)) nin0) (ninS (adne (by omega)) nin0)).keep K63 nin0 nin0).keep K64 nin0 nin0) (SC0.ext H69.old) hz0 (by decide) (by decide)) (S63.keep K64 nin0 nin0).exa (g := (mkF m 265 #[iv p0, iv p1, iv p2, iv p3, iv p4, iv 1, rv l43, iv n, iv mk, rv a44, rv m63, .unset] [(.ref l43), (.ref m63)])) rfl (by rw [hml]; rfl) (argsL := [(.ref l43)]) (rest := []) (lenOf pd__Ljava_lang_Object__Z rfl) rfl rfl (Nat.le_of_eq rfl) (hb hby at_265) (by decide) (by decide) all0
            refine Rn.pu (g' := (mkF m 268 #[iv p0, iv p1, iv p2, iv p3, iv p4, iv 1, rv l43, iv n, iv mk, rv a44, rv m63, .unset] [(.int (0 : Int32))])) ?_ st74
            refine Rn.pu (T' := T74) (g' := (mkF m 277 #[iv p0, iv p1, iv p2, iv p3, iv p4, iv 1, rv l43, iv n, iv mk, rv a44, rv m63, .unset] [])) ?_ fun _ zk => XS.ifYes H74.here hx rfl (pc0 := 268) (pc' := 277) rfl (hb hby at_268) rfl (z_eq_t rfl) (by decide) (by decide) zk
            refine Rn.pu (T' := T74) (g' := (mkF m 279 #[iv p0, iv p1, iv p2, iv p3, iv p4, iv 1, rv l43, iv n, iv mk, rv a44, rv m63, .unset] [(.ref m63)])) ?_ fun _ zk => XS.aload H74.here hx rfl (hb hby at_277) rfl rfl zk
            obtain ⟨l75, u75, T75, h75, H75, K75, S75, st75⟩ := H74.ldcV (Ts := "active" :: "" :: ["failing"]) (P := (fun vm => Lv Z "com/example/calm_inbox/calminbox/webhook/WebhookStatusFromWireNamePinLaw" 7 l64 vm ∧ Lv Z "com/example/calm_inbox/calminbox/webhook/WebhookStatusFromWireNamePinLaw" 9 l43 vm ∧ Z.Warmed39 vm)) (fun _ q => ⟨q.2, q.1⟩) (fun U vm1 hW q => ⟨q.1.stab hW, q.2.1.stab hW, w39_stab U vm1 hW q.2.2⟩) (wd hw 110 rfl) (hws_sa hw) (by simp) hhD hcw (cs := [(100 : Int32), (105 : Int32), (115 : Int32), (97 : Int32), (98 : Int32), (108 : Int32), (101 : Int32), (100 : Int32)]) (by decide) (by decide) (by decide) (by decide) (g := (mkF m 279 #[iv p0, iv p1, iv p2, iv p3, iv p4, iv 1, rv l43, iv n, iv mk, rv a44, rv m63, .unset] [(.ref m63)])) rfl (hb hby at_279) (n := 32) (by decide) (by decide) (by decide) (by decide)
            have zh75 := K75.1
            have H75 := H75.reV (V' := (fun vm => ((fun vm => Lv Z "com/example/calm_inbox/calminbox/webhook/WebhookStatusFromWireNamePinLaw" 11 l75 vm ∧ Lv Z "com/example/calm_inbox/calminbox/webhook/WebhookStatusFromWireNamePinLaw" 7 l64 vm ∧ Lv Z "com/example/calm_inbox/calminbox/webhook/WebhookStatusFromWireNamePinLaw" 9 l43 vm ∧ Z.Warmed39 vm)) vm ∧ IB Z vm ("disabled" :: "active" :: "" :: ["failing"]))) (fun _ q => ⟨⟨q.2.1, q.2.2⟩, q.1⟩)
            have l75a := natlt (S75).lt
            have l75t := natlt (S75).ltt
            refine Rn.pu (g' := (mkF m 281 #[iv p0, iv p1, iv p2, iv p3, iv p4, iv 1, rv l43, iv n, iv mk, rv a44, rv m63, .unset] [(.ref l75), (.ref m63)])) ?_ st75
            by_cases q281_76 : c63 = [(100 : Int32), (105 : Int32), (115 : Int32), (97 : Int32), (98 : Int32), (108 : Int32), (101 : Int32), (100 : Int32)]
            ·
              obtain ⟨_, T77, h77, H77, ⟨rfl, rfl⟩, -, st77⟩ := H75.callV (C := "java/lang/String") (wd hw 72 rfl) (wd hw 73 rfl) (wd hw 75 rfl) (wd hw 74 rfl) (by decide) (payEqY (W := 0) q281_76 (hws_eq hw) (wd hw 2 rfl) ((S63.keep K64 nin0 nin0).keep K75 nin0 nin0) S75 (SC0.ext H75.old) hz0 (by decide) (by decide)) ((S63.keep K64 nin0 nin0).keep K75 nin0 nin0).exa (g := (mkF m 281 #[iv p0, iv p1, iv p2, iv p3, iv p4, iv 1, rv l43, iv n, iv mk, rv a44, rv m63, .unset] [(.ref l75), (.ref m63)])) rfl (by rw [hml]; rfl) (argsL := [(.ref l75)]) (rest := []) (lenOf pd__Ljava_lang_Object__Z rfl) rfl rfl (Nat.le_of_eq rfl) (hb hby at_281) (by decide) (by decide) all0
              refine Rn.pu (g' := (mkF m 284 #[iv p0, iv p1, iv p2, iv p3, iv p4, iv 1, rv l43, iv n, iv mk, rv a44, rv m63, .unset] [(.int (1 : Int32))])) ?_ st77
              refine Rn.pu (T' := T77) (g' := (mkF m 287 #[iv p0, iv p1, iv p2, iv p3, iv p4, iv 1, rv l43, iv n, iv mk, rv a44, rv m63, .unset] [])) ?_ fun _ zk => XS.ifNo H77.here hx rfl (hb hby at_284) rfl (z_eq_f (by decide)) zk
              obtain ⟨T78, H78, st78⟩ := H77.getS (host := "") (Or.inl (wd hw 111 rfl)) Via.refl (SaD.ext H77.old) (g := (mkF m 287 #[iv p0, iv p1, iv p2, iv p3, iv p4, iv 1, rv l43, iv n, iv mk, rv a44, rv m63, .unset] [])) rfl (hb hby at_287)
              refine Rn.pu (g' := (mkF m 290 #[iv p0, iv p1, iv p2, iv p3, iv p4, iv 1, rv l43, iv n, iv mk, rv a44, rv m63, .unset] [(.ref aD)])) ?_ st78
              refine Rn.pu (T' := T78) (g' := (mkF m 294 #[iv p0, iv p1, iv p2, iv p3, iv p4, iv 1, rv l43, iv n, iv mk, rv a44, rv m63, .unset] [(.ref aD)])) ?_ fun _ zk => XS.goto H78.here hx rfl (pc0 := 290) (pc' := 294) rfl (hb hby at_290) (by decide) (by decide) zk
              refine Rn.pu (T' := T78) (g' := (mkF m 296 #[iv p0, iv p1, iv p2, iv p3, iv p4, iv 1, rv l43, iv n, iv mk, rv a44, rv m63, rv aD] [])) ?_ fun _ zk => XS.astore H78.here hx rfl (hb hby at_294) rfl rfl (l' := #[iv p0, iv p1, iv p2, iv p3, iv p4, iv 1, rv l43, iv n, iv mk, rv a44, rv m63, rv aD]) rfl zk
              refine Rn.pu (T' := T78) (g' := (mkF m 298 #[iv p0, iv p1, iv p2, iv p3, iv p4, iv 1, rv l43, iv n, iv mk, rv a44, rv m63, rv aD] [(.ref m63)])) ?_ fun _ zk => XS.aload H78.here hx rfl (hb hby at_296) rfl rfl zk
              obtain ⟨_, T79, h79, H79, rfl, K79, st79⟩ := H78.callS (wd hw 84 rfl) (wd hw 85 rfl) (wd hw 82 rfl) (wd hw 86 rfl) (by decide) (MetN.pay (W := 0) (c_fw2 l B0 m63 t63 (c63) h75 H78.old ((S63.keep K64 nin0 nin0).keep K75 nin0 nin0) (fun r => q249_65 r.symm) (fun r => q265_70 r.symm) q281_76.symm) (wd hw 86 rfl) (wd hw 82 rfl) (by decide) (by decide)) (g := (mkF m 298 #[iv p0, iv p1, iv p2, iv p3, iv p4, iv 1, rv l43, iv n, iv mk, rv a44, rv m63, rv aD] [(.ref m63)])) rfl (by rw [hml]; rfl) (argsL := [(.ref m63)]) (rest := []) (lenOf pd__Ljava_lang_String__Lcom_example_calm_inbox_calminbox_webhook_WebhookStatus_ rfl) rfl rfl (Nat.le_of_eq rfl) (hb hby at_298) (by decide) (by decide) all0
              have zh79 := K79.1
              refine Rn.pu (g' := (mkF m 301 #[iv p0, iv p1, iv p2, iv p3, iv p4, iv 1, rv l43, iv n, iv mk, rv a44, rv m63, rv aD] [(.ref aD)])) ?_ st79
              refine Rn.pu (T' := T79) (g' := (mkF m 303 #[iv p0, iv p1, iv p2, iv p3, iv p4, iv 1, rv l43, iv n, iv mk, rv a44, rv m63, rv aD] [(.ref aD), (.ref aD)])) ?_ fun _ zk => XS.aload H79.here hx rfl (hb hby at_301) rfl rfl zk
              refine Rn.pu (T' := T79) (g' := (mkF m 306 #[iv p0, iv p1, iv p2, iv p3, iv p4, iv 1, rv l43, iv n, iv mk, rv a44, rv m63, rv aD] [])) ?_ fun _ zk => XT.acmpNo H79.here hx rfl (hb hby at_303) rfl rfl rfl (ac_ne_f rfl) zk
              refine Rn.pu (T' := T79) (g' := (mkF m 307 #[iv p0, iv p1, iv p2, iv p3, iv p4, iv 1, rv l43, iv n, iv mk, rv a44, rv m63, rv aD] [(.int (1 : Int32))])) ?_ fun _ zk => XS.iconst H79.here hx rfl (hb hby at_306) zk
              refine Rn.pu (T' := T79) (g' := (mkF m 311 #[iv p0, iv p1, iv p2, iv p3, iv p4, iv 1, rv l43, iv n, iv mk, rv a44, rv m63, rv aD] [(.int (1 : Int32))])) ?_ fun _ zk => XS.goto H79.here hx rfl (pc0 := 307) (pc' := 311) rfl (hb hby at_307) (by decide) (by decide) zk
              exact H79.retS ends_W hlk (t := .boolean) hret (by simp) (hb hby at_311) (by decide) (by decide) (fun _ q => nomatch q) rfl
            ·
              obtain ⟨_, T80, h80, H80, ⟨rfl, rfl⟩, -, st80⟩ := H75.callV (C := "java/lang/String") (wd hw 72 rfl) (wd hw 73 rfl) (wd hw 75 rfl) (wd hw 74 rfl) (by decide) (payEqN (W := 0) q281_76 (hws_eq hw) (wd hw 2 rfl) ((S63.keep K64 nin0 nin0).keep K75 nin0 nin0) S75 (SC0.ext H75.old) hz0 (by decide) (by decide)) ((S63.keep K64 nin0 nin0).keep K75 nin0 nin0).exa (g := (mkF m 281 #[iv p0, iv p1, iv p2, iv p3, iv p4, iv 1, rv l43, iv n, iv mk, rv a44, rv m63, .unset] [(.ref l75), (.ref m63)])) rfl (by rw [hml]; rfl) (argsL := [(.ref l75)]) (rest := []) (lenOf pd__Ljava_lang_Object__Z rfl) rfl rfl (Nat.le_of_eq rfl) (hb hby at_281) (by decide) (by decide) all0
              refine Rn.pu (g' := (mkF m 284 #[iv p0, iv p1, iv p2, iv p3, iv p4, iv 1, rv l43, iv n, iv mk, rv a44, rv m63, .unset] [(.int (0 : Int32))])) ?_ st80
              refine Rn.pu (T' := T80) (g' := (mkF m 293 #[iv p0, iv p1, iv p2, iv p3, iv p4, iv 1, rv l43, iv n, iv mk, rv a44, rv m63, .unset] [])) ?_ fun _ zk => XS.ifYes H80.here hx rfl (pc0 := 284) (pc' := 293) rfl (hb hby at_284) rfl (z_eq_t rfl) (by decide) (by decide) zk
              refine Rn.pu (T' := T80) (g' := (mkF m 294 #[iv p0, iv p1, iv p2, iv p3, iv p4, iv 1, rv l43, iv n, iv mk, rv a44, rv m63, .unset] [.null])) ?_ fun _ zk => XS.aconstNull H80.here hx rfl (hb hby at_293) zk
              refine Rn.pu (T' := T80) (g' := (mkF m 296 #[iv p0, iv p1, iv p2, iv p3, iv p4, iv 1, rv l43, iv n, iv mk, rv a44, rv m63, .val .null] [])) ?_ fun _ zk => XS.astore H80.here hx rfl (hb hby at_294) rfl rfl (l' := #[iv p0, iv p1, iv p2, iv p3, iv p4, iv 1, rv l43, iv n, iv mk, rv a44, rv m63, .val .null]) rfl zk
              refine Rn.pu (T' := T80) (g' := (mkF m 298 #[iv p0, iv p1, iv p2, iv p3, iv p4, iv 1, rv l43, iv n, iv mk, rv a44, rv m63, .val .null] [(.ref m63)])) ?_ fun _ zk => XS.aload H80.here hx rfl (hb hby at_296) rfl rfl zk
              obtain ⟨_, T81, h81, H81, rfl, K81, st81⟩ := H80.callS (wd hw 84 rfl) (wd hw 85 rfl) (wd hw 82 rfl) (wd hw 86 rfl) (by decide) (MetN.pay (W := 0) (c_fw3 l B0 m63 t63 (c63) h75 H80.old ((S63.keep K64 nin0 nin0).keep K75 nin0 nin0) (fun r => q249_65 r.symm) (fun r => q265_70 r.symm) (fun r => q281_76 r.symm)) (wd hw 86 rfl) (wd hw 82 rfl) (by decide) (by decide)) (g := (mkF m 298 #[iv p0, iv p1, iv p2, iv p3, iv p4, iv 1, rv l43, iv n, iv mk, rv a44, rv m63, .val .null] [(.ref m63)])) rfl (by rw [hml]; rfl) (argsL := [(.ref m63)]) (rest := []) (lenOf pd__Ljava_lang_String__Lcom_example_calm_inbox_calminbox_webhook_WebhookStatus_ rfl) rfl rfl (Nat.le_of_eq rfl) (hb hby at_298) (by decide) (by decide) all0
              have zh81 := K81.1
              refine Rn.pu (g' := (mkF m 301 #[iv p0, iv p1, iv p2, iv p3, iv p4, iv 1, rv l43, iv n, iv mk, rv a44, rv m63, .val .null] [.null])) ?_ st81
              refine Rn.pu (T' := T81) (g' := (mkF m 303 #[iv p0, iv p1, iv p2, iv p3, iv p4, iv 1, rv l43, iv n, iv mk, rv a44, rv m63, .val .null] [.null, .null])) ?_ fun _ zk => XS.aload H81.here hx rfl (hb hby at_301) rfl rfl zk
              refine Rn.pu (T' := T81) (g' := (mkF m 306 #[iv p0, iv p1, iv p2, iv p3, iv p4, iv 1, rv l43, iv n, iv mk, rv a44, rv m63, .val .null] [])) ?_ fun _ zk => XT.acmpNo H81.here hx rfl (hb hby at_303) rfl rfl rfl (ac_ne_f rfl) zk
              refine Rn.pu (T' := T81) (g' := (mkF m 307 #[iv p0, iv p1, iv p2, iv p3, iv p4, iv 1, rv l43, iv n, iv mk, rv a44, rv m63, .val .null] [(.int (1 : Int32))])) ?_ fun _ zk => XS.iconst H81.here hx rfl (hb hby at_306) zk
              refine Rn.pu (T' := T81) (g' := (mkF m 311 #[iv p0, iv p1, iv p2, iv p3, iv p4, iv 1, rv l43, iv n, iv mk, rv a44, rv m63, .val .null] [(.int (1 : Int32))])) ?_ fun _ zk => XS.goto H81.here hx rfl (pc0 := 307) (pc' := 311) rfl (hb hby at_307) (by decide) (by decide) zk
              exact H81.retS ends_W hlk (t := .boolean) hret (by simp) (hb hby at_311) (by decide) (by decide) (fun _ q => nomatch q) rfl
      refine Rn.pu (T' := TJ63) (g' := (mkF m 66 #[iv p0, iv p1, iv p2, iv p3, iv p4, iv 1, rv l43, iv n, .unset, .unset, .unset, .unset] [(.int p0)])) ?_ fun _ zk => XS.iloadN HJ63.here hx rfl (hb hby at_65) rfl zk
      refine Rn.pu (T' := TJ63) (g' := (mkF m 67 #[iv p0, iv p1, iv p2, iv p3, iv p4, iv 1, rv l43, iv n, .unset, .unset, .unset, .unset] [(.int (3 : Int32)), (.int p0)])) ?_ fun _ zk => XS.iconst HJ63.here hx rfl (hb hby at_66) zk
      refine Rn.pu (T' := TJ63) (g' := (mkF m 68 #[iv p0, iv p1, iv p2, iv p3, iv p4, iv 1, rv l43, iv n, .unset, .unset, .unset, .unset] [(.int (XT.ushr p0 (3 : Int32)))])) ?_ fun _ zk => XT.iushr HJ63.here hx rfl (hb hby at_67) rfl zk
      refine Rn.pu (T' := TJ63) (g' := (mkF m 69 #[iv p0, iv p1, iv p2, iv p3, iv p4, iv 1, rv l43, iv n, .unset, .unset, .unset, .unset] [(.int (1 : Int32)), (.int (XT.ushr p0 (3 : Int32)))])) ?_ fun _ zk => XS.iconst HJ63.here hx rfl (hb hby at_68) zk
      refine Rn.pu (T' := TJ63) (g' := (mkF m 70 #[iv p0, iv p1, iv p2, iv p3, iv p4, iv 1, rv l43, iv n, .unset, .unset, .unset, .unset] [(.int ((XT.ushr p0 (3 : Int32)) &&& (1 : Int32)))])) ?_ fun _ zk => XS.iand HJ63.here hx rfl (hb hby at_69) rfl zk
      by_cases b70_82 : ((XT.ushr p0 (3 : Int32)) &&& (1 : Int32)) = 0
      ·
        refine Rn.pu (T' := TJ63) (g' := (mkF m 73 #[iv p0, iv p1, iv p2, iv p3, iv p4, iv 1, rv l43, iv n, .unset, .unset, .unset, .unset] [])) ?_ fun _ zk => XS.ifNo HJ63.here hx rfl (hb hby at_70) rfl (z_ne_f b70_82) zk
        refine Rn.pu (T' := TJ63) (g' := (mkF m 74 #[iv p0, iv p1, iv p2, iv p3, iv p4, iv 1, rv l43, iv n, .unset, .unset, .unset, .unset] [(.int (0 : Int32))])) ?_ fun _ zk => XS.iconst HJ63.here hx rfl (hb hby at_73) zk
        refine Rn.pu (T' := TJ63) (g' := (mkF m 78 #[iv p0, iv p1, iv p2, iv p3, iv p4, iv 1, rv l43, iv n, .unset, .unset, .unset, .unset] [(.int (0 : Int32))])) ?_ fun _ zk => XS.goto HJ63.here hx rfl (pc0 := 74) (pc' := 78) rfl (hb hby at_74) (by decide) (by decide) zk
        exact J78 _ _ HJ63
      ·
        refine Rn.pu (T' := TJ63) (g' := (mkF m 77 #[iv p0, iv p1, iv p2, iv p3, iv p4, iv 1, rv l43, iv n, .unset, .unset, .unset, .unset] [])) ?_ fun _ zk => XS.ifYes HJ63.here hx rfl (pc0 := 70) (pc' := 77) rfl (hb hby at_70) rfl (z_ne_t b70_82) (by decide) (by decide) zk
        refine Rn.pu (T' := TJ63) (g' := (mkF m 78 #[iv p0, iv p1, iv p2, iv p3, iv p4, iv 1, rv l43, iv n, .unset, .unset, .unset, .unset] [(.int p1)])) ?_ fun _ zk => XS.iloadN HJ63.here hx rfl (hb hby at_77) rfl zk
        exact J78 _ _ HJ63
    refine Rn.pu (T' := T43) (g' := (mkF m 42 #[iv p0, iv p1, iv p2, iv p3, iv p4, iv 1, rv l43, .unset, .unset, .unset, .unset, .unset] [(.int p0)])) ?_ fun _ zk => XS.iloadN H43.here hx rfl (hb hby at_41) rfl zk
    refine Rn.pu (T' := T43) (g' := (mkF m 43 #[iv p0, iv p1, iv p2, iv p3, iv p4, iv 1, rv l43, .unset, .unset, .unset, .unset, .unset] [(.int (2 : Int32)), (.int p0)])) ?_ fun _ zk => XS.iconst H43.here hx rfl (hb hby at_42) zk
    refine Rn.pu (T' := T43) (g' := (mkF m 44 #[iv p0, iv p1, iv p2, iv p3, iv p4, iv 1, rv l43, .unset, .unset, .unset, .unset, .unset] [(.int (XT.ushr p0 (2 : Int32)))])) ?_ fun _ zk => XT.iushr H43.here hx rfl (hb hby at_43) rfl zk
    refine Rn.pu (T' := T43) (g' := (mkF m 45 #[iv p0, iv p1, iv p2, iv p3, iv p4, iv 1, rv l43, .unset, .unset, .unset, .unset, .unset] [(.int (1 : Int32)), (.int (XT.ushr p0 (2 : Int32)))])) ?_ fun _ zk => XS.iconst H43.here hx rfl (hb hby at_44) zk
    refine Rn.pu (T' := T43) (g' := (mkF m 46 #[iv p0, iv p1, iv p2, iv p3, iv p4, iv 1, rv l43, .unset, .unset, .unset, .unset, .unset] [(.int ((XT.ushr p0 (2 : Int32)) &&& (1 : Int32)))])) ?_ fun _ zk => XS.iand H43.here hx rfl (hb hby at_45) rfl zk
    by_cases b46_83 : ((XT.ushr p0 (2 : Int32)) &&& (1 : Int32)) = 0
    ·
      refine Rn.pu (T' := T43) (g' := (mkF m 49 #[iv p0, iv p1, iv p2, iv p3, iv p4, iv 1, rv l43, .unset, .unset, .unset, .unset, .unset] [])) ?_ fun _ zk => XS.ifNo H43.here hx rfl (hb hby at_46) rfl (z_ne_f b46_83) zk
      refine Rn.pu (T' := T43) (g' := (mkF m 51 #[iv p0, iv p1, iv p2, iv p3, iv p4, iv 1, rv l43, .unset, .unset, .unset, .unset, .unset] [(.ref l43)])) ?_ fun _ zk => XS.aload H43.here hx rfl (hb hby at_49) rfl rfl zk
      obtain ⟨_, T84, h84, H84, ⟨rfl, rfl⟩, -, st84⟩ := H43.callV (C := "java/lang/String") (wd hw 8 rfl) (wd hw 9 rfl) (wd hw 11 rfl) (wd hw 10 rfl) (by decide) (payLen (W := 0) (hws_len hw) (wd hw 2 rfl) S43 (SC0.ext H43.old) hz0 (by decide) (by decide)) S43.exa (g := (mkF m 51 #[iv p0, iv p1, iv p2, iv p3, iv p4, iv 1, rv l43, .unset, .unset, .unset, .unset, .unset] [(.ref l43)])) rfl (by rw [hml]; rfl) (argsL := []) (rest := []) (lenOf pd___I rfl) rfl rfl (Nat.le_of_eq rfl) (hb hby at_51) (by decide) (by decide) all0
      refine Rn.pu (g' := (mkF m 54 #[iv p0, iv p1, iv p2, iv p3, iv p4, iv 1, rv l43, .unset, .unset, .unset, .unset, .unset] [(.int (Int32.ofNat ([(102 : Int32), (97 : Int32), (105 : Int32), (108 : Int32), (105 : Int32), (110 : Int32), (103 : Int32)]).length))])) ?_ st84
      refine Rn.pu (T' := T84) (g' := (mkF m 63 #[iv p0, iv p1, iv p2, iv p3, iv p4, iv 1, rv l43, .unset, .unset, .unset, .unset, .unset] [(.int (Int32.ofNat ([(102 : Int32), (97 : Int32), (105 : Int32), (108 : Int32), (105 : Int32), (110 : Int32), (103 : Int32)]).length))])) ?_ fun _ zk => XS.goto H84.here hx rfl (pc0 := 54) (pc' := 63) rfl (hb hby at_54) (by decide) (by decide) zk
      exact J63 _ _ H84 (by decide)
    ·
      refine Rn.pu (T' := T43) (g' := (mkF m 57 #[iv p0, iv p1, iv p2, iv p3, iv p4, iv 1, rv l43, .unset, .unset, .unset, .unset, .unset] [])) ?_ fun _ zk => XS.ifYes H43.here hx rfl (pc0 := 46) (pc' := 57) rfl (hb hby at_46) rfl (z_ne_t b46_83) (by decide) (by decide) zk
      refine Rn.pu (T' := T43) (g' := (mkF m 58 #[iv p0, iv p1, iv p2, iv p3, iv p4, iv 1, rv l43, .unset, .unset, .unset, .unset, .unset] [(.int p0)])) ?_ fun _ zk => XS.iloadN H43.here hx rfl (hb hby at_57) rfl zk
      refine Rn.pu (T' := T43) (g' := (mkF m 59 #[iv p0, iv p1, iv p2, iv p3, iv p4, iv 1, rv l43, .unset, .unset, .unset, .unset, .unset] [(.int (5 : Int32)), (.int p0)])) ?_ fun _ zk => XS.iconst H43.here hx rfl (hb hby at_58) zk
      refine Rn.pu (T' := T43) (g' := (mkF m 60 #[iv p0, iv p1, iv p2, iv p3, iv p4, iv 1, rv l43, .unset, .unset, .unset, .unset, .unset] [(.int (XT.ushr p0 (5 : Int32)))])) ?_ fun _ zk => XT.iushr H43.here hx rfl (hb hby at_59) rfl zk
      refine Rn.pu (T' := T43) (g' := (mkF m 62 #[iv p0, iv p1, iv p2, iv p3, iv p4, iv 1, rv l43, .unset, .unset, .unset, .unset, .unset] [(.int (10 : Int32)), (.int (XT.ushr p0 (5 : Int32)))])) ?_ fun _ zk => XS.bipush H43.here hx rfl (hb hby at_60) zk
      refine Rn.pu (T' := T43) (g' := (mkF m 63 #[iv p0, iv p1, iv p2, iv p3, iv p4, iv 1, rv l43, .unset, .unset, .unset, .unset, .unset] [(.int ((XT.ushr p0 (5 : Int32)) % (10 : Int32)))])) ?_ fun _ zk => iremH H43 hx rfl (hb hby at_62) rfl (by decide) zk
      exact J63 _ _ H43 (own_rem10 _)
  ·
    refine Rn.pu (T' := T0) (g' := (mkF m 7 #[iv p0, iv p1, iv p2, iv p3, iv p4, iv 2, .unset, .unset, .unset, .unset, .unset, .unset] [(.int (2 : Int32))])) ?_ fun _ zk => XS.iload H0.here hx rfl (hb hby at_5) rfl zk
    refine Rn.pu (T' := T0) (g' := (mkF m 15 #[iv p0, iv p1, iv p2, iv p3, iv p4, iv 2, .unset, .unset, .unset, .unset, .unset, .unset] [])) ?_ fun _ zk => XS.ifYes H0.here hx rfl (pc0 := 7) (pc' := 15) rfl (hb hby at_7) rfl (z_ne_t (by decide)) (by decide) (by decide) zk
    refine Rn.pu (T' := T0) (g' := (mkF m 17 #[iv p0, iv p1, iv p2, iv p3, iv p4, iv 2, .unset, .unset, .unset, .unset, .unset, .unset] [(.int (2 : Int32))])) ?_ fun _ zk => XS.iload H0.here hx rfl (hb hby at_15) rfl zk
    refine Rn.pu (T' := T0) (g' := (mkF m 18 #[iv p0, iv p1, iv p2, iv p3, iv p4, iv 2, .unset, .unset, .unset, .unset, .unset, .unset] [(.int (1 : Int32)), (.int (2 : Int32))])) ?_ fun _ zk => XS.iconst H0.here hx rfl (hb hby at_17) zk
    refine Rn.pu (T' := T0) (g' := (mkF m 26 #[iv p0, iv p1, iv p2, iv p3, iv p4, iv 2, .unset, .unset, .unset, .unset, .unset, .unset] [])) ?_ fun _ zk => XS.icmpYes H0.here hx rfl (pc0 := 18) (pc' := 26) rfl (hb hby at_18) rfl (c_ne_t (by decide)) (by decide) (by decide) zk
    refine Rn.pu (T' := T0) (g' := (mkF m 28 #[iv p0, iv p1, iv p2, iv p3, iv p4, iv 2, .unset, .unset, .unset, .unset, .unset, .unset] [(.int (2 : Int32))])) ?_ fun _ zk => XS.iload H0.here hx rfl (hb hby at_26) rfl zk
    refine Rn.pu (T' := T0) (g' := (mkF m 29 #[iv p0, iv p1, iv p2, iv p3, iv p4, iv 2, .unset, .unset, .unset, .unset, .unset, .unset] [(.int (2 : Int32)), (.int (2 : Int32))])) ?_ fun _ zk => XS.iconst H0.here hx rfl (hb hby at_28) zk
    refine Rn.pu (T' := T0) (g' := (mkF m 32 #[iv p0, iv p1, iv p2, iv p3, iv p4, iv 2, .unset, .unset, .unset, .unset, .unset, .unset] [])) ?_ fun _ zk => XS.icmpNo H0.here hx rfl (hb hby at_29) rfl (c_ne_f rfl) zk
    obtain ⟨l85, u85, T85, h85, H85, K85, S85, st85⟩ := H0.ldcV (Ts := []) (P := (fun vm => Z.Warmed39 vm)) (fun _ q => q) w39_stab (wd hw 110 rfl) (hws_sa hw) (by simp) hhD hcw (cs := [(100 : Int32), (105 : Int32), (115 : Int32), (97 : Int32), (98 : Int32), (108 : Int32), (101 : Int32), (100 : Int32)]) (by decide) (by decide) (by decide) (by decide) (g := (mkF m 32 #[iv p0, iv p1, iv p2, iv p3, iv p4, iv 2, .unset, .unset, .unset, .unset, .unset, .unset] [])) rfl (hb hby at_32) (n := 32) (by decide) (by decide) (by decide) (by decide)
    have zh85 := K85.1
    have l85a := natlt (S85).lt
    have l85t := natlt (S85).ltt
    refine Rn.pu (g' := (mkF m 34 #[iv p0, iv p1, iv p2, iv p3, iv p4, iv 2, .unset, .unset, .unset, .unset, .unset, .unset] [(.ref l85)])) ?_ st85
    refine Rn.pu (T' := T85) (g' := (mkF m 39 #[iv p0, iv p1, iv p2, iv p3, iv p4, iv 2, .unset, .unset, .unset, .unset, .unset, .unset] [(.ref l85)])) ?_ fun _ zk => XS.goto H85.here hx rfl (pc0 := 34) (pc' := 39) rfl (hb hby at_34) (by decide) (by decide) zk
    refine Rn.pu (T' := T85) (g' := (mkF m 41 #[iv p0, iv p1, iv p2, iv p3, iv p4, iv 2, rv l85, .unset, .unset, .unset, .unset, .unset] [])) ?_ fun _ zk => XS.astore H85.here hx rfl (hb hby at_39) rfl rfl (l' := #[iv p0, iv p1, iv p2, iv p3, iv p4, iv 2, rv l85, .unset, .unset, .unset, .unset, .unset]) rfl zk
    have J63 : ∀ (TJ63 : State) (n : Int32), Hs p l e room_1 s m #[(.int p0), (.int p1), (.int p2), (.int p3), (.int p4)] below meth c Z "com/example/calm_inbox/calminbox/webhook/WebhookStatusFromWireNamePinLaw" [] (fun vm => IB Z vm ["disabled"] ∧ Lv Z "com/example/calm_inbox/calminbox/webhook/WebhookStatusFromWireNamePinLaw" 11 l85 vm ∧ Z.Warmed39 vm) TJ63 h85 2 36 → (n = 0 ∨ n = 1 ∨ n = 2 ∨ n = 3 ∨ n = 4 ∨ n = 5 ∨ n = 6 ∨ n = 7 ∨ n = 8 ∨ n = 9) → Rn p e below s ReturnedEndW [] (room_1).cells (room_1).slots (fun v vm h => v = some (.int 1)) TJ63 (mkF m 63 #[iv p0, iv p1, iv p2, iv p3, iv p4, iv 2, rv l85, .unset, .unset, .unset, .unset, .unset] [(.int n)]) := by
      intro TJ63 n HJ63 yJ63
      refine Rn.pu (T' := TJ63) (g' := (mkF m 65 #[iv p0, iv p1, iv p2, iv p3, iv p4, iv 2, rv l85, iv n, .unset, .unset, .unset, .unset] [])) ?_ fun _ zk => XS.istore HJ63.here hx rfl (hb hby at_63) rfl (l' := #[iv p0, iv p1, iv p2, iv p3, iv p4, iv 2, rv l85, iv n, .unset, .unset, .unset, .unset]) rfl zk
      have J78 : ∀ (TJ78 : State) (mk : Int32), Hs p l e room_1 s m #[(.int p0), (.int p1), (.int p2), (.int p3), (.int p4)] below meth c Z "com/example/calm_inbox/calminbox/webhook/WebhookStatusFromWireNamePinLaw" [] (fun vm => IB Z vm ["disabled"] ∧ Lv Z "com/example/calm_inbox/calminbox/webhook/WebhookStatusFromWireNamePinLaw" 11 l85 vm ∧ Z.Warmed39 vm) TJ78 h85 2 36 → Rn p e below s ReturnedEndW [] (room_1).cells (room_1).slots (fun v vm h => v = some (.int 1)) TJ78 (mkF m 78 #[iv p0, iv p1, iv p2, iv p3, iv p4, iv 2, rv l85, iv n, .unset, .unset, .unset, .unset] [(.int mk)]) := by
        intro TJ78 mk HJ78
        refine Rn.pu (T' := TJ78) (g' := (mkF m 80 #[iv p0, iv p1, iv p2, iv p3, iv p4, iv 2, rv l85, iv n, iv mk, .unset, .unset, .unset] [])) ?_ fun _ zk => XS.istore HJ78.here hx rfl (hb hby at_78) rfl (l' := #[iv p0, iv p1, iv p2, iv p3, iv p4, iv 2, rv l85, iv n, iv mk, .unset, .unset, .unset]) rfl zk
        refine Rn.pu (T' := TJ78) (g' := (mkF m 82 #[iv p0, iv p1, iv p2, iv p3, iv p4, iv 2, rv l85, iv n, iv mk, .unset, .unset, .unset] [(.int (9 : Int32))])) ?_ fun _ zk => XS.bipush HJ78.here hx rfl (hb hby at_80) zk
        obtain ⟨a86, k86, T86, h86, e86, H86, K86, A86, st86⟩ := HJ78.newP (aty := .char) (wd hw 21 rfl) (g := (mkF m 82 #[iv p0, iv p1, iv p2, iv p3, iv p4, iv 2, rv l85, iv n, iv mk, .unset, .unset, .unset] [(.int (9 : Int32))])) rfl (hb hby at_82) rfl (by decide) (cap := 9) (by decide) (by decide) (by decide) (by decide)
        have zh86 := K86.1
        have l86 := natlt (A86).lt
        have g86 : s.heap.size ≤ a86 := by omega
        refine Rn.pu (g' := (mkF m 84 #[iv p0, iv p1, iv p2, iv p3, iv p4, iv 2, rv l85, iv n, iv mk, .unset, .unset, .unset] [(.ref a86)])) ?_ st86
        refine Rn.pu (T' := T86) (g' := (mkF m 86 #[iv p0, iv p1, iv p2, iv p3, iv p4, iv 2, rv l85, iv n, iv mk, rv a86, .unset, .unset] [])) ?_ fun _ zk => XS.astore H86.here hx rfl (hb hby at_84) rfl rfl (l' := #[iv p0, iv p1, iv p2, iv p3, iv p4, iv 2, rv l85, iv n, iv mk, rv a86, .unset, .unset]) rfl zk
        refine Rn.pu (T' := T86) (g' := (mkF m 88 #[iv p0, iv p1, iv p2, iv p3, iv p4, iv 2, rv l85, iv n, iv mk, rv a86, .unset, .unset] [(.ref a86)])) ?_ fun _ zk => XS.aload H86.here hx rfl (hb hby at_86) rfl rfl zk
        refine Rn.pu (T' := T86) (g' := (mkF m 89 #[iv p0, iv p1, iv p2, iv p3, iv p4, iv 2, rv l85, iv n, iv mk, rv a86, .unset, .unset] [(.int (0 : Int32)), (.ref a86)])) ?_ fun _ zk => XS.iconst H86.here hx rfl (hb hby at_88) zk
        refine Rn.pu (T' := T86) (g' := (mkF m 91 #[iv p0, iv p1, iv p2, iv p3, iv p4, iv 2, rv l85, iv n, iv mk, rv a86, .unset, .unset] [(.ref l85), (.int (0 : Int32)), (.ref a86)])) ?_ fun _ zk => XS.aload H86.here hx rfl (hb hby at_89) rfl rfl zk
        refine Rn.pu (T' := T86) (g' := (mkF m 93 #[iv p0, iv p1, iv p2, iv p3, iv p4, iv 2, rv l85, iv n, iv mk, rv a86, .unset, .unset] [(.int mk), (.ref l85), (.int (0 : Int32)), (.ref a86)])) ?_ fun _ zk => XS.iload H86.here hx rfl (hb hby at_91) rfl zk
        refine Rn.pu (T' := T86) (g' := (mkF m 94 #[iv p0, iv p1, iv p2, iv p3, iv p4, iv 2, rv l85, iv n, iv mk, rv a86, .unset, .unset] [(.int (0 : Int32)), (.int mk), (.ref l85), (.int (0 : Int32)), (.ref a86)])) ?_ fun _ zk => XS.iconst H86.here hx rfl (hb hby at_93) zk
        refine Rn.pu (T' := T86) (g' := (mkF m 95 #[iv p0, iv p1, iv p2, iv p3, iv p4, iv 2, rv l85, iv n, iv mk, rv a86, .unset, .unset] [(.int p2), (.int (0 : Int32)), (.int mk), (.ref l85), (.int (0 : Int32)), (.ref a86)])) ?_ fun _ zk => XS.iloadN H86.here hx rfl (hb hby at_94) rfl zk
        refine Rn.pu (T' := T86) (g' := (mkF m 96 #[iv p0, iv p1, iv p2, iv p3, iv p4, iv 2, rv l85, iv n, iv mk, rv a86, .unset, .unset] [(.int p3), (.int p2), (.int (0 : Int32)), (.int mk), (.ref l85), (.int (0 : Int32)), (.ref a86)])) ?_ fun _ zk => XS.iloadN H86.here hx rfl (hb hby at_95) rfl zk
        refine Rn.pu (T' := T86) (g' := (mkF m 98 #[iv p0, iv p1, iv p2, iv p3, iv p4, iv 2, rv l85, iv n, iv mk, rv a86, .unset, .unset] [(.int p4), (.int p3), (.int p2), (.int (0 : Int32)), (.int mk), (.ref l85), (.int (0 : Int32)), (.ref a86)])) ?_ fun _ zk => XS.iload H86.here hx rfl (hb hby at_96) rfl zk
        obtain ⟨_, T87, h87, H87, ⟨r87, rfl, rr87, rfl⟩, -, st87⟩ := H86.callS (wd hw 22 rfl) (wd hw 23 rfl) (wd hw 24 rfl) (wd hw 25 rfl) (by decide) (MetN.pay (W := 2) (c_ch l B0 l85 u85 mk p2 p3 p4 [(100 : Int32), (105 : Int32), (115 : Int32), (97 : Int32), (98 : Int32), (108 : Int32), (101 : Int32), (100 : Int32)] 0 h86 H86.old (S85.keep K86 nin0 nin0) (by decide) (by decide)) (wd hw 25 rfl) (wd hw 24 rfl) (by decide) (by decide)) (g := (mkF m 98 #[iv p0, iv p1, iv p2, iv p3, iv p4, iv 2, rv l85, iv n, iv mk, rv a86, .unset, .unset] [(.int p4), (.int p3), (.int p2), (.int (0 : Int32)), (.int mk), (.ref l85), (.int (0 : Int32)), (.ref a86)])) rfl (by rw [hml]; rfl) (argsL := [(.ref l85), (.int mk), (.int (0 : Int32)), (.int p2), (.int p3), (.int p4)]) (rest := [(.int (0 : Int32)), (.ref a86)]) (lenOf pd__Ljava_lang_String_IIIII_C rfl) rfl rfl (Nat.le_of_eq rfl) (hb hby at_98) (by decide) (by decide) all0
        refine Rn.pu (g' := (mkF m 101 #[iv p0, iv p1, iv p2, iv p3, iv p4, iv 2, rv l85, iv n, iv mk, rv a86, .unset, .unset] [(.int r87), (.int (0 : Int32)), (.ref a86)])) ?_ st87
        obtain ⟨T88, h88, H88, K88, A88, st88⟩ := H87.stC A86 (by decide) rfl (Or.inr (by omega)) (g := (mkF m 101 #[iv p0, iv p1, iv p2, iv p3, iv p4, iv 2, rv l85, iv n, iv mk, rv a86, .unset, .unset] [(.int r87), (.int (0 : Int32)), (.ref a86)])) rfl rfl (hb hby at_101)
        have zh88 := K88.1
        refine Rn.pu (g' := (mkF m 102 #[iv p0, iv p1, iv p2, iv p3, iv p4, iv 2, rv l85, iv n, iv mk, rv a86, .unset, .unset] [])) ?_ st88
        refine Rn.pu (T' := T88) (g' := (mkF m 104 #[iv p0, iv p1, iv p2, iv p3, iv p4, iv 2, rv l85, iv n, iv mk, rv a86, .unset, .unset] [(.ref a86)])) ?_ fun _ zk => XS.aload H88.here hx rfl (hb hby at_102) rfl rfl zk
        refine Rn.pu (T' := T88) (g' := (mkF m 105 #[iv p0, iv p1, iv p2, iv p3, iv p4, iv 2, rv l85, iv n, iv mk, rv a86, .unset, .unset] [(.int (1 : Int32)), (.ref a86)])) ?_ fun _ zk => XS.iconst H88.here hx rfl (hb hby at_104) zk
        refine Rn.pu (T' := T88) (g' := (mkF m 107 #[iv p0, iv p1, iv p2, iv p3, iv p4, iv 2, rv l85, iv n, iv mk, rv a86, .unset, .unset] [(.ref l85), (.int (1 : Int32)), (.ref a86)])) ?_ fun _ zk => XS.aload H88.here hx rfl (hb hby at_105) rfl rfl zk
        refine Rn.pu (T' := T88) (g' := (mkF m 109 #[iv p0, iv p1, iv p2, iv p3, iv p4, iv 2, rv l85, iv n, iv mk, rv a86, .unset, .unset] [(.int mk), (.ref l85), (.int (1 : Int32)), (.ref a86)])) ?_ fun _ zk => XS.iload H88.here hx rfl (hb hby at_107) rfl zk
        refine Rn.pu (T' := T88) (g' := (mkF m 110 #[iv p0, iv p1, iv p2, iv p3, iv p4, iv 2, rv l85, iv n, iv mk, rv a86, .unset, .unset] [(.int (1 : Int32)), (.int mk), (.ref l85), (.int (1 : Int32)), (.ref a86)])) ?_ fun _ zk => XS.iconst H88.here hx rfl (hb hby at_109) zk
        refine Rn.pu (T' := T88) (g' := (mkF m 111 #[iv p0, iv p1, iv p2, iv p3, iv p4, iv 2, rv l85, iv n, iv mk, rv a86, .unset, .unset] [(.int p2), (.int (1 : Int32)), (.int mk), (.ref l85), (.int (1 : Int32)), (.ref a86)])) ?_ fun _ zk => XS.iloadN H88.here hx rfl (hb hby at_110) rfl zk
        refine Rn.pu (T' := T88) (g' := (mkF m 112 #[iv p0, iv p1, iv p2, iv p3, iv p4, iv 2, rv l85, iv n, iv mk, rv a86, .unset, .unset] [(.int p3), (.int p2), (.int (1 : Int32)), (.int mk), (.ref l85), (.int (1 : Int32)), (.ref a86)])) ?_ fun _ zk => XS.iloadN H88.here hx rfl (hb hby at_111) rfl zk
        refine Rn.pu (T' := T88) (g' := (mkF m 114 #[iv p0, iv p1, iv p2, iv p3, iv p4, iv 2, rv l85, iv n, iv mk, rv a86, .unset, .unset] [(.int p4), (.int p3), (.int p2), (.int (1 : Int32)), (.int mk), (.ref l85), (.int (1 : Int32)), (.ref a86)])) ?_ fun _ zk => XS.iload H88.here hx rfl (hb hby at_112) rfl zk
        obtain ⟨_, T89, h89, H89, ⟨r89, rfl, rr89, rfl⟩, -, st89⟩ := H88.callS (wd hw 22 rfl) (wd hw 23 rfl) (wd hw 24 rfl) (wd hw 25 rfl) (by decide) (MetN.pay (W := 2) (c_ch l B0 l85 u85 mk p2 p3 p4 [(100 : Int32), (105 : Int32), (115 : Int32), (97 : Int32), (98 : Int32), (108 : Int32), (101 : Int32), (100 : Int32)] 1 h88 H88.old ((S85.keep K86 nin0 nin0).keep K88 (ninS (adne (by omega)) nin0) (ninS (adne (by omega)) nin0)) (by decide) (by decide)) (wd hw 25 rfl) (wd hw 24 rfl) (by decide) (by decide)) (g := (mkF m 114 #[iv p0, iv p1, iv p2, iv p3, iv p4, iv 2, rv l85, iv n, iv mk, rv a86, .unset, .unset] [(.int p4), (.int p3), (.int p2), (.int (1 : Int32)), (.int mk), (.ref l85), (.int (1 : Int32)), (.ref a86)])) rfl (by rw [hml]; rfl) (argsL := [(.ref l85), (.int mk), (.int (1 : Int32)), (.int p2), (.int p3), (.int p4)]) (rest := [(.int (1 : Int32)), (.ref a86)]) (lenOf pd__Ljava_lang_String_IIIII_C rfl) rfl rfl (Nat.le_of_eq rfl) (hb hby at_114) (by decide) (by decide) all0
        refine Rn.pu (g' := (mkF m 117 #[iv p0, iv p1, iv p2, iv p3, iv p4, iv 2, rv l85, iv n, iv mk, rv a86, .unset, .unset] [(.int r89), (.int (1 : Int32)), (.ref a86)])) ?_ st89
        obtain ⟨T90, h90, H90, K90, A90, st90⟩ := H89.stC A88 (by decide) rfl (Or.inr (by omega)) (g := (mkF m 117 #[iv p0, iv p1, iv p2, iv p3, iv p4, iv 2, rv l85, iv n, iv mk, rv a86, .unset, .unset] [(.int r89), (.int (1 : Int32)), (.ref a86)])) rfl rfl (hb hby at_117)
        have zh90 := K90.1
        refine Rn.pu (g' := (mkF m 118 #[iv p0, iv p1, iv p2, iv p3, iv p4, iv 2, rv l85, iv n, iv mk, rv a86, .unset, .unset] [])) ?_ st90
        refine Rn.pu (T' := T90) (g' := (mkF m 120 #[iv p0, iv p1, iv p2, iv p3, iv p4, iv 2, rv l85, iv n, iv mk, rv a86, .unset, .unset] [(.ref a86)])) ?_ fun _ zk => XS.aload H90.here hx rfl (hb hby at_118) rfl rfl zk
        refine Rn.pu (T' := T90) (g' := (mkF m 121 #[iv p0, iv p1, iv p2, iv p3, iv p4, iv 2, rv l85, iv n, iv mk, rv a86, .unset, .unset] [(.int (2 : Int32)), (.ref a86)])) ?_ fun _ zk => XS.iconst H90.here hx rfl (hb hby at_120) zk
        refine Rn.pu (T' := T90) (g' := (mkF m 123 #[iv p0, iv p1, iv p2, iv p3, iv p4, iv 2, rv l85, iv n, iv mk, rv a86, .unset, .unset] [(.ref l85), (.int (2 : Int32)), (.ref a86)])) ?_ fun _ zk => XS.aload H90.here hx rfl (hb hby at_121) rfl rfl zk
        refine Rn.pu (T' := T90) (g' := (mkF m 125 #[iv p0, iv p1, iv p2, iv p3, iv p4, iv 2, rv l85, iv n, iv mk, rv a86, .unset, .unset] [(.int mk), (.ref l85), (.int (2 : Int32)), (.ref a86)])) ?_ fun _ zk => XS.iload H90.here hx rfl (hb hby at_123) rfl zk
        refine Rn.pu (T' := T90) (g' := (mkF m 126 #[iv p0, iv p1, iv p2, iv p3, iv p4, iv 2, rv l85, iv n, iv mk, rv a86, .unset, .unset] [(.int (2 : Int32)), (.int mk), (.ref l85), (.int (2 : Int32)), (.ref a86)])) ?_ fun _ zk => XS.iconst H90.here hx rfl (hb hby at_125) zk
        refine Rn.pu (T' := T90) (g' := (mkF m 127 #[iv p0, iv p1, iv p2, iv p3, iv p4, iv 2, rv l85, iv n, iv mk, rv a86, .unset, .unset] [(.int p2), (.int (2 : Int32)), (.int mk), (.ref l85), (.int (2 : Int32)), (.ref a86)])) ?_ fun _ zk => XS.iloadN H90.here hx rfl (hb hby at_126) rfl zk
        refine Rn.pu (T' := T90) (g' := (mkF m 128 #[iv p0, iv p1, iv p2, iv p3, iv p4, iv 2, rv l85, iv n, iv mk, rv a86, .unset, .unset] [(.int p3), (.int p2), (.int (2 : Int32)), (.int mk), (.ref l85), (.int (2 : Int32)), (.ref a86)])) ?_ fun _ zk => XS.iloadN H90.here hx rfl (hb hby at_127) rfl zk
        refine Rn.pu (T' := T90) (g' := (mkF m 130 #[iv p0, iv p1, iv p2, iv p3, iv p4, iv 2, rv l85, iv n, iv mk, rv a86, .unset, .unset] [(.int p4), (.int p3), (.int p2), (.int (2 : Int32)), (.int mk), (.ref l85), (.int (2 : Int32)), (.ref a86)])) ?_ fun _ zk => XS.iload H90.here hx rfl (hb hby at_128) rfl zk
        obtain ⟨_, T91, h91, H91, ⟨r91, rfl, rr91, rfl⟩, -, st91⟩ := H90.callS (wd hw 22 rfl) (wd hw 23 rfl) (wd hw 24 rfl) (wd hw 25 rfl) (by decide) (MetN.pay (W := 2) (c_ch l B0 l85 u85 mk p2 p3 p4 [(100 : Int32), (105 : Int32), (115 : Int32), (97 : Int32), (98 : Int32), (108 : Int32), (101 : Int32), (100 : Int32)] 2 h90 H90.old (((S85.keep K86 nin0 nin0).keep K88 (ninS (adne (by omega)) nin0) (ninS (adne (by omega)) nin0)).keep K90 (ninS (adne (by omega)) nin0) (ninS (adne (by omega)) nin0)) (by decide) (by decide)) (wd hw 25 rfl) (wd hw 24 rfl) (by decide) (by decide)) (g := (mkF m 130 #[iv p0, iv p1, iv p2, iv p3, iv p4, iv 2, rv l85, iv n, iv mk, rv a86, .unset, .unset] [(.int p4), (.int p3), (.int p2), (.int (2 : Int32)), (.int mk), (.ref l85), (.int (2 : Int32)), (.ref a86)])) rfl (by rw [hml]; rfl) (argsL := [(.ref l85), (.int mk), (.int (2 : Int32)), (.int p2), (.int p3), (.int p4)]) (rest := [(.int (2 : Int32)), (.ref a86)]) (lenOf pd__Ljava_lang_String_IIIII_C rfl) rfl rfl (Nat.le_of_eq rfl) (hb hby at_130) (by decide) (by decide) all0
        refine Rn.pu (g' := (mkF m 133 #[iv p0, iv p1, iv p2, iv p3, iv p4, iv 2, rv l85, iv n, iv mk, rv a86, .unset, .unset] [(.int r91), (.int (2 : Int32)), (.ref a86)])) ?_ st91
        obtain ⟨T92, h92, H92, K92, A92, st92⟩ := H91.stC A90 (by decide) rfl (Or.inr (by omega)) (g := (mkF m 133 #[iv p0, iv p1, iv p2, iv p3, iv p4, iv 2, rv l85, iv n, iv mk, rv a86, .unset, .unset] [(.int r91), (.int (2 : Int32)), (.ref a86)])) rfl rfl (hb hby at_133)
        have zh92 := K92.1
        refine Rn.pu (g' := (mkF m 134 #[iv p0, iv p1, iv p2, iv p3, iv p4, iv 2, rv l85, iv n, iv mk, rv a86, .unset, .unset] [])) ?_ st92
        refine Rn.pu (T' := T92) (g' := (mkF m 136 #[iv p0, iv p1, iv p2, iv p3, iv p4, iv 2, rv l85, iv n, iv mk, rv a86, .unset, .unset] [(.ref a86)])) ?_ fun _ zk => XS.aload H92.here hx rfl (hb hby at_134) rfl rfl zk
        refine Rn.pu (T' := T92) (g' := (mkF m 137 #[iv p0, iv p1, iv p2, iv p3, iv p4, iv 2, rv l85, iv n, iv mk, rv a86, .unset, .unset] [(.int (3 : Int32)), (.ref a86)])) ?_ fun _ zk => XS.iconst H92.here hx rfl (hb hby at_136) zk
        refine Rn.pu (T' := T92) (g' := (mkF m 139 #[iv p0, iv p1, iv p2, iv p3, iv p4, iv 2, rv l85, iv n, iv mk, rv a86, .unset, .unset] [(.ref l85), (.int (3 : Int32)), (.ref a86)])) ?_ fun _ zk => XS.aload H92.here hx rfl (hb hby at_137) rfl rfl zk
        refine Rn.pu (T' := T92) (g' := (mkF m 141 #[iv p0, iv p1, iv p2, iv p3, iv p4, iv 2, rv l85, iv n, iv mk, rv a86, .unset, .unset] [(.int mk), (.ref l85), (.int (3 : Int32)), (.ref a86)])) ?_ fun _ zk => XS.iload H92.here hx rfl (hb hby at_139) rfl zk
        refine Rn.pu (T' := T92) (g' := (mkF m 142 #[iv p0, iv p1, iv p2, iv p3, iv p4, iv 2, rv l85, iv n, iv mk, rv a86, .unset, .unset] [(.int (3 : Int32)), (.int mk), (.ref l85), (.int (3 : Int32)), (.ref a86)])) ?_ fun _ zk => XS.iconst H92.here hx rfl (hb hby at_141) zk
        refine Rn.pu (T' := T92) (g' := (mkF m 143 #[iv p0, iv p1, iv p2, iv p3, iv p4, iv 2, rv l85, iv n, iv mk, rv a86, .unset, .unset] [(.int p2), (.int (3 : Int32)), (.int mk), (.ref l85), (.int (3 : Int32)), (.ref a86)])) ?_ fun _ zk => XS.iloadN H92.here hx rfl (hb hby at_142) rfl zk
        refine Rn.pu (T' := T92) (g' := (mkF m 144 #[iv p0, iv p1, iv p2, iv p3, iv p4, iv 2, rv l85, iv n, iv mk, rv a86, .unset, .unset] [(.int p3), (.int p2), (.int (3 : Int32)), (.int mk), (.ref l85), (.int (3 : Int32)), (.ref a86)])) ?_ fun _ zk => XS.iloadN H92.here hx rfl (hb hby at_143) rfl zk
        refine Rn.pu (T' := T92) (g' := (mkF m 146 #[iv p0, iv p1, iv p2, iv p3, iv p4, iv 2, rv l85, iv n, iv mk, rv a86, .unset, .unset] [(.int p4), (.int p3), (.int p2), (.int (3 : Int32)), (.int mk), (.ref l85), (.int (3 : Int32)), (.ref a86)])) ?_ fun _ zk => XS.iload H92.here hx rfl (hb hby at_144) rfl zk
        obtain ⟨_, T93, h93, H93, ⟨r93, rfl, rr93, rfl⟩, -, st93⟩ := H92.callS (wd hw 22 rfl) (wd hw 23 rfl) (wd hw 24 rfl) (wd hw 25 rfl) (by decide) (MetN.pay (W := 2) (c_ch l B0 l85 u85 mk p2 p3 p4 [(100 : Int32), (105 : Int32), (115 : Int32), (97 : Int32), (98 : Int32), (108 : Int32), (101 : Int32), (100 : Int32)] 3 h92 H92.old ((((S85.keep K86 nin0 nin0).keep K88 (ninS (adne (by omega)) nin0) (ninS (adne (by omega)) nin0)).keep K90 (ninS (adne (by omega)) nin0) (ninS (adne (by omega)) nin0)).keep K92 (ninS (adne (by omega)) nin0) (ninS (adne (by omega)) nin0)) (by decide) (by decide)) (wd hw 25 rfl) (wd hw 24 rfl) (by decide) (by decide)) (g := (mkF m 146 #[iv p0, iv p1, iv p2, iv p3, iv p4, iv 2, rv l85, iv n, iv mk, rv a86, .unset, .unset] [(.int p4), (.int p3), (.int p2), (.int (3 : Int32)), (.int mk), (.ref l85), (.int (3 : Int32)), (.ref a86)])) rfl (by rw [hml]; rfl) (argsL := [(.ref l85), (.int mk), (.int (3 : Int32)), (.int p2), (.int p3), (.int p4)]) (rest := [(.int (3 : Int32)), (.ref a86)]) (lenOf pd__Ljava_lang_String_IIIII_C rfl) rfl rfl (Nat.le_of_eq rfl) (hb hby at_146) (by decide) (by decide) all0
        refine Rn.pu (g' := (mkF m 149 #[iv p0, iv p1, iv p2, iv p3, iv p4, iv 2, rv l85, iv n, iv mk, rv a86, .unset, .unset] [(.int r93), (.int (3 : Int32)), (.ref a86)])) ?_ st93
        obtain ⟨T94, h94, H94, K94, A94, st94⟩ := H93.stC A92 (by decide) rfl (Or.inr (by omega)) (g := (mkF m 149 #[iv p0, iv p1, iv p2, iv p3, iv p4, iv 2, rv l85, iv n, iv mk, rv a86, .unset, .unset] [(.int r93), (.int (3 : Int32)), (.ref a86)])) rfl rfl (hb hby at_149)
        have zh94 := K94.1
        refine Rn.pu (g' := (mkF m 150 #[iv p0, iv p1, iv p2, iv p3, iv p4, iv 2, rv l85, iv n, iv mk, rv a86, .unset, .unset] [])) ?_ st94
        refine Rn.pu (T' := T94) (g' := (mkF m 152 #[iv p0, iv p1, iv p2, iv p3, iv p4, iv 2, rv l85, iv n, iv mk, rv a86, .unset, .unset] [(.ref a86)])) ?_ fun _ zk => XS.aload H94.here hx rfl (hb hby at_150) rfl rfl zk
        refine Rn.pu (T' := T94) (g' := (mkF m 153 #[iv p0, iv p1, iv p2, iv p3, iv p4, iv 2, rv l85, iv n, iv mk, rv a86, .unset, .unset] [(.int (4 : Int32)), (.ref a86)])) ?_ fun _ zk => XS.iconst H94.here hx rfl (hb hby at_152) zk
        refine Rn.pu (T' := T94) (g' := (mkF m 155 #[iv p0, iv p1, iv p2, iv p3, iv p4, iv 2, rv l85, iv n, iv mk, rv a86, .unset, .unset] [(.ref l85), (.int (4 : Int32)), (.ref a86)])) ?_ fun _ zk => XS.aload H94.here hx rfl (hb hby at_153) rfl rfl zk
        refine Rn.pu (T' := T94) (g' := (mkF m 157 #[iv p0, iv p1, iv p2, iv p3, iv p4, iv 2, rv l85, iv n, iv mk, rv a86, .unset, .unset] [(.int mk), (.ref l85), (.int (4 : Int32)), (.ref a86)])) ?_ fun _ zk => XS.iload H94.here hx rfl (hb hby at_155) rfl zk
        refine Rn.pu (T' := T94) (g' := (mkF m 158 #[iv p0, iv p1, iv p2, iv p3, iv p4, iv 2, rv l85, iv n, iv mk, rv a86, .unset, .unset] [(.int (4 : Int32)), (.int mk), (.ref l85), (.int (4 : Int32)), (.ref a86)])) ?_ fun _ zk => XS.iconst H94.here hx rfl (hb hby at_157) zk
        refine Rn.pu (T' := T94) (g' := (mkF m 159 #[iv p0, iv p1, iv p2, iv p3, iv p4, iv 2, rv l85, iv n, iv mk, rv a86, .unset, .unset] [(.int p2), (.int (4 : Int32)), (.int mk), (.ref l85), (.int (4 : Int32)), (.ref a86)])) ?_ fun _ zk => XS.iloadN H94.here hx rfl (hb hby at_158) rfl zk
        refine Rn.pu (T' := T94) (g' := (mkF m 160 #[iv p0, iv p1, iv p2, iv p3, iv p4, iv 2, rv l85, iv n, iv mk, rv a86, .unset, .unset] [(.int p3), (.int p2), (.int (4 : Int32)), (.int mk), (.ref l85), (.int (4 : Int32)), (.ref a86)])) ?_ fun _ zk => XS.iloadN H94.here hx rfl (hb hby at_159) rfl zk
        refine Rn.pu (T' := T94) (g' := (mkF m 162 #[iv p0, iv p1, iv p2, iv p3, iv p4, iv 2, rv l85, iv n, iv mk, rv a86, .unset, .unset] [(.int p4), (.int p3), (.int p2), (.int (4 : Int32)), (.int mk), (.ref l85), (.int (4 : Int32)), (.ref a86)])) ?_ fun _ zk => XS.iload H94.here hx rfl (hb hby at_160) rfl zk
        obtain ⟨_, T95, h95, H95, ⟨r95, rfl, rr95, rfl⟩, -, st95⟩ := H94.callS (wd hw 22 rfl) (wd hw 23 rfl) (wd hw 24 rfl) (wd hw 25 rfl) (by decide) (MetN.pay (W := 2) (c_ch l B0 l85 u85 mk p2 p3 p4 [(100 : Int32), (105 : Int32), (115 : Int32), (97 : Int32), (98 : Int32), (108 : Int32), (101 : Int32), (100 : Int32)] 4 h94 H94.old (((((S85.keep K86 nin0 nin0).keep K88 (ninS (adne (by omega)) nin0) (ninS (adne (by omega)) nin0)).keep K90 (ninS (adne (by omega)) nin0) (ninS (adne (by omega)) nin0)).keep K92 (ninS (adne (by omega)) nin0) (ninS (adne (by omega)) nin0)).keep K94 (ninS (adne (by omega)) nin0) (ninS (adne (by omega)) nin0)) (by decide) (by decide)) (wd hw 25 rfl) (wd hw 24 rfl) (by decide) (by decide)) (g := (mkF m 162 #[iv p0, iv p1, iv p2, iv p3, iv p4, iv 2, rv l85, iv n, iv mk, rv a86, .unset, .unset] [(.int p4), (.int p3), (.int p2), (.int (4 : Int32)), (.int mk), (.ref l85), (.int (4 : Int32)), (.ref a86)])) rfl (by rw [hml]; rfl) (argsL := [(.ref l85), (.int mk), (.int (4 : Int32)), (.int p2), (.int p3), (.int p4)]) (rest := [(.int (4 : Int32)), (.ref a86)]) (lenOf pd__Ljava_lang_String_IIIII_C rfl) rfl rfl (Nat.le_of_eq rfl) (hb hby at_162) (by decide) (by decide) all0
        refine Rn.pu (g' := (mkF m 165 #[iv p0, iv p1, iv p2, iv p3, iv p4, iv 2, rv l85, iv n, iv mk, rv a86, .unset, .unset] [(.int r95), (.int (4 : Int32)), (.ref a86)])) ?_ st95
        obtain ⟨T96, h96, H96, K96, A96, st96⟩ := H95.stC A94 (by decide) rfl (Or.inr (by omega)) (g := (mkF m 165 #[iv p0, iv p1, iv p2, iv p3, iv p4, iv 2, rv l85, iv n, iv mk, rv a86, .unset, .unset] [(.int r95), (.int (4 : Int32)), (.ref a86)])) rfl rfl (hb hby at_165)
        have zh96 := K96.1
        refine Rn.pu (g' := (mkF m 166 #[iv p0, iv p1, iv p2, iv p3, iv p4, iv 2, rv l85, iv n, iv mk, rv a86, .unset, .unset] [])) ?_ st96
        refine Rn.pu (T' := T96) (g' := (mkF m 168 #[iv p0, iv p1, iv p2, iv p3, iv p4, iv 2, rv l85, iv n, iv mk, rv a86, .unset, .unset] [(.ref a86)])) ?_ fun _ zk => XS.aload H96.here hx rfl (hb hby at_166) rfl rfl zk
        refine Rn.pu (T' := T96) (g' := (mkF m 169 #[iv p0, iv p1, iv p2, iv p3, iv p4, iv 2, rv l85, iv n, iv mk, rv a86, .unset, .unset] [(.int (5 : Int32)), (.ref a86)])) ?_ fun _ zk => XS.iconst H96.here hx rfl (hb hby at_168) zk
        refine Rn.pu (T' := T96) (g' := (mkF m 171 #[iv p0, iv p1, iv p2, iv p3, iv p4, iv 2, rv l85, iv n, iv mk, rv a86, .unset, .unset] [(.ref l85), (.int (5 : Int32)), (.ref a86)])) ?_ fun _ zk => XS.aload H96.here hx rfl (hb hby at_169) rfl rfl zk
        refine Rn.pu (T' := T96) (g' := (mkF m 173 #[iv p0, iv p1, iv p2, iv p3, iv p4, iv 2, rv l85, iv n, iv mk, rv a86, .unset, .unset] [(.int mk), (.ref l85), (.int (5 : Int32)), (.ref a86)])) ?_ fun _ zk => XS.iload H96.here hx rfl (hb hby at_171) rfl zk
        refine Rn.pu (T' := T96) (g' := (mkF m 174 #[iv p0, iv p1, iv p2, iv p3, iv p4, iv 2, rv l85, iv n, iv mk, rv a86, .unset, .unset] [(.int (5 : Int32)), (.int mk), (.ref l85), (.int (5 : Int32)), (.ref a86)])) ?_ fun _ zk => XS.iconst H96.here hx rfl (hb hby at_173) zk
        refine Rn.pu (T' := T96) (g' := (mkF m 175 #[iv p0, iv p1, iv p2, iv p3, iv p4, iv 2, rv l85, iv n, iv mk, rv a86, .unset, .unset] [(.int p2), (.int (5 : Int32)), (.int mk), (.ref l85), (.int (5 : Int32)), (.ref a86)])) ?_ fun _ zk => XS.iloadN H96.here hx rfl (hb hby at_174) rfl zk
        refine Rn.pu (T' := T96) (g' := (mkF m 176 #[iv p0, iv p1, iv p2, iv p3, iv p4, iv 2, rv l85, iv n, iv mk, rv a86, .unset, .unset] [(.int p3), (.int p2), (.int (5 : Int32)), (.int mk), (.ref l85), (.int (5 : Int32)), (.ref a86)])) ?_ fun _ zk => XS.iloadN H96.here hx rfl (hb hby at_175) rfl zk
        refine Rn.pu (T' := T96) (g' := (mkF m 178 #[iv p0, iv p1, iv p2, iv p3, iv p4, iv 2, rv l85, iv n, iv mk, rv a86, .unset, .unset] [(.int p4), (.int p3), (.int p2), (.int (5 : Int32)), (.int mk), (.ref l85), (.int (5 : Int32)), (.ref a86)])) ?_ fun _ zk => XS.iload H96.here hx rfl (hb hby at_176) rfl zk
        obtain ⟨_, T97, h97, H97, ⟨r97, rfl, rr97, rfl⟩, -, st97⟩ := H96.callS (wd hw 22 rfl) (wd hw 23 rfl) (wd hw 24 rfl) (wd hw 25 rfl) (by decide) (MetN.pay (W := 2) (c_ch l B0 l85 u85 mk p2 p3 p4 [(100 : Int32), (105 : Int32), (115 : Int32), (97 : Int32), (98 : Int32), (108 : Int32), (101 : Int32), (100 : Int32)] 5 h96 H96.old ((((((S85.keep K86 nin0 nin0).keep K88 (ninS (adne (by omega)) nin0) (ninS (adne (by omega)) nin0)).keep K90 (ninS (adne (by omega)) nin0) (ninS (adne (by omega)) nin0)).keep K92 (ninS (adne (by omega)) nin0) (ninS (adne (by omega)) nin0)).keep K94 (ninS (adne (by omega)) nin0) (ninS (adne (by omega)) nin0)).keep K96 (ninS (adne (by omega)) nin0) (ninS (adne (by omega)) nin0)) (by decide) (by decide)) (wd hw 25 rfl) (wd hw 24 rfl) (by decide) (by decide)) (g := (mkF m 178 #[iv p0, iv p1, iv p2, iv p3, iv p4, iv 2, rv l85, iv n, iv mk, rv a86, .unset, .unset] [(.int p4), (.int p3), (.int p2), (.int (5 : Int32)), (.int mk), (.ref l85), (.int (5 : Int32)), (.ref a86)])) rfl (by rw [hml]; rfl) (argsL := [(.ref l85), (.int mk), (.int (5 : Int32)), (.int p2), (.int p3), (.int p4)]) (rest := [(.int (5 : Int32)), (.ref a86)]) (lenOf pd__Ljava_lang_String_IIIII_C rfl) rfl rfl (Nat.le_of_eq rfl) (hb hby at_178) (by decide) (by decide) all0
        refine Rn.pu (g' := (mkF m 181 #[iv p0, iv p1, iv p2, iv p3, iv p4, iv 2, rv l85, iv n, iv mk, rv a86, .unset, .unset] [(.int r97), (.int (5 : Int32)), (.ref a86)])) ?_ st97
        obtain ⟨T98, h98, H98, K98, A98, st98⟩ := H97.stC A96 (by decide) rfl (Or.inr (by omega)) (g := (mkF m 181 #[iv p0, iv p1, iv p2, iv p3, iv p4, iv 2, rv l85, iv n, iv mk, rv a86, .unset, .unset] [(.int r97), (.int (5 : Int32)), (.ref a86)])) rfl rfl (hb hby at_181)
        have zh98 := K98.1
        refine Rn.pu (g' := (mkF m 182 #[iv p0, iv p1, iv p2, iv p3, iv p4, iv 2, rv l85, iv n, iv mk, rv a86, .unset, .unset] [])) ?_ st98
        refine Rn.pu (T' := T98) (g' := (mkF m 184 #[iv p0, iv p1, iv p2, iv p3, iv p4, iv 2, rv l85, iv n, iv mk, rv a86, .unset, .unset] [(.ref a86)])) ?_ fun _ zk => XS.aload H98.here hx rfl (hb hby at_182) rfl rfl zk
        refine Rn.pu (T' := T98) (g' := (mkF m 186 #[iv p0, iv p1, iv p2, iv p3, iv p4, iv 2, rv l85, iv n, iv mk, rv a86, .unset, .unset] [(.int (6 : Int32)), (.ref a86)])) ?_ fun _ zk => XS.bipush H98.here hx rfl (hb hby at_184) zk
        refine Rn.pu (T' := T98) (g' := (mkF m 188 #[iv p0, iv p1, iv p2, iv p3, iv p4, iv 2, rv l85, iv n, iv mk, rv a86, .unset, .unset] [(.ref l85), (.int (6 : Int32)), (.ref a86)])) ?_ fun _ zk => XS.aload H98.here hx rfl (hb hby at_186) rfl rfl zk
        refine Rn.pu (T' := T98) (g' := (mkF m 190 #[iv p0, iv p1, iv p2, iv p3, iv p4, iv 2, rv l85, iv n, iv mk, rv a86, .unset, .unset] [(.int mk), (.ref l85), (.int (6 : Int32)), (.ref a86)])) ?_ fun _ zk => XS.iload H98.here hx rfl (hb hby at_188) rfl zk
        refine Rn.pu (T' := T98) (g' := (mkF m 192 #[iv p0, iv p1, iv p2, iv p3, iv p4, iv 2, rv l85, iv n, iv mk, rv a86, .unset, .unset] [(.int (6 : Int32)), (.int mk), (.ref l85), (.int (6 : Int32)), (.ref a86)])) ?_ fun _ zk => XS.bipush H98.here hx rfl (hb hby at_190) zk
        refine Rn.pu (T' := T98) (g' := (mkF m 193 #[iv p0, iv p1, iv p2, iv p3, iv p4, iv 2, rv l85, iv n, iv mk, rv a86, .unset, .unset] [(.int p2), (.int (6 : Int32)), (.int mk), (.ref l85), (.int (6 : Int32)), (.ref a86)])) ?_ fun _ zk => XS.iloadN H98.here hx rfl (hb hby at_192) rfl zk
        refine Rn.pu (T' := T98) (g' := (mkF m 194 #[iv p0, iv p1, iv p2, iv p3, iv p4, iv 2, rv l85, iv n, iv mk, rv a86, .unset, .unset] [(.int p3), (.int p2), (.int (6 : Int32)), (.int mk), (.ref l85), (.int (6 : Int32)), (.ref a86)])) ?_ fun _ zk => XS.iloadN H98.here hx rfl (hb hby at_193) rfl zk
        refine Rn.pu (T' := T98) (g' := (mkF m 196 #[iv p0, iv p1, iv p2, iv p3, iv p4, iv 2, rv l85, iv n, iv mk, rv a86, .unset, .unset] [(.int p4), (.int p3), (.int p2), (.int (6 : Int32)), (.int mk), (.ref l85), (.int (6 : Int32)), (.ref a86)])) ?_ fun _ zk => XS.iload H98.here hx rfl (hb hby at_194) rfl zk
        obtain ⟨_, T99, h99, H99, ⟨r99, rfl, rr99, rfl⟩, -, st99⟩ := H98.callS (wd hw 22 rfl) (wd hw 23 rfl) (wd hw 24 rfl) (wd hw 25 rfl) (by decide) (MetN.pay (W := 2) (c_ch l B0 l85 u85 mk p2 p3 p4 [(100 : Int32), (105 : Int32), (115 : Int32), (97 : Int32), (98 : Int32), (108 : Int32), (101 : Int32), (100 : Int32)] 6 h98 H98.old (((((((S85.keep K86 nin0 nin0).keep K88 (ninS (adne (by omega)) nin0) (ninS (adne (by omega)) nin0)).keep K90 (ninS (adne (by omega)) nin0) (ninS (adne (by omega)) nin0)).keep K92 (ninS (adne (by omega)) nin0) (ninS (adne (by omega)) nin0)).keep K94 (ninS (adne (by omega)) nin0) (ninS (adne (by omega)) nin0)).keep K96 (ninS (adne (by omega)) nin0) (ninS (adne (by omega)) nin0)).keep K98 (ninS (adne (by omega)) nin0) (ninS (adne (by omega)) nin0)) (by decide) (by decide)) (wd hw 25 rfl) (wd hw 24 rfl) (by decide) (by decide)) (g := (mkF m 196 #[iv p0, iv p1, iv p2, iv p3, iv p4, iv 2, rv l85, iv n, iv mk, rv a86, .unset, .unset] [(.int p4), (.int p3), (.int p2), (.int (6 : Int32)), (.int mk), (.ref l85), (.int (6 : Int32)), (.ref a86)])) rfl (by rw [hml]; rfl) (argsL := [(.ref l85), (.int mk), (.int (6 : Int32)), (.int p2), (.int p3), (.int p4)]) (rest := [(.int (6 : Int32)), (.ref a86)]) (lenOf pd__Ljava_lang_String_IIIII_C rfl) rfl rfl (Nat.le_of_eq rfl) (hb hby at_196) (by decide) (by decide) all0
        refine Rn.pu (g' := (mkF m 199 #[iv p0, iv p1, iv p2, iv p3, iv p4, iv 2, rv l85, iv n, iv mk, rv a86, .unset, .unset] [(.int r99), (.int (6 : Int32)), (.ref a86)])) ?_ st99
        obtain ⟨T100, h100, H100, K100, A100, st100⟩ := H99.stC A98 (by decide) rfl (Or.inr (by omega)) (g := (mkF m 199 #[iv p0, iv p1, iv p2, iv p3, iv p4, iv 2, rv l85, iv n, iv mk, rv a86, .unset, .unset] [(.int r99), (.int (6 : Int32)), (.ref a86)])) rfl rfl (hb hby at_199)
        have zh100 := K100.1
        refine Rn.pu (g' := (mkF m 200 #[iv p0, iv p1, iv p2, iv p3, iv p4, iv 2, rv l85, iv n, iv mk, rv a86, .unset, .unset] [])) ?_ st100
        refine Rn.pu (T' := T100) (g' := (mkF m 202 #[iv p0, iv p1, iv p2, iv p3, iv p4, iv 2, rv l85, iv n, iv mk, rv a86, .unset, .unset] [(.ref a86)])) ?_ fun _ zk => XS.aload H100.here hx rfl (hb hby at_200) rfl rfl zk
        refine Rn.pu (T' := T100) (g' := (mkF m 204 #[iv p0, iv p1, iv p2, iv p3, iv p4, iv 2, rv l85, iv n, iv mk, rv a86, .unset, .unset] [(.int (7 : Int32)), (.ref a86)])) ?_ fun _ zk => XS.bipush H100.here hx rfl (hb hby at_202) zk
        refine Rn.pu (T' := T100) (g' := (mkF m 206 #[iv p0, iv p1, iv p2, iv p3, iv p4, iv 2, rv l85, iv n, iv mk, rv a86, .unset, .unset] [(.ref l85), (.int (7 : Int32)), (.ref a86)])) ?_ fun _ zk => XS.aload H100.here hx rfl (hb hby at_204) rfl rfl zk
        refine Rn.pu (T' := T100) (g' := (mkF m 208 #[iv p0, iv p1, iv p2, iv p3, iv p4, iv 2, rv l85, iv n, iv mk, rv a86, .unset, .unset] [(.int mk), (.ref l85), (.int (7 : Int32)), (.ref a86)])) ?_ fun _ zk => XS.iload H100.here hx rfl (hb hby at_206) rfl zk
        refine Rn.pu (T' := T100) (g' := (mkF m 210 #[iv p0, iv p1, iv p2, iv p3, iv p4, iv 2, rv l85, iv n, iv mk, rv a86, .unset, .unset] [(.int (7 : Int32)), (.int mk), (.ref l85), (.int (7 : Int32)), (.ref a86)])) ?_ fun _ zk => XS.bipush H100.here hx rfl (hb hby at_208) zk
        refine Rn.pu (T' := T100) (g' := (mkF m 211 #[iv p0, iv p1, iv p2, iv p3, iv p4, iv 2, rv l85, iv n, iv mk, rv a86, .unset, .unset] [(.int p2), (.int (7 : Int32)), (.int mk), (.ref l85), (.int (7 : Int32)), (.ref a86)])) ?_ fun _ zk => XS.iloadN H100.here hx rfl (hb hby at_210) rfl zk
        refine Rn.pu (T' := T100) (g' := (mkF m 212 #[iv p0, iv p1, iv p2, iv p3, iv p4, iv 2, rv l85, iv n, iv mk, rv a86, .unset, .unset] [(.int p3), (.int p2), (.int (7 : Int32)), (.int mk), (.ref l85), (.int (7 : Int32)), (.ref a86)])) ?_ fun _ zk => XS.iloadN H100.here hx rfl (hb hby at_211) rfl zk
        refine Rn.pu (T' := T100) (g' := (mkF m 214 #[iv p0, iv p1, iv p2, iv p3, iv p4, iv 2, rv l85, iv n, iv mk, rv a86, .unset, .unset] [(.int p4), (.int p3), (.int p2), (.int (7 : Int32)), (.int mk), (.ref l85), (.int (7 : Int32)), (.ref a86)])) ?_ fun _ zk => XS.iload H100.here hx rfl (hb hby at_212) rfl zk
        obtain ⟨_, T101, h101, H101, ⟨r101, rfl, rr101, rfl⟩, -, st101⟩ := H100.callS (wd hw 22 rfl) (wd hw 23 rfl) (wd hw 24 rfl) (wd hw 25 rfl) (by decide) (MetN.pay (W := 2) (c_ch l B0 l85 u85 mk p2 p3 p4 [(100 : Int32), (105 : Int32), (115 : Int32), (97 : Int32), (98 : Int32), (108 : Int32), (101 : Int32), (100 : Int32)] 7 h100 H100.old ((((((((S85.keep K86 nin0 nin0).keep K88 (ninS (adne (by omega)) nin0) (ninS (adne (by omega)) nin0)).keep K90 (ninS (adne (by omega)) nin0) (ninS (adne (by omega)) nin0)).keep K92 (ninS (adne (by omega)) nin0) (ninS (adne (by omega)) nin0)).keep K94 (ninS (adne (by omega)) nin0) (ninS (adne (by omega)) nin0)).keep K96 (ninS (adne (by omega)) nin0) (ninS (adne (by omega)) nin0)).keep K98 (ninS (adne (by omega)) nin0) (ninS (adne (by omega)) nin0)).keep K100 (ninS (adne (by omega)) nin0) (ninS (adne (by omega)) nin0)) (by decide) (by decide)) (wd hw 25 rfl) (wd hw 24 rfl) (by decide) (by decide)) (g := (mkF m 214 #[iv p0, iv p1, iv p2, iv p3, iv p4, iv 2, rv l85, iv n, iv mk, rv a86, .unset, .unset] [(.int p4), (.int p3), (.int p2), (.int (7 : Int32)), (.int mk), (.ref l85), (.int (7 : Int32)), (.ref a86)])) rfl (by rw [hml]; rfl) (argsL := [(.ref l85), (.int mk), (.int (7 : Int32)), (.int p2), (.int p3), (.int p4)]) (rest := [(.int (7 : Int32)), (.ref a86)]) (lenOf pd__Ljava_lang_String_IIIII_C rfl) rfl rfl (Nat.le_of_eq rfl) (hb hby at_214) (by decide) (by decide) all0
        refine Rn.pu (g' := (mkF m 217 #[iv p0, iv p1, iv p2, iv p3, iv p4, iv 2, rv l85, iv n, iv mk, rv a86, .unset, .unset] [(.int r101), (.int (7 : Int32)), (.ref a86)])) ?_ st101
        obtain ⟨T102, h102, H102, K102, A102, st102⟩ := H101.stC A100 (by decide) rfl (Or.inr (by omega)) (g := (mkF m 217 #[iv p0, iv p1, iv p2, iv p3, iv p4, iv 2, rv l85, iv n, iv mk, rv a86, .unset, .unset] [(.int r101), (.int (7 : Int32)), (.ref a86)])) rfl rfl (hb hby at_217)
        have zh102 := K102.1
        refine Rn.pu (g' := (mkF m 218 #[iv p0, iv p1, iv p2, iv p3, iv p4, iv 2, rv l85, iv n, iv mk, rv a86, .unset, .unset] [])) ?_ st102
        refine Rn.pu (T' := T102) (g' := (mkF m 220 #[iv p0, iv p1, iv p2, iv p3, iv p4, iv 2, rv l85, iv n, iv mk, rv a86, .unset, .unset] [(.ref a86)])) ?_ fun _ zk => XS.aload H102.here hx rfl (hb hby at_218) rfl rfl zk
        refine Rn.pu (T' := T102) (g' := (mkF m 222 #[iv p0, iv p1, iv p2, iv p3, iv p4, iv 2, rv l85, iv n, iv mk, rv a86, .unset, .unset] [(.int (8 : Int32)), (.ref a86)])) ?_ fun _ zk => XS.bipush H102.here hx rfl (hb hby at_220) zk
        refine Rn.pu (T' := T102) (g' := (mkF m 224 #[iv p0, iv p1, iv p2, iv p3, iv p4, iv 2, rv l85, iv n, iv mk, rv a86, .unset, .unset] [(.ref l85), (.int (8 : Int32)), (.ref a86)])) ?_ fun _ zk => XS.aload H102.here hx rfl (hb hby at_222) rfl rfl zk
        refine Rn.pu (T' := T102) (g' := (mkF m 226 #[iv p0, iv p1, iv p2, iv p3, iv p4, iv 2, rv l85, iv n, iv mk, rv a86, .unset, .unset] [(.int mk), (.ref l85), (.int (8 : Int32)), (.ref a86)])) ?_ fun _ zk => XS.iload H102.here hx rfl (hb hby at_224) rfl zk
        refine Rn.pu (T' := T102) (g' := (mkF m 228 #[iv p0, iv p1, iv p2, iv p3, iv p4, iv 2, rv l85, iv n, iv mk, rv a86, .unset, .unset] [(.int (8 : Int32)), (.int mk), (.ref l85), (.int (8 : Int32)), (.ref a86)])) ?_ fun _ zk => XS.bipush H102.here hx rfl (hb hby at_226) zk
        refine Rn.pu (T' := T102) (g' := (mkF m 229 #[iv p0, iv p1, iv p2, iv p3, iv p4, iv 2, rv l85, iv n, iv mk, rv a86, .unset, .unset] [(.int p2), (.int (8 : Int32)), (.int mk), (.ref l85), (.int (8 : Int32)), (.ref a86)])) ?_ fun _ zk => XS.iloadN H102.here hx rfl (hb hby at_228) rfl zk
        refine Rn.pu (T' := T102) (g' := (mkF m 230 #[iv p0, iv p1, iv p2, iv p3, iv p4, iv 2, rv l85, iv n, iv mk, rv a86, .unset, .unset] [(.int p3), (.int p2), (.int (8 : Int32)), (.int mk), (.ref l85), (.int (8 : Int32)), (.ref a86)])) ?_ fun _ zk => XS.iloadN H102.here hx rfl (hb hby at_229) rfl zk
        refine Rn.pu (T' := T102) (g' := (mkF m 232 #[iv p0, iv p1, iv p2, iv p3, iv p4, iv 2, rv l85, iv n, iv mk, rv a86, .unset, .unset] [(.int p4), (.int p3), (.int p2), (.int (8 : Int32)), (.int mk), (.ref l85), (.int (8 : Int32)), (.ref a86)])) ?_ fun _ zk => XS.iload H102.here hx rfl (hb hby at_230) rfl zk
        obtain ⟨_, T103, h103, H103, ⟨r103, rfl, rr103, rfl⟩, -, st103⟩ := H102.callS (wd hw 22 rfl) (wd hw 23 rfl) (wd hw 24 rfl) (wd hw 25 rfl) (by decide) (MetN.pay (W := 2) (c_ch l B0 l85 u85 mk p2 p3 p4 [(100 : Int32), (105 : Int32), (115 : Int32), (97 : Int32), (98 : Int32), (108 : Int32), (101 : Int32), (100 : Int32)] 8 h102 H102.old (((((((((S85.keep K86 nin0 nin0).keep K88 (ninS (adne (by omega)) nin0) (ninS (adne (by omega)) nin0)).keep K90 (ninS (adne (by omega)) nin0) (ninS (adne (by omega)) nin0)).keep K92 (ninS (adne (by omega)) nin0) (ninS (adne (by omega)) nin0)).keep K94 (ninS (adne (by omega)) nin0) (ninS (adne (by omega)) nin0)).keep K96 (ninS (adne (by omega)) nin0) (ninS (adne (by omega)) nin0)).keep K98 (ninS (adne (by omega)) nin0) (ninS (adne (by omega)) nin0)).keep K100 (ninS (adne (by omega)) nin0) (ninS (adne (by omega)) nin0)).keep K102 (ninS (adne (by omega)) nin0) (ninS (adne (by omega)) nin0)) (by decide) (by decide)) (wd hw 25 rfl) (wd hw 24 rfl) (by decide) (by decide)) (g := (mkF m 232 #[iv p0, iv p1, iv p2, iv p3, iv p4, iv 2, rv l85, iv n, iv mk, rv a86, .unset, .unset] [(.int p4), (.int p3), (.int p2), (.int (8 : Int32)), (.int mk), (.ref l85), (.int (8 : Int32)), (.ref a86)])) rfl (by rw [hml]; rfl) (argsL := [(.ref l85), (.int mk), (.int (8 : Int32)), (.int p2), (.int p3), (.int p4)]) (rest := [(.int (8 : Int32)), (.ref a86)]) (lenOf pd__Ljava_lang_String_IIIII_C rfl) rfl rfl (Nat.le_of_eq rfl) (hb hby at_232) (by decide) (by decide) all0
        refine Rn.pu (g' := (mkF m 235 #[iv p0, iv p1, iv p2, iv p3, iv p4, iv 2, rv l85, iv n, iv mk, rv a86, .unset, .unset] [(.int r103), (.int (8 : Int32)), (.ref a86)])) ?_ st103
        obtain ⟨T104, h104, H104, K104, A104, st104⟩ := H103.stC A102 (by decide) rfl (Or.inr (by omega)) (g := (mkF m 235 #[iv p0, iv p1, iv p2, iv p3, iv p4, iv 2, rv l85, iv n, iv mk, rv a86, .unset, .unset] [(.int r103), (.int (8 : Int32)), (.ref a86)])) rfl rfl (hb hby at_235)
        have zh104 := K104.1
        refine Rn.pu (g' := (mkF m 236 #[iv p0, iv p1, iv p2, iv p3, iv p4, iv 2, rv l85, iv n, iv mk, rv a86, .unset, .unset] [])) ?_ st104
        refine Rn.pu (T' := T104) (g' := (mkF m 238 #[iv p0, iv p1, iv p2, iv p3, iv p4, iv 2, rv l85, iv n, iv mk, rv a86, .unset, .unset] [(.ref a86)])) ?_ fun _ zk => XS.aload H104.here hx rfl (hb hby at_236) rfl rfl zk
        refine Rn.pu (T' := T104) (g' := (mkF m 240 #[iv p0, iv p1, iv p2, iv p3, iv p4, iv 2, rv l85, iv n, iv mk, rv a86, .unset, .unset] [(.int n), (.ref a86)])) ?_ fun _ zk => XS.iload H104.here hx rfl (hb hby at_238) rfl zk
        obtain ⟨_, T105, h105, H105, ⟨V105, m105, t105, c105, rfl, S105, ga105, la105, lt105⟩, K105, st105⟩ := H104.callSW (wd hw 48 rfl) (wd hw 49 rfl) (wd hw 24 rfl) (wd hw 50 rfl) (by decide) (MetW.pay (W := 0) (c_cut l B0 ["disabled"] (fun vm => Lv Z "com/example/calm_inbox/calminbox/webhook/WebhookStatusFromWireNamePinLaw" 11 l85 vm ∧ Z.Warmed39 vm) (fun U vm1 hW q => ⟨q.1.stab hW, w39_stab U vm1 hW q.2⟩) a86 k86 (.int 0) n (nar .char r87) (nar .char r89) (nar .char r91) (nar .char r93) (nar .char r95) (nar .char r97) (nar .char r99) (nar .char r101) (nar .char r103) h104 H104.old yJ63 A104 (lat_nar rr87) (lat_nar rr89) (lat_nar rr91) (lat_nar rr93) (lat_nar rr95) (lat_nar rr97) (lat_nar rr99) (lat_nar rr101) (lat_nar rr103)) (wd hw 50 rfl) (wd hw 24 rfl) (by decide) (by decide)) (g := (mkF m 240 #[iv p0, iv p1, iv p2, iv p3, iv p4, iv 2, rv l85, iv n, iv mk, rv a86, .unset, .unset] [(.int n), (.ref a86)])) rfl (by rw [hml]; rfl) (argsL := [(.ref a86), (.int n)]) (rest := []) (lenOf pd__ACI_Ljava_lang_String_ rfl) rfl rfl (Nat.le_of_eq rfl) (hb hby at_240) (by decide) (by decide) all0 (fun U vm1 hV hW => ⟨⟨hV.2.1.stab hW.wide, w39_stab U vm1 hW.wide hV.2.2⟩, ib_sub (ib_stab hW hV.1) (by simp), CH.start hh7 (wd hw 108 rfl) (hws_sa hw) hcw (w39_stab U vm1 hW.wide hV.2.2) (ib_stab hW hV.1) (by decide) H104.old⟩)
        have zh105 := K105.1
        have H105 := H105.reV (V' := (fun vm => ((fun vm => Lv Z "com/example/calm_inbox/calminbox/webhook/WebhookStatusFromWireNamePinLaw" 11 l85 vm ∧ Z.Warmed39 vm)) vm ∧ IB Z vm ("" :: ["disabled"]))) (fun v hv => by rw [hv]; exact V105)
        refine Rn.pu (g' := (mkF m 243 #[iv p0, iv p1, iv p2, iv p3, iv p4, iv 2, rv l85, iv n, iv mk, rv a86, .unset, .unset] [(.ref m105)])) ?_ st105
        refine Rn.pu (T' := T105) (g' := (mkF m 245 #[iv p0, iv p1, iv p2, iv p3, iv p4, iv 2, rv l85, iv n, iv mk, rv a86, rv m105, .unset] [])) ?_ fun _ zk => XS.astore H105.here hx rfl (hb hby at_243) rfl rfl (l' := #[iv p0, iv p1, iv p2, iv p3, iv p4, iv 2, rv l85, iv n, iv mk, rv a86, rv m105, .unset]) rfl zk
        refine Rn.pu (T' := T105) (g' := (mkF m 247 #[iv p0, iv p1, iv p2, iv p3, iv p4, iv 2, rv l85, iv n, iv mk, rv a86, rv m105, .unset] [(.ref m105)])) ?_ fun _ zk => XS.aload H105.here hx rfl (hb hby at_245) rfl rfl zk
        obtain ⟨l106, u106, T106, h106, H106, K106, S106, st106⟩ := H105.ldcV (Ts := "" :: ["disabled"]) (P := (fun vm => Lv Z "com/example/calm_inbox/calminbox/webhook/WebhookStatusFromWireNamePinLaw" 11 l85 vm ∧ Z.Warmed39 vm)) (fun _ q => ⟨q.2, q.1⟩) (fun U vm1 hW q => ⟨q.1.stab hW, w39_stab U vm1 hW q.2⟩) (wd hw 0 rfl) (hws_sa hw) (by simp) hhA hcw (cs := [(97 : Int32), (99 : Int32), (116 : Int32), (105 : Int32), (118 : Int32), (101 : Int32)]) (by decide) (by decide) (by decide) (by decide) (g := (mkF m 247 #[iv p0, iv p1, iv p2, iv p3, iv p4, iv 2, rv l85, iv n, iv mk, rv a86, rv m105, .unset] [(.ref m105)])) rfl (hb hby at_247) (n := 24) (by decide) (by decide) (by decide) (by decide)
        have zh106 := K106.1
        have H106 := H106.reV (V' := (fun vm => ((fun vm => Lv Z "com/example/calm_inbox/calminbox/webhook/WebhookStatusFromWireNamePinLaw" 7 l106 vm ∧ Lv Z "com/example/calm_inbox/calminbox/webhook/WebhookStatusFromWireNamePinLaw" 11 l85 vm ∧ Z.Warmed39 vm)) vm ∧ IB Z vm ("active" :: "" :: ["disabled"]))) (fun _ q => ⟨⟨q.2.1, q.2.2⟩, q.1⟩)
        have l106a := natlt (S106).lt
        have l106t := natlt (S106).ltt
        refine Rn.pu (g' := (mkF m 249 #[iv p0, iv p1, iv p2, iv p3, iv p4, iv 2, rv l85, iv n, iv mk, rv a86, rv m105, .unset] [(.ref l106), (.ref m105)])) ?_ st106
        by_cases q249_107 : c105 = [(97 : Int32), (99 : Int32), (116 : Int32), (105 : Int32), (118 : Int32), (101 : Int32)]
        ·
          obtain ⟨_, T108, h108, H108, ⟨rfl, rfl⟩, -, st108⟩ := H106.callV (C := "java/lang/String") (wd hw 72 rfl) (wd hw 73 rfl) (wd hw 75 rfl) (wd hw 74 rfl) (by decide) (payEqY (W := 0) q249_107 (hws_eq hw) (wd hw 2 rfl) (S105.keep K106 nin0 nin0) S106 (SC0.ext H106.old) hz0 (by decide) (by decide)) (S105.keep K106 nin0 nin0).exa (g := (mkF m 249 #[iv p0, iv p1, iv p2, iv p3, iv p4, iv 2, rv l85, iv n, iv mk, rv a86, rv m105, .unset] [(.ref l106), (.ref m105)])) rfl (by rw [hml]; rfl) (argsL := [(.ref l106)]) (rest := []) (lenOf pd__Ljava_lang_Object__Z rfl) rfl rfl (Nat.le_of_eq rfl) (hb hby at_249) (by decide) (by decide) all0
          refine Rn.pu (g' := (mkF m 252 #[iv p0, iv p1, iv p2, iv p3, iv p4, iv 2, rv l85, iv n, iv mk, rv a86, rv m105, .unset] [(.int (1 : Int32))])) ?_ st108
          refine Rn.pu (T' := T108) (g' := (mkF m 255 #[iv p0, iv p1, iv p2, iv p3, iv p4, iv 2, rv l85, iv n, iv mk, rv a86, rv m105, .unset] [])) ?_ fun _ zk => XS.ifNo H108.here hx rfl (hb hby at_252) rfl (z_eq_f (by decide)) zk
          obtain ⟨T109, H109, st109⟩ := H108.getS (host := "") (Or.inl (wd hw 81 rfl)) Via.refl (SaA.ext H108.old) (g := (mkF m 255 #[iv p0, iv p1, iv p2, iv p3, iv p4, iv 2, rv l85, iv n, iv mk, rv a86, rv m105, .unset] [])) rfl (hb hby at_255)
          refine Rn.pu (g' := (mkF m 258 #[iv p0, iv p1, iv p2, iv p3, iv p4, iv 2, rv l85, iv n, iv mk, rv a86, rv m105, .unset] [(.ref aA)])) ?_ st109
          refine Rn.pu (T' := T109) (g' := (mkF m 294 #[iv p0, iv p1, iv p2, iv p3, iv p4, iv 2, rv l85, iv n, iv mk, rv a86, rv m105, .unset] [(.ref aA)])) ?_ fun _ zk => XS.goto H109.here hx rfl (pc0 := 258) (pc' := 294) rfl (hb hby at_258) (by decide) (by decide) zk
          refine Rn.pu (T' := T109) (g' := (mkF m 296 #[iv p0, iv p1, iv p2, iv p3, iv p4, iv 2, rv l85, iv n, iv mk, rv a86, rv m105, rv aA] [])) ?_ fun _ zk => XS.astore H109.here hx rfl (hb hby at_294) rfl rfl (l' := #[iv p0, iv p1, iv p2, iv p3, iv p4, iv 2, rv l85, iv n, iv mk, rv a86, rv m105, rv aA]) rfl zk
          refine Rn.pu (T' := T109) (g' := (mkF m 298 #[iv p0, iv p1, iv p2, iv p3, iv p4, iv 2, rv l85, iv n, iv mk, rv a86, rv m105, rv aA] [(.ref m105)])) ?_ fun _ zk => XS.aload H109.here hx rfl (hb hby at_296) rfl rfl zk
          obtain ⟨_, T110, h110, H110, rfl, K110, st110⟩ := H109.callS (wd hw 84 rfl) (wd hw 85 rfl) (wd hw 82 rfl) (wd hw 86 rfl) (by decide) (MetN.pay (W := 0) (c_fw0 l B0 m105 t105 (c105) h106 H109.old (S105.keep K106 nin0 nin0) q249_107.symm) (wd hw 86 rfl) (wd hw 82 rfl) (by decide) (by decide)) (g := (mkF m 298 #[iv p0, iv p1, iv p2, iv p3, iv p4, iv 2, rv l85, iv n, iv mk, rv a86, rv m105, rv aA] [(.ref m105)])) rfl (by rw [hml]; rfl) (argsL := [(.ref m105)]) (rest := []) (lenOf pd__Ljava_lang_String__Lcom_example_calm_inbox_calminbox_webhook_WebhookStatus_ rfl) rfl rfl (Nat.le_of_eq rfl) (hb hby at_298) (by decide) (by decide) all0
          have zh110 := K110.1
          refine Rn.pu (g' := (mkF m 301 #[iv p0, iv p1, iv p2, iv p3, iv p4, iv 2, rv l85, iv n, iv mk, rv a86, rv m105, rv aA] [(.ref aA)])) ?_ st110
          refine Rn.pu (T' := T110) (g' := (mkF m 303 #[iv p0, iv p1, iv p2, iv p3, iv p4, iv 2, rv l85, iv n, iv mk, rv a86, rv m105, rv aA] [(.ref aA), (.ref aA)])) ?_ fun _ zk => XS.aload H110.here hx rfl (hb hby at_301) rfl rfl zk
          refine Rn.pu (T' := T110) (g' := (mkF m 306 #[iv p0, iv p1, iv p2, iv p3, iv p4, iv 2, rv l85, iv n, iv mk, rv a86, rv m105, rv aA] [])) ?_ fun _ zk => XT.acmpNo H110.here hx rfl (hb hby at_303) rfl rfl rfl (ac_ne_f rfl) zk
          refine Rn.pu (T' := T110) (g' := (mkF m 307 #[iv p0, iv p1, iv p2, iv p3, iv p4, iv 2, rv l85, iv n, iv mk, rv a86, rv m105, rv aA] [(.int (1 : Int32))])) ?_ fun _ zk => XS.iconst H110.here hx rfl (hb hby at_306) zk
          refine Rn.pu (T' := T110) (g' := (mkF m 311 #[iv p0, iv p1, iv p2, iv p3, iv p4, iv 2, rv l85, iv n, iv mk, rv a86, rv m105, rv aA] [(.int (1 : Int32))])) ?_ fun _ zk => XS.goto H110.here hx rfl (pc0 := 307) (pc' := 311) rfl (hb hby at_307) (by decide) (by decide) zk
          exact H110.retS ends_W hlk (t := .boolean) hret (by simp) (hb hby at_311) (by decide) (by decide) (fun _ q => nomatch q) rfl
        ·
          obtain ⟨_, T111, h111, H111, ⟨rfl, rfl⟩, -, st111⟩ := H106.callV (C := "java/lang/String") (wd hw 72 rfl) (wd hw 73 rfl) (wd hw 75 rfl) (wd hw 74 rfl) (by decide) (payEqN (W := 0) q249_107 (hws_eq hw) (wd hw 2 rfl) (S105.keep K106 nin0 nin0) S106 (SC0.ext H106.old) hz0 (by decide) (by decide)) (S105.keep K106 nin0 nin0).exa (g := (mkF m 249 #[iv p0, iv p1, iv p2, iv p3, iv p4, iv 2, rv l85, iv n, iv mk, rv a86, rv m105, .unset] [(.ref l106), (.ref m105)])) rfl (by rw [hml]; rfl) (argsL := [(.ref l106)]) (rest := []) (lenOf pd__Ljava_lang_Object__Z rfl) rfl rfl (Nat.le_of_eq rfl) (hb hby at_249) (by decide) (by decide) all0
          refine Rn.pu (g' := (mkF m 252 #[iv p0, iv p1, iv p2, iv p3, iv p4, iv 2, rv l85, iv n, iv mk, rv a86, rv m105, .unset] [(.int (0 : Int32))])) ?_ st111
          refine Rn.pu (T' := T111) (g' := (mkF m 261 #[iv p0, iv p1, iv p2, iv p3, iv p4, iv 2, rv l85, iv n, iv mk, rv a86, rv m105, .unset] [])) ?_ fun _ zk => XS.ifYes H111.here hx rfl (pc0 := 252) (pc' := 261) rfl (hb hby at_252) rfl (z_eq_t rfl) (by decide) (by decide) zk
          refine Rn.pu (T' := T111) (g' := (mkF m 263 #[iv p0, iv p1, iv p2, iv p3, iv p4, iv 2, rv l85, iv n, iv mk, rv a86, rv m105, .unset] [(.ref m105)])) ?_ fun _ zk => XS.aload H111.here hx rfl (hb hby at_261) rfl rfl zk
          obtain ⟨l112, u112, T112, h112, H112, K112, S112, st112⟩ := H111.ldcV (Ts := "active" :: "" :: ["disabled"]) (P := (fun vm => Lv Z "com/example/calm_inbox/calminbox/webhook/WebhookStatusFromWireNamePinLaw" 7 l106 vm ∧ Lv Z "com/example/calm_inbox/calminbox/webhook/WebhookStatusFromWireNamePinLaw" 11 l85 vm ∧ Z.Warmed39 vm)) (fun _ q => ⟨q.2, q.1⟩) (fun U vm1 hW q => ⟨q.1.stab hW, q.2.1.stab hW, w39_stab U vm1 hW q.2.2⟩) (wd hw 109 rfl) (hws_sa hw) (by simp) hhF hcw (cs := [(102 : Int32), (97 : Int32), (105 : Int32), (108 : Int32), (105 : Int32), (110 : Int32), (103 : Int32)]) (by decide) (by decide) (by decide) (by decide) (g := (mkF m 263 #[iv p0, iv p1, iv p2, iv p3, iv p4, iv 2, rv l85, iv n, iv mk, rv a86, rv m105, .unset] [(.ref m105)])) rfl (hb hby at_263) (n := 28) (by decide) (by decide) (by decide) (by decide)
          have zh112 := K112.1
          have H112 := H112.reV (V' := (fun vm => ((fun vm => Lv Z "com/example/calm_inbox/calminbox/webhook/WebhookStatusFromWireNamePinLaw" 9 l112 vm ∧ Lv Z "com/example/calm_inbox/calminbox/webhook/WebhookStatusFromWireNamePinLaw" 7 l106 vm ∧ Lv Z "com/example/calm_inbox/calminbox/webhook/WebhookStatusFromWireNamePinLaw" 11 l85 vm ∧ Z.Warmed39 vm)) vm ∧ IB Z vm ("failing" :: "active" :: "" :: ["disabled"]))) (fun _ q => ⟨⟨q.2.1, q.2.2⟩, q.1⟩)
          have l112a := natlt (S112).lt
          have l112t := natlt (S112).ltt
          refine Rn.pu (g' := (mkF m 265 #[iv p0, iv p1, iv p2, iv p3, iv p4, iv 2, rv l85, iv n, iv mk, rv a86, rv m105, .unset] [(.ref l112), (.ref m105)])) ?_ st112
          by_cases q265_113 : c105 = [(102 : Int32), (97 : Int32), (105 : Int32), (108 : Int32), (105 : Int32), (110 : Int32), (103 : Int32)]
          ·
            obtain ⟨_, T114, h114, H114, ⟨rfl, rfl⟩, -, st114⟩ := H112.callV (C := "java/lang/String") (wd hw 72 rfl) (wd hw 73 rfl) (wd hw 75 rfl) (wd hw 74 rfl) (by decide) (payEqY (W := 0) q265_113 (hws_eq hw) (wd hw 2 rfl) ((S105.keep K106 nin0 nin0).keep K112 nin0 nin0) S112 (SC0.ext H112.old) hz0 (by decide) (by decide)) ((S105.keep K106 nin0 nin0).keep K112 nin0 nin0).exa (g := (mkF m 265 #[iv p0, iv p1, iv p2, iv p3, iv p4, iv 2, rv l85, iv n, iv mk, rv a86, rv m105, .unset] [(.ref l112), (.ref m105)])) rfl (by rw [hml]; rfl) (argsL := [(.ref l112)]) (rest := []) (lenOf pd__Ljava_lang_Object__Z rfl) rfl rfl (Nat.le_of_eq rfl) (hb hby at_265) (by decide) (by decide) all0
            refine Rn.pu (g' := (mkF m 268 #[iv p0, iv p1, iv p2, iv p3, iv p4, iv 2, rv l85, iv n, iv mk, rv a86, rv m105, .unset] [(.int (1 : Int32))])) ?_ st114
            refine Rn.pu (T' := T114) (g' := (mkF m 271 #[iv p0, iv p1, iv p2, iv p3, iv p4, iv 2, rv l85, iv n, iv mk, rv a86, rv m105, .unset] [])) ?_ fun _ zk => XS.ifNo H114.here hx rfl (hb hby at_268) rfl (z_eq_f (by decide)) zk
            obtain ⟨T115, H115, st115⟩ := H114.getS (host := "") (Or.inl (wd hw 112 rfl)) Via.refl (SaF.ext H114.old) (g := (mkF m 271 #[iv p0, iv p1, iv p2, iv p3, iv p4, iv 2, rv l85, iv n, iv mk, rv a86, rv m105, .unset] [])) rfl (hb hby at_271)
            refine Rn.pu (g' := (mkF m 274 #[iv p0, iv p1, iv p2, iv p3, iv p4, iv 2, rv l85, iv n, iv mk, rv a86, rv m105, .unset] [(.ref aF)])) ?_ st115
            refine Rn.pu (T' := T115) (g' := (mkF m 294 #[iv p0, iv p1, iv p2, iv p3, iv p4, iv 2, rv l85, iv n, iv mk, rv a86, rv m105, .unset] [(.ref aF)])) ?_ fun _ zk => XS.goto H115.here hx rfl (pc0 := 274) (pc' := 294) rfl (hb hby at_274) (by decide) (by decide) zk
            refine Rn.pu (T' := T115) (g' := (mkF m 296 #[iv p0, iv p1, iv p2, iv p3, iv p4, iv 2, rv l85, iv n, iv mk, rv a86, rv m105, rv aF] [])) ?_ fun _ zk => XS.astore H115.here hx rfl (hb hby at_294) rfl rfl (l' := #[iv p0, iv p1, iv p2, iv p3, iv p4, iv 2, rv l85, iv n, iv mk, rv a86, rv m105, rv aF]) rfl zk
            refine Rn.pu (T' := T115) (g' := (mkF m 298 #[iv p0, iv p1, iv p2, iv p3, iv p4, iv 2, rv l85, iv n, iv mk, rv a86, rv m105, rv aF] [(.ref m105)])) ?_ fun _ zk => XS.aload H115.here hx rfl (hb hby at_296) rfl rfl zk
            obtain ⟨_, T116, h116, H116, rfl, K116, st116⟩ := H115.callS (wd hw 84 rfl) (wd hw 85 rfl) (wd hw 82 rfl) (wd hw 86 rfl) (by decide) (MetN.pay (W := 0) (c_fw1 l B0 m105 t105 (c105) h112 H115.old ((S105.keep K106 nin0 nin0).keep K112 nin0 nin0) (fun r => q249_107 r.symm) q265_113.symm) (wd hw 86 rfl) (wd hw 82 rfl) (by decide) (by decide)) (g := (mkF m 298 #[iv p0, iv p1, iv p2, iv p3, iv p4, iv 2, rv l85, iv n, iv mk, rv a86, rv m105, rv aF] [(.ref m105)])) rfl (by rw [hml]; rfl) (argsL := [(.ref m105)]) (rest := []) (lenOf pd__Ljava_lang_String__Lcom_example_calm_inbox_calminbox_webhook_WebhookStatus_ rfl) rfl rfl (Nat.le_of_eq rfl) (hb hby at_298) (by decide) (by decide) all0
            have zh116 := K116.1
            refine Rn.pu (g' := (mkF m 301 #[iv p0, iv p1, iv p2, iv p3, iv p4, iv 2, rv l85, iv n, iv mk, rv a86, rv m105, rv aF] [(.ref aF)])) ?_ st116
            refine Rn.pu (T' := T116) (g' := (mkF m 303 #[iv p0, iv p1, iv p2, iv p3, iv p4, iv 2, rv l85, iv n, iv mk, rv a86, rv m105, rv aF] [(.ref aF), (.ref aF)])) ?_ fun _ zk => XS.aload H116.here hx rfl (hb hby at_301) rfl rfl zk
            refine Rn.pu (T' := T116) (g' := (mkF m 306 #[iv p0, iv p1, iv p2, iv p3, iv p4, iv 2, rv l85, iv n, iv mk, rv a86, rv m105, rv aF] [])) ?_ fun _ zk => XT.acmpNo H116.here hx rfl (hb hby at_303) rfl rfl rfl (ac_ne_f rfl) zk
            refine Rn.pu (T' := T116) (g' := (mkF m 307 #[iv p0, iv p1, iv p2, iv p3, iv p4, iv 2, rv l85, iv n, iv mk, rv a86, rv m105, rv aF] [(.int (1 : Int32))])) ?_ fun _ zk => XS.iconst H116.here hx rfl (hb hby at_306) zk
            refine Rn.pu (T' := T116) (g' := (mkF m 311 #[iv p0, iv p1, iv p2, iv p3, iv p4, iv 2, rv l85, iv n, iv mk, rv a86, rv m105, rv aF] [(.int (1 : Int32))])) ?_ fun _ zk => XS.goto H116.here hx rfl (pc0 := 307) (pc' := 311) rfl (hb hby at_307) (by decide) (by decide) zk
            exact H116.retS ends_W hlk (t := .boolean) hret (by simp) (hb hby at_311) (by decide) (by decide) (fun _ q => nomatch q) rfl
          ·
            obtain ⟨_, T117, h117, H117, ⟨rfl, rfl⟩, -, st117⟩ := H112.callV (C := "java/lang/String") (wd hw 72 rfl) (wd hw 73 rfl) (wd hw 75 rfl) (wd hw 74 rfl) (by decide) (payEqN (W := 0) q265_113 (hws_eq hw) (wd hw 2 rfl) ((S105.keep K106 nin0 nin0).keep K112 nin0 nin0) S112 (SC0.ext H112.old) hz0 (by decide) (by decide)) ((S105.keep K106 nin0 nin0).keep K112 nin0 nin0).exa (g := (mkF m 265 #[iv p0, iv p1, iv p2, iv p3, iv p4, iv 2, rv l85, iv n, iv mk, rv a86, rv m105, .unset] [(.ref l112), (.ref m105)])) rfl (by rw [hml]; rfl) (argsL := [(.ref l112)]) (rest := []) (lenOf pd__Ljava_lang_Object__Z rfl) rfl rfl (Nat.le_of_eq rfl) (hb hby at_265) (by decide) (by decide) all0
            refine Rn.pu (g' := (mkF m 268 #[iv p0, iv p1, iv p2, iv p3, iv p4, iv 2, rv l85, iv n, iv mk, rv a86, rv m105, .unset] [(.int (0 : Int32))])) ?_ st117
            refine Rn.pu (T' := T117) (g' := (mkF m 277 #[iv p0, iv p1, iv p2, iv p3, iv p4, iv 2, rv l85, iv n, iv mk, rv a86, rv m105, .unset] [])) ?_ fun _ zk => XS.ifYes H117.here hx rfl (pc0 := 268) (pc' := 277) rfl (hb hby at_268) rfl (z_eq_t rfl) (by decide) (by decide) zk
            refine Rn.pu (T' := T117) (g' := (mkF m 279 #[iv p0, iv p1, iv p2, iv p3, iv p4, iv 2, rv l85, iv n, iv mk, rv a86, rv m105, .unset] [(.ref m105)])) ?_ fun _ zk => XS.aload H117.here hx rfl (hb hby at_277) rfl rfl zk
            refine Rn.pu (g' := (mkF m 281 #[iv p0, iv p1, iv p2, iv p3, iv p4, iv 2, rv l85, iv n, iv mk, rv a86, rv m105, .unset] [(.ref l85), (.ref m105)])) ?_ (H117.ldcA (a := l85) (fun _ q => q.1.2.2.1) (wd hw 110 rfl) (g := (mkF m 279 #[iv p0, iv p1, iv p2, iv p3, iv p4, iv 2, rv l85, iv n, iv mk, rv a86, rv m105, .unset] [(.ref m105)])) rfl (hb hby at_279))
            by_cases q281_118 : c105 = [(100 : Int32), (105 : Int32), (115 : Int32), (97 : Int32), (98 : Int32), (108 : Int32), (101 : Int32), (100 : Int32)]
            ·
              obtain ⟨_, T119, h119, H119, ⟨rfl, rfl⟩, -, st119⟩ := H117.callV (C := "java/lang/String") (wd hw 72 rfl) (wd hw 73 rfl) (wd hw 75 rfl) (wd hw 74 rfl) (by decide) (payEqY (W := 0) q281_118 (hws_eq hw) (wd hw 2 rfl) ((S105.keep K106 nin0 nin0).keep K112 nin0 nin0) (((((((((((((S85.keep K86 nin0 nin0).keep K88 (ninS (adne (by omega)) nin0) (ninS (adne (by omega)) nin0)).keep K90 (ninS (adne (by omega)) nin0) (ninS (adne (by omega)) nin0)).keep K92 (ninS (adne (by omega)) nin0) (ninS (adne (by omega)) nin0)).keep K94 (ninS (adne (by omega)) nin0) (ninS (adne (by omega)) nin0)).keep K96 (ninS (adne (by omega)) nin0) (ninS (adne (by omega)) nin0)).keep K98 (ninS (adne (by omega)) nin0) (ninS (adne (by omega)) nin0)).keep K100 (ninS (adne (by omega)) nin0) (ninS (adne (by omega)) nin0)).keep K102 (ninS (adne (by omega)) nin0) (ninS (adne (by omega)) nin0)).keep K104 (ninS (adne (by omega)) nin0) (ninS (adne (by omega)) nin0)).keep K105 nin0 nin0).keep K106 nin0 nin0).keep K112 nin0 nin0) (SC0.ext H117.old) hz0 (by decide) (by decide)) ((S105.keep K106 nin0 nin0).keep K112 nin0 nin0).exa (g := (mkF m 281 #[iv p0, iv p1, iv p2, iv p3, iv p4, iv 2, rv l85, iv n, iv mk, rv a86, rv m105, .unset] [(.ref l85), (.ref m105)])) rfl (by rw [hml]; rfl) (argsL := [(.ref l85)]) (rest := []) (lenOf pd__Ljava_lang_Object__Z rfl) rfl rfl (Nat.le_of_eq rfl) (hb hby at_281) (by decide) (by decide) all0
              refine Rn.pu (g' := (mkF m 284 #[iv p0, iv p1, iv p2, iv p3, iv p4, iv 2, rv l85, iv n, iv mk, rv a86, rv m105, .unset] [(.int (1 : Int32))])) ?_ st119
              refine Rn.pu (T' := T119) (g' := (mkF m 287 #[iv p0, iv p1, iv p2, iv p3, iv p4, iv 2, rv l85, iv n, iv mk, rv a86, rv m105, .unset] [])) ?_ fun _ zk => XS.ifNo H119.here hx rfl (hb hby at_284) rfl (z_eq_f (by decide)) zk
              obtain ⟨T120, H120, st120⟩ := H119.getS (host := "") (Or.inl (wd hw 111 rfl)) Via.refl (SaD.ext H119.old) (g := (mkF m 287 #[iv p0, iv p1, iv p2, iv p3, iv p4, iv 2, rv l85, iv n, iv mk, rv a86, rv m105, .unset] [])) rfl (hb hby at_287)
              refine Rn.pu (g' := (mkF m 290 #[iv p0, iv p1, iv p2, iv p3, iv p4, iv 2, rv l85, iv n, iv mk, rv a86, rv m105, .unset] [(.ref aD)])) ?_ st120
              refine Rn.pu (T' := T120) (g' := (mkF m 294 #[iv p0, iv p1, iv p2, iv p3, iv p4, iv 2, rv l85, iv n, iv mk, rv a86, rv m105, .unset] [(.ref aD)])) ?_ fun _ zk => XS.goto H120.here hx rfl (pc0 := 290) (pc' := 294) rfl (hb hby at_290) (by decide) (by decide) zk
              refine Rn.pu (T' := T120) (g' := (mkF m 296 #[iv p0, iv p1, iv p2, iv p3, iv p4, iv 2, rv l85, iv n, iv mk, rv a86, rv m105, rv aD] [])) ?_ fun _ zk => XS.astore H120.here hx rfl (hb hby at_294) rfl rfl (l' := #[iv p0, iv p1, iv p2, iv p3, iv p4, iv 2, rv l85, iv n, iv mk, rv a86, rv m105, rv aD]) rfl zk
              refine Rn.pu (T' := T120) (g' := (mkF m 298 #[iv p0, iv p1, iv p2, iv p3, iv p4, iv 2, rv l85, iv n, iv mk, rv a86, rv m105, rv aD] [(.ref m105)])) ?_ fun _ zk => XS.aload H120.here hx rfl (hb hby at_296) rfl rfl zk
              obtain ⟨_, T121, h121, H121, rfl, K121, st121⟩ := H120.callS (wd hw 84 rfl) (wd hw 85 rfl) (wd hw 82 rfl) (wd hw 86 rfl) (by decide) (MetN.pay (W := 0) (c_fw2 l B0 m105 t105 (c105) h112 H120.old ((S105.keep K106 nin0 nin0).keep K112 nin0 nin0) (fun r => q249_107 r.symm) (fun r => q265_113 r.symm) q281_118.symm) (wd hw 86 rfl) (wd hw 82 rfl) (by decide) (by decide)) (g := (mkF m 298 #[iv p0, iv p1, iv p2, iv p3, iv p4, iv 2, rv l85, iv n, iv mk, rv a86, rv m105, rv aD] [(.ref m105)])) rfl (by rw [hml]; rfl) (argsL := [(.ref m105)]) (rest := []) (lenOf pd__Ljava_lang_String__Lcom_example_calm_inbox_calminbox_webhook_WebhookStatus_ rfl) rfl rfl (Nat.le_of_eq rfl) (hb hby at_298) (by decide) (by decide) all0
              have zh121 := K121.1
              refine Rn.pu (g' := (mkF m 301 #[iv p0, iv p1, iv p2, iv p3, iv p4, iv 2, rv l85, iv n, iv mk, rv a86, rv m105, rv aD] [(.ref aD)])) ?_ st121
              refine Rn.pu (T' := T121) (g' := (mkF m 303 #[iv p0, iv p1, iv p2, iv p3, iv p4, iv 2, rv l85, iv n, iv mk, rv a86, rv m105, rv aD] [(.ref aD), (.ref aD)])) ?_ fun _ zk => XS.aload H121.here hx rfl (hb hby at_301) rfl rfl zk
              refine Rn.pu (T' := T121) (g' := (mkF m 306 #[iv p0, iv p1, iv p2, iv p3, iv p4, iv 2, rv l85, iv n, iv mk, rv a86, rv m105, rv aD] [])) ?_ fun _ zk => XT.acmpNo H121.here hx rfl (hb hby at_303) rfl rfl rfl (ac_ne_f rfl) zk
              refine Rn.pu (T' := T121) (g' := (mkF m 307 #[iv p0, iv p1, iv p2, iv p3, iv p4, iv 2, rv l85, iv n, iv mk, rv a86, rv m105, rv aD] [(.int (1 : Int32))])) ?_ fun _ zk => XS.iconst H121.here hx rfl (hb hby at_306) zk
              refine Rn.pu (T' := T121) (g' := (mkF m 311 #[iv p0, iv p1, iv p2, iv p3, iv p4, iv 2, rv l85, iv n, iv mk, rv a86, rv m105, rv aD] [(.int (1 : Int32))])) ?_ fun _ zk => XS.goto H121.here hx rfl (pc0 := 307) (pc' := 311) rfl (hb hby at_307) (by decide) (by decide) zk
              exact H121.retS ends_W hlk (t := .boolean) hret (by simp) (hb hby at_311) (by decide) (by decide) (fun _ q => nomatch q) rfl
            ·
              obtain ⟨_, T122, h122, H122, ⟨rfl, rfl⟩, -, st122⟩ := H117.callV (C := "java/lang/String") (wd hw 72 rfl) (wd hw 73 rfl) (wd hw 75 rfl) (wd hw 74 rfl) (by decide) (payEqN (W := 0) q281_118 (hws_eq hw) (wd hw 2 rfl) ((S105.keep K106 nin0 nin0).keep K112 nin0 nin0) (((((((((((((S85.keep K86 nin0 nin0).keep K88 (ninS (adne (by omega)) nin0) (ninS (adne (by omega)) nin0)).keep K90 (ninS (adne (by omega)) nin0) (ninS (adne (by omega)) nin0)).keep K92 (ninS (adne (by omega)) nin0) (ninS (adne (by omega)) nin0)).keep K94 (ninS (adne (by omega)) nin0) (ninS (adne (by omega)) nin0)).keep K96 (ninS (adne (by omega)) nin0) (ninS (adne (by omega)) nin0)).keep K98 (ninS (adne (by omega)) nin0) (ninS (adne (by omega)) nin0)).keep K100 (ninS (adne (by omega)) nin0) (ninS (adne (by omega)) nin0)).keep K102 (ninS (adne (by omega)) nin0) (ninS (adne (by omega)) nin0)).keep K104 (ninS (adne (by omega)) nin0) (ninS (adne (by omega)) nin0)).keep K105 nin0 nin0).keep K106 nin0 nin0).keep K112 nin0 nin0) (SC0.ext H117.old) hz0 (by decide) (by decide)) ((S105.keep K106 nin0 nin0).keep K112 nin0 nin0).exa (g := (mkF m 281 #[iv p0, iv p1, iv p2, iv p3, iv p4, iv 2, rv l85, iv n, iv mk, rv a86, rv m105, .unset] [(.ref l85), (.ref m105)])) rfl (by rw [hml]; rfl) (argsL := [(.ref l85)]) (rest := []) (lenOf pd__Ljava_lang_Object__Z rfl) rfl rfl (Nat.le_of_eq rfl) (hb hby at_281) (by decide) (by decide) all0
              refine Rn.pu (g' := (mkF m 284 #[iv p0, iv p1, iv p2, iv p3, iv p4, iv 2, rv l85, iv n, iv mk, rv a86, rv m105, .unset] [(.int (0 : Int32))])) ?_ st122
              refine Rn.pu (T' := T122) (g' := (mkF m 293 #[iv p0, iv p1, iv p2, iv p3, iv p4, iv 2, rv l85, iv n, iv mk, rv a86, rv m105, .unset] [])) ?_ fun _ zk => XS.ifYes H122.here hx rfl (pc0 := 284) (pc' := 293) rfl (hb hby at_284) rfl (z_eq_t rfl) (by decide) (by decide) zk
              refine Rn.pu (T' := T122) (g' := (mkF m 294 #[iv p0, iv p1, iv p2, iv p3, iv p4, iv 2, rv l85, iv n, iv mk, rv a86, rv m105, .unset] [.null])) ?_ fun _ zk => XS.aconstNull H122.here hx rfl (hb hby at_293) zk
              refine Rn.pu (T' := T122) (g' := (mkF m 296 #[iv p0, iv p1, iv p2, iv p3, iv p4, iv 2, rv l85, iv n, iv mk, rv a86, rv m105, .val .null] [])) ?_ fun _ zk => XS.astore H122.here hx rfl (hb hby at_294) rfl rfl (l' := #[iv p0, iv p1, iv p2, iv p3, iv p4, iv 2, rv l85, iv n, iv mk, rv a86, rv m105, .val .null]) rfl zk
              refine Rn.pu (T' := T122) (g' := (mkF m 298 #[iv p0, iv p1, iv p2, iv p3, iv p4, iv 2, rv l85, iv n, iv mk, rv a86, rv m105, .val .null] [(.ref m105)])) ?_ fun _ zk => XS.aload H122.here hx rfl (hb hby at_296) rfl rfl zk
              obtain ⟨_, T123, h123, H123, rfl, K123, st123⟩ := H122.callS (wd hw 84 rfl) (wd hw 85 rfl) (wd hw 82 rfl) (wd hw 86 rfl) (by decide) (MetN.pay (W := 0) (c_fw3 l B0 m105 t105 (c105) h112 H122.old ((S105.keep K106 nin0 nin0).keep K112 nin0 nin0) (fun r => q249_107 r.symm) (fun r => q265_113 r.symm) (fun r => q281_118 r.symm)) (wd hw 86 rfl) (wd hw 82 rfl) (by decide) (by decide)) (g := (mkF m 298 #[iv p0, iv p1, iv p2, iv p3, iv p4, iv 2, rv l85, iv n, iv mk, rv a86, rv m105, .val .null] [(.ref m105)])) rfl (by rw [hml]; rfl) (argsL := [(.ref m105)]) (rest := []) (lenOf pd__Ljava_lang_String__Lcom_example_calm_inbox_calminbox_webhook_WebhookStatus_ rfl) rfl rfl (Nat.le_of_eq rfl) (hb hby at_298) (by decide) (by decide) all0
              have zh123 := K123.1
              refine Rn.pu (g' := (mkF m 301 #[iv p0, iv p1, iv p2, iv p3, iv p4, iv 2, rv l85, iv n, iv mk, rv a86, rv m105, .val .null] [.null])) ?_ st123
              refine Rn.pu (T' := T123) (g' := (mkF m 303 #[iv p0, iv p1, iv p2, iv p3, iv p4, iv 2, rv l85, iv n, iv mk, rv a86, rv m105, .val .null] [.null, .null])) ?_ fun _ zk => XS.aload H123.here hx rfl (hb hby at_301) rfl rfl zk
              refine Rn.pu (T' := T123) (g' := (mkF m 306 #[iv p0, iv p1, iv p2, iv p3, iv p4, iv 2, rv l85, iv n, iv mk, rv a86, rv m105, .val .null] [])) ?_ fun _ zk => XT.acmpNo H123.here hx rfl (hb hby at_303) rfl rfl rfl (ac_ne_f rfl) zk
              refine Rn.pu (T' := T123) (g' := (mkF m 307 #[iv p0, iv p1, iv p2, iv p3, iv p4, iv 2, rv l85, iv n, iv mk, rv a86, rv m105, .val .null] [(.int (1 : Int32))])) ?_ fun _ zk => XS.iconst H123.here hx rfl (hb hby at_306) zk
              refine Rn.pu (T' := T123) (g' := (mkF m 311 #[iv p0, iv p1, iv p2, iv p3, iv p4, iv 2, rv l85, iv n, iv mk, rv a86, rv m105, .val .null] [(.int (1 : Int32))])) ?_ fun _ zk => XS.goto H123.here hx rfl (pc0 := 307) (pc' := 311) rfl (hb hby at_307) (by decide) (by decide) zk
              exact H123.retS ends_W hlk (t := .boolean) hret (by simp) (hb hby at_311) (by decide) (by decide) (fun _ q => nomatch q) rfl
      refine Rn.pu (T' := TJ63) (g' := (mkF m 66 #[iv p0, iv p1, iv p2, iv p3, iv p4, iv 2, rv l85, iv n, .unset, .unset, .unset, .unset] [(.int p0)])) ?_ fun _ zk => XS.iloadN HJ63.here hx rfl (hb hby at_65) rfl zk
      refine Rn.pu (T' := TJ63) (g' := (mkF m 67 #[iv p0, iv p1, iv p2, iv p3, iv p4, iv 2, rv l85, iv n, .unset, .unset, .unset, .unset] [(.int (3 : Int32)), (.int p0)])) ?_ fun _ zk => XS.iconst HJ63.here hx rfl (hb hby at_66) zk
      refine Rn.pu (T' := TJ63) (g' := (mkF m 68 #[iv p0, iv p1, iv p2, iv p3, iv p4, iv 2, rv l85, iv n, .unset, .unset, .unset, .unset] [(.int (XT.ushr p0 (3 : Int32)))])) ?_ fun _ zk => XT.iushr HJ63.here hx rfl (hb hby at_67) rfl zk
      refine Rn.pu (T' := TJ63) (g' := (mkF m 69 #[iv p0, iv p1, iv p2, iv p3, iv p4, iv 2, rv l85, iv n, .unset, .unset, .unset, .unset] [(.int (1 : Int32)), (.int (XT.ushr p0 (3 : Int32)))])) ?_ fun _ zk => XS.iconst HJ63.here hx rfl (hb hby at_68) zk
      refine Rn.pu (T' := TJ63) (g' := (mkF m 70 #[iv p0, iv p1, iv p2, iv p3, iv p4, iv 2, rv l85, iv n, .unset, .unset, .unset, .unset] [(.int ((XT.ushr p0 (3 : Int32)) &&& (1 : Int32)))])) ?_ fun _ zk => XS.iand HJ63.here hx rfl (hb hby at_69) rfl zk
      by_cases b70_124 : ((XT.ushr p0 (3 : Int32)) &&& (1 : Int32)) = 0
      ·
        refine Rn.pu (T' := TJ63) (g' := (mkF m 73 #[iv p0, iv p1, iv p2, iv p3, iv p4, iv 2, rv l85, iv n, .unset, .unset, .unset, .unset] [])) ?_ fun _ zk => XS.ifNo HJ63.here hx rfl (hb hby at_70) rfl (z_ne_f b70_124) zk
        refine Rn.pu (T' := TJ63) (g' := (mkF m 74 #[iv p0, iv p1, iv p2, iv p3, iv p4, iv 2, rv l85, iv n, .unset, .unset, .unset, .unset] [(.int (0 : Int32))])) ?_ fun _ zk => XS.iconst HJ63.here hx rfl (hb hby at_73) zk
        refine Rn.pu (T' := TJ63) (g' := (mkF m 78 #[iv p0, iv p1, iv p2, iv p3, iv p4, iv 2, rv l85, iv n, .unset, .unset, .unset, .unset] [(.int (0 : Int32))])) ?_ fun _ zk => XS.goto HJ63.here hx rfl (pc0 := 74) (pc' := 78) rfl (hb hby at_74) (by decide) (by decide) zk
        exact J78 _ _ HJ63
      ·
        refine Rn.pu (T' := TJ63) (g' := (mkF m 77 #[iv p0, iv p1, iv p2, iv p3, iv p4, iv 2, rv l85, iv n, .unset, .unset, .unset, .unset] [])) ?_ fun _ zk => XS.ifYes HJ63.here hx rfl (pc0 := 70) (pc' := 77) rfl (hb hby at_70) rfl (z_ne_t b70_124) (by decide) (by decide) zk
        refine Rn.pu (T' := TJ63) (g' := (mkF m 78 #[iv p0, iv p1, iv p2, iv p3, iv p4, iv 2, rv l85, iv n, .unset, .unset, .unset, .unset] [(.int p1)])) ?_ fun _ zk => XS.iloadN HJ63.here hx rfl (hb hby at_77) rfl zk
        exact J78 _ _ HJ63
    refine Rn.pu (T' := T85) (g' := (mkF m 42 #[iv p0, iv p1, iv p2, iv p3, iv p4, iv 2, rv l85, .unset, .unset, .unset, .unset, .unset] [(.int p0)])) ?_ fun _ zk => XS.iloadN H85.here hx rfl (hb hby at_41) rfl zk
    refine Rn.pu (T' := T85) (g' := (mkF m 43 #[iv p0, iv p1, iv p2, iv p3, iv p4, iv 2, rv l85, .unset, .unset, .unset, .unset, .unset] [(.int (2 : Int32)), (.int p0)])) ?_ fun _ zk => XS.iconst H85.here hx rfl (hb hby at_42) zk
    refine Rn.pu (T' := T85) (g' := (mkF m 44 #[iv p0, iv p1, iv p2, iv p3, iv p4, iv 2, rv l85, .unset, .unset, .unset, .unset, .unset] [(.int (XT.ushr p0 (2 : Int32)))])) ?_ fun _ zk => XT.iushr H85.here hx rfl (hb hby at_43) rfl zk
    refine Rn.pu (T' := T85) (g' := (mkF m 45 #[iv p0, iv p1, iv p2, iv p3, iv p4, iv 2, rv l85, .unset, .unset, .unset, .unset, .unset] [(.int (1 : Int32)), (.int (XT.ushr p0 (2 : Int32)))])) ?_ fun _ zk => XS.iconst H85.here hx rfl (hb hby at_44) zk
    refine Rn.pu (T' := T85) (g' := (mkF m 46 #[iv p0, iv p1, iv p2, iv p3, iv p4, iv 2, rv l85, .unset, .unset, .unset, .unset, .unset] [(.int ((XT.ushr p0 (2 : Int32)) &&& (1 : Int32)))])) ?_ fun _ zk => XS.iand H85.here hx rfl (hb hby at_45) rfl zk
    by_cases b46_125 : ((XT.ushr p0 (2 : Int32)) &&& (1 : Int32)) = 0
    ·
      refine Rn.pu (T' := T85) (g' := (mkF m 49 #[iv p0, iv p1, iv p2, iv p3, iv p4, iv 2, rv l85, .unset, .unset, .unset, .unset, .unset] [])) ?_ fun _ zk => XS.ifNo H85.here hx rfl (hb hby at_46) rfl (z_ne_f b46_125) zk
      refine Rn.pu (T' := T85) (g' := (mkF m 51 #[iv p0, iv p1, iv p2, iv p3, iv p4, iv 2, rv l85, .unset, .unset, .unset, .unset, .unset] [(.ref l85)])) ?_ fun _ zk => XS.aload H85.here hx rfl (hb hby at_49) rfl rfl zk
      obtain ⟨_, T126, h126, H126, ⟨rfl, rfl⟩, -, st126⟩ := H85.callV (C := "java/lang/String") (wd hw 8 rfl) (wd hw 9 rfl) (wd hw 11 rfl) (wd hw 10 rfl) (by decide) (payLen (W := 0) (hws_len hw) (wd hw 2 rfl) S85 (SC0.ext H85.old) hz0 (by decide) (by decide)) S85.exa (g := (mkF m 51 #[iv p0, iv p1, iv p2, iv p3, iv p4, iv 2, rv l85, .unset, .unset, .unset, .unset, .unset] [(.ref l85)])) rfl (by rw [hml]; rfl) (argsL := []) (rest := []) (lenOf pd___I rfl) rfl rfl (Nat.le_of_eq rfl) (hb hby at_51) (by decide) (by decide) all0
      refine Rn.pu (g' := (mkF m 54 #[iv p0, iv p1, iv p2, iv p3, iv p4, iv 2, rv l85, .unset, .unset, .unset, .unset, .unset] [(.int (Int32.ofNat ([(100 : Int32), (105 : Int32), (115 : Int32), (97 : Int32), (98 : Int32), (108 : Int32), (101 : Int32), (100 : Int32)]).length))])) ?_ st126
      refine Rn.pu (T' := T126) (g' := (mkF m 63 #[iv p0, iv p1, iv p2, iv p3, iv p4, iv 2, rv l85, .unset, .unset, .unset, .unset, .unset] [(.int (Int32.ofNat ([(100 : Int32), (105 : Int32), (115 : Int32), (97 : Int32), (98 : Int32), (108 : Int32), (101 : Int32), (100 : Int32)]).length))])) ?_ fun _ zk => XS.goto H126.here hx rfl (pc0 := 54) (pc' := 63) rfl (hb hby at_54) (by decide) (by decide) zk
      exact J63 _ _ H126 (by decide)
    ·
      refine Rn.pu (T' := T85) (g' := (mkF m 57 #[iv p0, iv p1, iv p2, iv p3, iv p4, iv 2, rv l85, .unset, .unset, .unset, .unset, .unset] [])) ?_ fun _ zk => XS.ifYes H85.here hx rfl (pc0 := 46) (pc' := 57) rfl (hb hby at_46) rfl (z_ne_t b46_125) (by decide) (by decide) zk
      refine Rn.pu (T' := T85) (g' := (mkF m 58 #[iv p0, iv p1, iv p2, iv p3, iv p4, iv 2, rv l85, .unset, .unset, .unset, .unset, .unset] [(.int p0)])) ?_ fun _ zk => XS.iloadN H85.here hx rfl (hb hby at_57) rfl zk
      refine Rn.pu (T' := T85) (g' := (mkF m 59 #[iv p0, iv p1, iv p2, iv p3, iv p4, iv 2, rv l85, .unset, .unset, .unset, .unset, .unset] [(.int (5 : Int32)), (.int p0)])) ?_ fun _ zk => XS.iconst H85.here hx rfl (hb hby at_58) zk
      refine Rn.pu (T' := T85) (g' := (mkF m 60 #[iv p0, iv p1, iv p2, iv p3, iv p4, iv 2, rv l85, .unset, .unset, .unset, .unset, .unset] [(.int (XT.ushr p0 (5 : Int32)))])) ?_ fun _ zk => XT.iushr H85.here hx rfl (hb hby at_59) rfl zk
      refine Rn.pu (T' := T85) (g' := (mkF m 62 #[iv p0, iv p1, iv p2, iv p3, iv p4, iv 2, rv l85, .unset, .unset, .unset, .unset, .unset] [(.int (10 : Int32)), (.int (XT.ushr p0 (5 : Int32)))])) ?_ fun _ zk => XS.bipush H85.here hx rfl (hb hby at_60) zk
      refine Rn.pu (T' := T85) (g' := (mkF m 63 #[iv p0, iv p1, iv p2, iv p3, iv p4, iv 2, rv l85, .unset, .unset, .unset, .unset, .unset] [(.int ((XT.ushr p0 (5 : Int32)) % (10 : Int32)))])) ?_ fun _ zk => iremH H85 hx rfl (hb hby at_62) rfl (by decide) zk
      exact J63 _ _ H85 (own_rem10 _)
  ·
    refine Rn.pu (T' := T0) (g' := (mkF m 7 #[iv p0, iv p1, iv p2, iv p3, iv p4, iv 3, .unset, .unset, .unset, .unset, .unset, .unset] [(.int (3 : Int32))])) ?_ fun _ zk => XS.iload H0.here hx rfl (hb hby at_5) rfl zk
    refine Rn.pu (T' := T0) (g' := (mkF m 15 #[iv p0, iv p1, iv p2, iv p3, iv p4, iv 3, .unset, .unset, .unset, .unset, .unset, .unset] [])) ?_ fun _ zk => XS.ifYes H0.here hx rfl (pc0 := 7) (pc' := 15) rfl (hb hby at_7) rfl (z_ne_t (by decide)) (by decide) (by decide) zk
    refine Rn.pu (T' := T0) (g' := (mkF m 17 #[iv p0, iv p1, iv p2, iv p3, iv p4, iv 3, .unset, .unset, .unset, .unset, .unset, .unset] [(.int (3 : Int32))])) ?_ fun _ zk => XS.iload H0.here hx rfl (hb hby at_15) rfl zk
    refine Rn.pu (T' := T0) (g' := (mkF m 18 #[iv p0, iv p1, iv p2, iv p3, iv p4, iv 3, .unset, .unset, .unset, .unset, .unset, .unset] [(.int (1 : Int32)), (.int (3 : Int32))])) ?_ fun _ zk => XS.iconst H0.here hx rfl (hb hby at_17) zk
    refine Rn.pu (T' := T0) (g' := (mkF m 26 #[iv p0, iv p1, iv p2, iv p3, iv p4, iv 3, .unset, .unset, .unset, .unset, .unset, .unset] [])) ?_ fun _ zk => XS.icmpYes H0.here hx rfl (pc0 := 18) (pc' := 26) rfl (hb hby at_18) rfl (c_ne_t (by decide)) (by decide) (by decide) zk
    refine Rn.pu (T' := T0) (g' := (mkF m 28 #[iv p0, iv p1, iv p2, iv p3, iv p4, iv 3, .unset, .unset, .unset, .unset, .unset, .unset] [(.int (3 : Int32))])) ?_ fun _ zk => XS.iload H0.here hx rfl (hb hby at_26) rfl zk
    refine Rn.pu (T' := T0) (g' := (mkF m 29 #[iv p0, iv p1, iv p2, iv p3, iv p4, iv 3, .unset, .unset, .unset, .unset, .unset, .unset] [(.int (2 : Int32)), (.int (3 : Int32))])) ?_ fun _ zk => XS.iconst H0.here hx rfl (hb hby at_28) zk
    refine Rn.pu (T' := T0) (g' := (mkF m 37 #[iv p0, iv p1, iv p2, iv p3, iv p4, iv 3, .unset, .unset, .unset, .unset, .unset, .unset] [])) ?_ fun _ zk => XS.icmpYes H0.here hx rfl (pc0 := 29) (pc' := 37) rfl (hb hby at_29) rfl (c_ne_t (by decide)) (by decide) (by decide) zk
    obtain ⟨l127, u127, T127, h127, H127, K127, S127, st127⟩ := H0.ldcO (own2 := "java/lang/String") (i2 := 7) (Ts := []) (P := fun vm => Z.Warmed39 vm) (fun vm q => ⟨CH.start hhE (wd hw 107 rfl) (hws_sa hw) hcw q.2 q.1 (by simp) (by rw [hsh]; exact H0.old), CH.start hh7 (wd hw 108 rfl) (hws_sa hw) hcw q.2 q.1 (by simp) (by rw [hsh]; exact H0.old), q.1, q.2⟩) w39_stab (wd hw 107 rfl) (hws_sa hw) (g := (mkF m 37 #[iv p0, iv p1, iv p2, iv p3, iv p4, iv 3, .unset, .unset, .unset, .unset, .unset, .unset] [])) rfl (hb hby at_37) (by decide) (by decide)
    have zh127 := K127.1
    have l127a := natlt (S127).lt
    have l127t := natlt (S127).ltt
    refine Rn.pu (g' := (mkF m 39 #[iv p0, iv p1, iv p2, iv p3, iv p4, iv 3, .unset, .unset, .unset, .unset, .unset, .unset] [(.ref l127)])) ?_ st127
    refine Rn.pu (T' := T127) (g' := (mkF m 41 #[iv p0, iv p1, iv p2, iv p3, iv p4, iv 3, rv l127, .unset, .unset, .unset, .unset, .unset] [])) ?_ fun _ zk => XS.astore H127.here hx rfl (hb hby at_39) rfl rfl (l' := #[iv p0, iv p1, iv p2, iv p3, iv p4, iv 3, rv l127, .unset, .unset, .unset, .unset, .unset]) rfl zk
    have J63 : ∀ (TJ63 : State) (n : Int32), Hs p l e room_1 s m #[(.int p0), (.int p1), (.int p2), (.int p3), (.int p4)] below meth c Z "com/example/calm_inbox/calminbox/webhook/WebhookStatusFromWireNamePinLaw" [] (fun vm => IB Z vm [""] ∧ Lv Z "com/example/calm_inbox/calminbox/webhook/WebhookStatusFromWireNamePinLaw" 13 l127 vm ∧ Z.Warmed39 vm ∧ CH Z "java/lang/String" 7 h127 vm) TJ63 h127 2 4 → (n = 0 ∨ n = 1 ∨ n = 2 ∨ n = 3 ∨ n = 4 ∨ n = 5 ∨ n = 6 ∨ n = 7 ∨ n = 8 ∨ n = 9) → Rn p e below s ReturnedEndW [] (room_1).cells (room_1).slots (fun v vm h => v = some (.int 1)) TJ63 (mkF m 63 #[iv p0, iv p1, iv p2, iv p3, iv p4, iv 3, rv l127, .unset, .unset, .unset, .unset, .unset] [(.int n)]) := by
      intro TJ63 n HJ63 yJ63
      refine Rn.pu (T' := TJ63) (g' := (mkF m 65 #[iv p0, iv p1, iv p2, iv p3, iv p4, iv 3, rv l127, iv n, .unset, .unset, .unset, .unset] [])) ?_ fun _ zk => XS.istore HJ63.here hx rfl (hb hby at_63) rfl (l' := #[iv p0, iv p1, iv p2, iv p3, iv p4, iv 3, rv l127, iv n, .unset, .unset, .unset, .unset]) rfl zk
      have J78 : ∀ (TJ78 : State) (mk : Int32), Hs p l e room_1 s m #[(.int p0), (.int p1), (.int p2), (.int p3), (.int p4)] below meth c Z "com/example/calm_inbox/calminbox/webhook/WebhookStatusFromWireNamePinLaw" [] (fun vm => IB Z vm [""] ∧ Lv Z "com/example/calm_inbox/calminbox/webhook/WebhookStatusFromWireNamePinLaw" 13 l127 vm ∧ Z.Warmed39 vm ∧ CH Z "java/lang/String" 7 h127 vm) TJ78 h127 2 4 → Rn p e below s ReturnedEndW [] (room_1).cells (room_1).slots (fun v vm h => v = some (.int 1)) TJ78 (mkF m 78 #[iv p0, iv p1, iv p2, iv p3, iv p4, iv 3, rv l127, iv n, .unset, .unset, .unset, .unset] [(.int mk)]) := by
        intro TJ78 mk HJ78
        refine Rn.pu (T' := TJ78) (g' := (mkF m 80 #[iv p0, iv p1, iv p2, iv p3, iv p4, iv 3, rv l127, iv n, iv mk, .unset, .unset, .unset] [])) ?_ fun _ zk => XS.istore HJ78.here hx rfl (hb hby at_78) rfl (l' := #[iv p0, iv p1, iv p2, iv p3, iv p4, iv 3, rv l127, iv n, iv mk, .unset, .unset, .unset]) rfl zk
        refine Rn.pu (T' := TJ78) (g' := (mkF m 82 #[iv p0, iv p1, iv p2, iv p3, iv p4, iv 3, rv l127, iv n, iv mk, .unset, .unset, .unset] [(.int (9 : Int32))])) ?_ fun _ zk => XS.bipush HJ78.here hx rfl (hb hby at_80) zk
        obtain ⟨a128, k128, T128, h128, e128, H128, K128, A128, st128⟩ := HJ78.newP (aty := .char) (wd hw 21 rfl) (g := (mkF m 82 #[iv p0, iv p1, iv p2, iv p3, iv p4, iv 3, rv l127, iv n, iv mk, .unset, .unset, .unset] [(.int (9 : Int32))])) rfl (hb hby at_82) rfl (by decide) (cap := 9) (by decide) (by decide) (by decide) (by decide)
        have zh128 := K128.1
        have l128 := natlt (A128).lt
        have g128 : s.heap.size ≤ a128 := by omega
        refine Rn.pu (g' := (mkF m 84 #[iv p0, iv p1, iv p2, iv p3, iv p4, iv 3, rv l127, iv n, iv mk, .unset, .unset, .unset] [(.ref a128)])) ?_ st128
        refine Rn.pu (T' := T128) (g' := (mkF m 86 #[iv p0, iv p1, iv p2, iv p3, iv p4, iv 3, rv l127, iv n, iv mk, rv a128, .unset, .unset] [])) ?_ fun _ zk => XS.astore H128.here hx rfl (hb hby at_84) rfl rfl (l' := #[iv p0, iv p1, iv p2, iv p3, iv p4, iv 3, rv l127, iv n, iv mk, rv a128, .unset, .unset]) rfl zk
        refine Rn.pu (T' := T128) (g' := (mkF m 88 #[iv p0, iv p1, iv p2, iv p3, iv p4, iv 3, rv l127, iv n, iv mk, rv a128, .unset, .unset] [(.ref a128)])) ?_ fun _ zk => XS.aload H128.here hx rfl (hb hby at_86) rfl rfl zk
        refine Rn.pu (T' := T128) (g' := (mkF m 89 #[iv p0, iv p1, iv p2, iv p3, iv p4, iv 3, rv l127, iv n, iv mk, rv a128, .unset, .unset] [(.int (0 : Int32)), (.ref a128)])) ?_ fun _ zk => XS.iconst H128.here hx rfl (hb hby at_88) zk
        refine Rn.pu (T' := T128) (g' := (mkF m 91 #[iv p0, iv p1, iv p2, iv p3, iv p4, iv 3, rv l127, iv n, iv mk, rv a128, .unset, .unset] [(.ref l127), (.int (0 : Int32)), (.ref a128)])) ?_ fun _ zk => XS.aload H128.here hx rfl (hb hby at_89) rfl rfl zk
        refine Rn.pu (T' := T128) (g' := (mkF m 93 #[iv p0, iv p1, iv p2, iv p3, iv p4, iv 3, rv l127, iv n, iv mk, rv a128, .unset, .unset] [(.int mk), (.ref l127), (.int (0 : Int32)), (.ref a128)])) ?_ fun _ zk => XS.iload H128.here hx rfl (hb hby at_91) rfl zk
        refine Rn.pu (T' := T128) (g' := (mkF m 94 #[iv p0, iv p1, iv p2, iv p3, iv p4, iv 3, rv l127, iv n, iv mk, rv a128, .unset, .unset] [(.int (0 : Int32)), (.int mk), (.ref l127), (.int (0 : Int32)), (.ref a128)])) ?_ fun _ zk => XS.iconst H128.here hx rfl (hb hby at_93) zk
        refine Rn.pu (T' := T128) (g' := (mkF m 95 #[iv p0, iv p1, iv p2, iv p3, iv p4, iv 3, rv l127, iv n, iv mk, rv a128, .unset, .unset] [(.int p2), (.int (0 : Int32)), (.int mk), (.ref l127), (.int (0 : Int32)), (.ref a128)])) ?_ fun _ zk => XS.iloadN H128.here hx rfl (hb hby at_94) rfl zk
        refine Rn.pu (T' := T128) (g' := (mkF m 96 #[iv p0, iv p1, iv p2, iv p3, iv p4, iv 3, rv l127, iv n, iv mk, rv a128, .unset, .unset] [(.int p3), (.int p2), (.int (0 : Int32)), (.int mk), (.ref l127), (.int (0 : Int32)), (.ref a128)])) ?_ fun _ zk => XS.iloadN H128.here hx rfl (hb hby at_95) rfl zk
        refine Rn.pu (T' := T128) (g' := (mkF m 98 #[iv p0, iv p1, iv p2, iv p3, iv p4, iv 3, rv l127, iv n, iv mk, rv a128, .unset, .unset] [(.int p4), (.int p3), (.int p2), (.int (0 : Int32)), (.int mk), (.ref l127), (.int (0 : Int32)), (.ref a128)])) ?_ fun _ zk => XS.iload H128.here hx rfl (hb hby at_96) rfl zk
        obtain ⟨_, T129, h129, H129, ⟨r129, rfl, rr129, rfl⟩, -, st129⟩ := H128.callS (wd hw 22 rfl) (wd hw 23 rfl) (wd hw 24 rfl) (wd hw 25 rfl) (by decide) (MetN.pay (W := 2) (c_ch l B0 l127 u127 mk p2 p3 p4 [] 0 h128 H128.old (S127.keep K128 nin0 nin0) (by decide) (by decide)) (wd hw 25 rfl) (wd hw 24 rfl) (by decide) (by decide)) (g := (mkF m 98 #[iv p0, iv p1, iv p2, iv p3, iv p4, iv 3, rv l127, iv n, iv mk, rv a128, .unset, .unset] [(.int p4), (.int p3), (.int p2), (.int (0 : Int32)), (.int mk), (.ref l127), (.int (0 : Int32)), (.ref a128)])) rfl (by rw [hml]; rfl) (argsL := [(.ref l127), (.int mk), (.int (0 : Int32)), (.int p2), (.int p3), (.int p4)]) (rest := [(.int (0 : Int32)), (.ref a128)]) (lenOf pd__Ljava_lang_String_IIIII_C rfl) rfl rfl (Nat.le_of_eq rfl) (hb hby at_98) (by decide) (by decide) all0
        refine Rn.pu (g' := (mkF m 101 #[iv p0, iv p1, iv p2, iv p3, iv p4, iv 3, rv l127, iv n, iv mk, rv a128, .unset, .unset] [(.int r129), (.int (0 : Int32)), (.ref a128)])) ?_ st129
        obtain ⟨T130, h130, H130, K130, A130, st130⟩ := H129.stC A128 (by decide) rfl (Or.inr (by omega)) (g := (mkF m 101 #[iv p0, iv p1, iv p2, iv p3, iv p4, iv 3, rv l127, iv n, iv mk, rv a128, .unset, .unset] [(.int r129), (.int (0 : Int32)), (.ref a128)])) rfl rfl (hb hby at_101)
        have zh130 := K130.1
        refine Rn.pu (g' := (mkF m 102 #[iv p0, iv p1, iv p2, iv p3, iv p4, iv 3, rv l127, iv n, iv mk, rv a128, .unset, .unset] [])) ?_ st130
        refine Rn.pu (T' := T130) (g' := (mkF m 104 #[iv p0, iv p1, iv p2, iv p3, iv p4, iv 3, rv l127, iv n, iv mk, rv a128, .unset, .unset] [(.ref a128)])) ?_ fun _ zk => XS.aload H130.here hx rfl (hb hby at_102) rfl rfl zk
        refine Rn.pu (T' := T130) (g' := (mkF m 105 #[iv p0, iv p1, iv p2, iv p3, iv p4, iv 3, rv l127, iv n, iv mk, rv a128, .unset, .unset] [(.int (1 : Int32)), (.ref a128)])) ?_ fun _ zk => XS.iconst H130.here hx rfl (hb hby at_104) zk
        refine Rn.pu (T' := T130) (g' := (mkF m 107 #[iv p0, iv p1, iv p2, iv p3, iv p4, iv 3, rv l127, iv n, iv mk, rv a128, .unset, .unset] [(.ref l127), (.int (1 : Int32)), (.ref a128)])) ?_ fun _ zk => XS.aload H130.here hx rfl (hb hby at_105) rfl rfl zk
        refine Rn.pu (T' := T130) (g' := (mkF m 109 #[iv p0, iv p1, iv p2, iv p3, iv p4, iv 3, rv l127, iv n, iv mk, rv a128, .unset, .unset] [(.int mk), (.ref l127), (.int (1 : Int32)), (.ref a128)])) ?_ fun _ zk => XS.iload H130.here hx rfl (hb hby at_107) rfl zk
        refine Rn.pu (T' := T130) (g' := (mkF m 110 #[iv p0, iv p1, iv p2, iv p3, iv p4, iv 3, rv l127, iv n, iv mk, rv a128, .unset, .unset] [(.int (1 : Int32)), (.int mk), (.ref l127), (.int (1 : Int32)), (.ref a128)])) ?_ fun _ zk => XS.iconst H130.here hx rfl (hb hby at_109) zk
        refine Rn.pu (T' := T130) (g' := (mkF m 111 #[iv p0, iv p1, iv p2, iv p3, iv p4, iv 3, rv l127, iv n, iv mk, rv a128, .unset, .unset] [(.int p2), (.int (1 : Int32)), (.int mk), (.ref l127), (.int (1 : Int32)), (.ref a128)])) ?_ fun _ zk => XS.iloadN H130.here hx rfl (hb hby at_110) rfl zk
        refine Rn.pu (T' := T130) (g' := (mkF m 112 #[iv p0, iv p1, iv p2, iv p3, iv p4, iv 3, rv l127, iv n, iv mk, rv a128, .unset, .unset] [(.int p3), (.int p2), (.int (1 : Int32)), (.int mk), (.ref l127), (.int (1 : Int32)), (.ref a128)])) ?_ fun _ zk => XS.iloadN H130.here hx rfl (hb hby at_111) rfl zk
        refine Rn.pu (T' := T130) (g' := (mkF m 114 #[iv p0, iv p1, iv p2, iv p3, iv p4, iv 3, rv l127, iv n, iv mk, rv a128, .unset, .unset] [(.int p4), (.int p3), (.int p2), (.int (1 : Int32)), (.int mk), (.ref l127), (.int (1 : Int32)), (.ref a128)])) ?_ fun _ zk => XS.iload H130.here hx rfl (hb hby at_112) rfl zk
        obtain ⟨_, T131, h131, H131, ⟨r131, rfl, rr131, rfl⟩, -, st131⟩ := H130.callS (wd hw 22 rfl) (wd hw 23 rfl) (wd hw 24 rfl) (wd hw 25 rfl) (by decide) (MetN.pay (W := 2) (c_ch l B0 l127 u127 mk p2 p3 p4 [] 1 h130 H130.old ((S127.keep K128 nin0 nin0).keep K130 (ninS (adne (by omega)) nin0) (ninS (adne (by omega)) nin0)) (by decide) (by decide)) (wd hw 25 rfl) (wd hw 24 rfl) (by decide) (by decide)) (g := (mkF m 114 #[iv p0, iv p1, iv p2, iv p3, iv p4, iv 3, rv l127, iv n, iv mk, rv a128, .unset, .unset] [(.int p4), (.int p3), (.int p2), (.int (1 : Int32)), (.int mk), (.ref l127), (.int (1 : Int32)), (.ref a128)])) rfl (by rw [hml]; rfl) (argsL := [(.ref l127), (.int mk), (.int (1 : Int32)), (.int p2), (.int p3), (.int p4)]) (rest := [(.int (1 : Int32)), (.ref a128)]) (lenOf pd__Ljava_lang_String_IIIII_C rfl) rfl rfl (Nat.le_of_eq rfl) (hb hby at_114) (by decide) (by decide) all0
        refine Rn.pu (g' := (mkF m 117 #[iv p0, iv p1, iv p2, iv p3, iv p4, iv 3, rv l127, iv n, iv mk, rv a128, .unset, .unset] [(.int r131), (.int (1 : Int32)), (.ref a128)])) ?_ st131
        obtain ⟨T132, h132, H132, K132, A132, st132⟩ := H131.stC A130 (by decide) rfl (Or.inr (by omega)) (g := (mkF m 117 #[iv p0, iv p1, iv p2, iv p3, iv p4, iv 3, rv l127, iv n, iv mk, rv a128, .unset, .unset] [(.int r131), (.int (1 : Int32)), (.ref a128)])) rfl rfl (hb hby at_117)
        have zh132 := K132.1
        refine Rn.pu (g' := (mkF m 118 #[iv p0, iv p1, iv p2, iv p3, iv p4, iv 3, rv l127, iv n, iv mk, rv a128, .unset, .unset] [])) ?_ st132
        refine Rn.pu (T' := T132) (g' := (mkF m 120 #[iv p0, iv p1, iv p2, iv p3, iv p4, iv 3, rv l127, iv n, iv mk, rv a128, .unset, .unset] [(.ref a128)])) ?_ fun _ zk => XS.aload H132.here hx rfl (hb hby at_118) rfl rfl zk
        refine Rn.pu (T' := T132) (g' := (mkF m 121 #[iv p0, iv p1, iv p2, iv p3, iv p4, iv 3, rv l127, iv n, iv mk, rv a128, .unset, .unset] [(.int (2 : Int32)), (.ref a128)])) ?_ fun _ zk => XS.iconst H132.here hx rfl (hb hby at_120) zk
        refine Rn.pu (T' := T132) (g' := (mkF m 123 #[iv p0, iv p1, iv p2, iv p3, iv p4, iv 3, rv l127, iv n, iv mk, rv a128, .unset, .unset] [(.ref l127), (.int (2 : Int32)), (.ref a128)])) ?_ fun _ zk => XS.aload H132.here hx rfl (hb hby at_121) rfl rfl zk
        refine Rn.pu (T' := T132) (g' := (mkF m 125 #[iv p0, iv p1, iv p2, iv p3, iv p4, iv 3, rv l127, iv n, iv mk, rv a128, .unset, .unset] [(.int mk), (.ref l127), (.int (2 : Int32)), (.ref a128)])) ?_ fun _ zk => XS.iload H132.here hx rfl (hb hby at_123) rfl zk
        refine Rn.pu (T' := T132) (g' := (mkF m 126 #[iv p0, iv p1, iv p2, iv p3, iv p4, iv 3, rv l127, iv n, iv mk, rv a128, .unset, .unset] [(.int (2 : Int32)), (.int mk), (.ref l127), (.int (2 : Int32)), (.ref a128)])) ?_ fun _ zk => XS.iconst H132.here hx rfl (hb hby at_125) zk
        refine Rn.pu (T' := T132) (g' := (mkF m 127 #[iv p0, iv p1, iv p2, iv p3, iv p4, iv 3, rv l127, iv n, iv mk, rv a128, .unset, .unset] [(.int p2), (.int (2 : Int32)), (.int mk), (.ref l127), (.int (2 : Int32)), (.ref a128)])) ?_ fun _ zk => XS.iloadN H132.here hx rfl (hb hby at_126) rfl zk
        refine Rn.pu (T' := T132) (g' := (mkF m 128 #[iv p0, iv p1, iv p2, iv p3, iv p4, iv 3, rv l127, iv n, iv mk, rv a128, .unset, .unset] [(.int p3), (.int p2), (.int (2 : Int32)), (.int mk), (.ref l127), (.int (2 : Int32)), (.ref a128)])) ?_ fun _ zk => XS.iloadN H132.here hx rfl (hb hby at_127) rfl zk
        refine Rn.pu (T' := T132) (g' := (mkF m 130 #[iv p0, iv p1, iv p2, iv p3, iv p4, iv 3, rv l127, iv n, iv mk, rv a128, .unset, .unset] [(.int p4), (.int p3), (.int p2), (.int (2 : Int32)), (.int mk), (.ref l127), (.int (2 : Int32)), (.ref a128)])) ?_ fun _ zk => XS.iload H132.here hx rfl (hb hby at_128) rfl zk
        obtain ⟨_, T133, h133, H133, ⟨r133, rfl, rr133, rfl⟩, -, st133⟩ := H132.callS (wd hw 22 rfl) (wd hw 23 rfl) (wd hw 24 rfl) (wd hw 25 rfl) (by decide) (MetN.pay (W := 2) (c_ch l B0 l127 u127 mk p2 p3 p4 [] 2 h132 H132.old (((S127.keep K128 nin0 nin0).keep K130 (ninS (adne (by omega)) nin0) (ninS (adne (by omega)) nin0)).keep K132 (ninS (adne (by omega)) nin0) (ninS (adne (by omega)) nin0)) (by decide) (by decide)) (wd hw 25 rfl) (wd hw 24 rfl) (by decide) (by decide)) (g := (mkF m 130 #[iv p0, iv p1, iv p2, iv p3, iv p4, iv 3, rv l127, iv n, iv mk, rv a128, .unset, .unset] [(.int p4), (.int p3), (.int p2), (.int (2 : Int32)), (.int mk), (.ref l127), (.int (2 : Int32)), (.ref a128)])) rfl (by rw [hml]; rfl) (argsL := [(.ref l127), (.int mk), (.int (2 : Int32)), (.int p2), (.int p3), (.int p4)]) (rest := [(.int (2 : Int32)), (.ref a128)]) (lenOf pd__Ljava_lang_String_IIIII_C rfl) rfl rfl (Nat.le_of_eq rfl) (hb hby at_130) (by decide) (by decide) all0
        refine Rn.pu (g' := (mkF m 133 #[iv p0, iv p1, iv p2, iv p3, iv p4, iv 3, rv l127, iv n, iv mk, rv a128, .unset, .unset] [(.int r133), (.int (2 : Int32)), (.ref a128)])) ?_ st133
        obtain ⟨T134, h134, H134, K134, A134, st134⟩ := H133.stC A132 (by decide) rfl (Or.inr (by omega)) (g := (mkF m 133 #[iv p0, iv p1, iv p2, iv p3, iv p4, iv 3, rv l127, iv n, iv mk, rv a128, .unset, .unset] [(.int r133), (.int (2 : Int32)), (.ref a128)])) rfl rfl (hb hby at_133)
        have zh134 := K134.1
        refine Rn.pu (g' := (mkF m 134 #[iv p0, iv p1, iv p2, iv p3, iv p4, iv 3, rv l127, iv n, iv mk, rv a128, .unset, .unset] [])) ?_ st134
        refine Rn.pu (T' := T134) (g' := (mkF m 136 #[iv p0, iv p1, iv p2, iv p3, iv p4, iv 3, rv l127, iv n, iv mk, rv a128, .unset, .unset] [(.ref a128)])) ?_ fun _ zk => XS.aload H134.here hx rfl (hb hby at_134) rfl rfl zk
        refine Rn.pu (T' := T134) (g' := (mkF m 137 #[iv p0, iv p1, iv p2, iv p3, iv p4, iv 3, rv l127, iv n, iv mk, rv a128, .unset, .unset] [(.int (3 : Int32)), (.ref a128)])) ?_ fun _ zk => XS.iconst H134.here hx rfl (hb hby at_136) zk
        refine Rn.pu (T' := T134) (g' := (mkF m 139 #[iv p0, iv p1, iv p2, iv p3, iv p4, iv 3, rv l127, iv n, iv mk, rv a128, .unset, .unset] [(.ref l127), (.int (3 : Int32)), (.ref a128)])) ?_ fun _ zk => XS.aload H134.here hx rfl (hb hby at_137) rfl rfl zk
        refine Rn.pu (T' := T134) (g' := (mkF m 141 #[iv p0, iv p1, iv p2, iv p3, iv p4, iv 3, rv l127, iv n, iv mk, rv a128, .unset, .unset] [(.int mk), (.ref l127), (.int (3 : Int32)), (.ref a128)])) ?_ fun _ zk => XS.iload H134.here hx rfl (hb hby at_139) rfl zk
        refine Rn.pu (T' := T134) (g' := (mkF m 142 #[iv p0, iv p1, iv p2, iv p3, iv p4, iv 3, rv l127, iv n, iv mk, rv a128, .unset, .unset] [(.int (3 : Int32)), (.int mk), (.ref l127), (.int (3 : Int32)), (.ref a128)])) ?_ fun _ zk => XS.iconst H134.here hx rfl (hb hby at_141) zk
        refine Rn.pu (T' := T134) (g' := (mkF m 143 #[iv p0, iv p1, iv p2, iv p3, iv p4, iv 3, rv l127, iv n, iv mk, rv a128, .unset, .unset] [(.int p2), (.int (3 : Int32)), (.int mk), (.ref l127), (.int (3 : Int32)), (.ref a128)])) ?_ fun _ zk => XS.iloadN H134.here hx rfl (hb hby at_142) rfl zk
        refine Rn.pu (T' := T134) (g' := (mkF m 144 #[iv p0, iv p1, iv p2, iv p3, iv p4, iv 3, rv l127, iv n, iv mk, rv a128, .unset, .unset] [(.int p3), (.int p2), (.int (3 : Int32)), (.int mk), (.ref l127), (.int (3 : Int32)), (.ref a128)])) ?_ fun _ zk => XS.iloadN H134.here hx rfl (hb hby at_143) rfl zk
        refine Rn.pu (T' := T134) (g' := (mkF m 146 #[iv p0, iv p1, iv p2, iv p3, iv p4, iv 3, rv l127, iv n, iv mk, rv a128, .unset, .unset] [(.int p4), (.int p3), (.int p2), (.int (3 : Int32)), (.int mk), (.ref l127), (.int (3 : Int32)), (.ref a128)])) ?_ fun _ zk => XS.iload H134.here hx rfl (hb hby at_144) rfl zk
        obtain ⟨_, T135, h135, H135, ⟨r135, rfl, rr135, rfl⟩, -, st135⟩ := H134.callS (wd hw 22 rfl) (wd hw 23 rfl) (wd hw 24 rfl) (wd hw 25 rfl) (by decide) (MetN.pay (W := 2) (c_ch l B0 l127 u127 mk p2 p3 p4 [] 3 h134 H134.old ((((S127.keep K128 nin0 nin0).keep K130 (ninS (adne (by omega)) nin0) (ninS (adne (by omega)) nin0)).keep K132 (ninS (adne (by omega)) nin0) (ninS (adne (by omega)) nin0)).keep K134 (ninS (adne (by omega)) nin0) (ninS (adne (by omega)) nin0)) (by decide) (by decide)) (wd hw 25 rfl) (wd hw 24 rfl) (by decide) (by decide)) (g := (mkF m 146 #[iv p0, iv p1, iv p2, iv p3, iv p4, iv 3, rv l127, iv n, iv mk, rv a128, .unset, .unset] [(.int p4), (.int p3), (.int p2), (.int (3 : Int32)), (.int mk), (.ref l127), (.int (3 : Int32)), (.ref a128)])) rfl (by rw [hml]; rfl) (argsL := [(.ref l127), (.int mk), (.int (3 : Int32)), (.int p2), (.int p3), (.int p4)]) (rest := [(.int (3 : Int32)), (.ref a128)]) (lenOf pd__Ljava_lang_String_IIIII_C rfl) rfl rfl (Nat.le_of_eq rfl) (hb hby at_146) (by decide) (by decide) all0
        refine Rn.pu (g' := (mkF m 149 #[iv p0, iv p1, iv p2, iv p3, iv p4, iv 3, rv l127, iv n, iv mk, rv a128, .unset, .unset] [(.int r135), (.int (3 : Int32)), (.ref a128)])) ?_ st135
        obtain ⟨T136, h136, H136, K136, A136, st136⟩ := H135.stC A134 (by decide) rfl (Or.inr (by omega)) (g := (mkF m 149 #[iv p0, iv p1, iv p2, iv p3, iv p4, iv 3, rv l127, iv n, iv mk, rv a128, .unset, .unset] [(.int r135), (.int (3 : Int32)), (.ref a128)])) rfl rfl (hb hby at_149)
        have zh136 := K136.1
        refine Rn.pu (g' := (mkF m 150 #[iv p0, iv p1, iv p2, iv p3, iv p4, iv 3, rv l127, iv n, iv mk, rv a128, .unset, .unset] [])) ?_ st136
        refine Rn.pu (T' := T136) (g' := (mkF m 152 #[iv p0, iv p1, iv p2, iv p3, iv p4, iv 3, rv l127, iv n, iv mk, rv a128, .unset, .unset] [(.ref a128)])) ?_ fun _ zk => XS.aload H136.here hx rfl (hb hby at_150) rfl rfl zk
        refine Rn.pu (T' := T136) (g' := (mkF m 153 #[iv p0, iv p1, iv p2, iv p3, iv p4, iv 3, rv l127, iv n, iv mk, rv a128, .unset, .unset] [(.int (4 : Int32)), (.ref a128)])) ?_ fun _ zk => XS.iconst H136.here hx rfl (hb hby at_152) zk
        refine Rn.pu (T' := T136) (g' := (mkF m 155 #[iv p0, iv p1, iv p2, iv p3, iv p4, iv 3, rv l127, iv n, iv mk, rv a128, .unset, .unset] [(.ref l127), (.int (4 : Int32)), (.ref a128)])) ?_ fun _ zk => XS.aload H136.here hx rfl (hb hby at_153) rfl rfl zk
        refine Rn.pu (T' := T136) (g' := (mkF m 157 #[iv p0, iv p1, iv p2, iv p3, iv p4, iv 3, rv l127, iv n, iv mk, rv a128, .unset, .unset] [(.int mk), (.ref l127), (.int (4 : Int32)), (.ref a128)])) ?_ fun _ zk => XS.iload H136.here hx rfl (hb hby at_155) rfl zk
        refine Rn.pu (T' := T136) (g' := (mkF m 158 #[iv p0, iv p1, iv p2, iv p3, iv p4, iv 3, rv l127, iv n, iv mk, rv a128, .unset, .unset] [(.int (4 : Int32)), (.int mk), (.ref l127), (.int (4 : Int32)), (.ref a128)])) ?_ fun _ zk => XS.iconst H136.here hx rfl (hb hby at_157) zk
        refine Rn.pu (T' := T136) (g' := (mkF m 159 #[iv p0, iv p1, iv p2, iv p3, iv p4, iv 3, rv l127, iv n, iv mk, rv a128, .unset, .unset] [(.int p2), (.int (4 : Int32)), (.int mk), (.ref l127), (.int (4 : Int32)), (.ref a128)])) ?_ fun _ zk => XS.iloadN H136.here hx rfl (hb hby at_158) rfl zk
        refine Rn.pu (T' := T136) (g' := (mkF m 160 #[iv p0, iv p1, iv p2, iv p3, iv p4, iv 3, rv l127, iv n, iv mk, rv a128, .unset, .unset] [(.int p3), (.int p2), (.int (4 : Int32)), (.int mk), (.ref l127), (.int (4 : Int32)), (.ref a128)])) ?_ fun _ zk => XS.iloadN H136.here hx rfl (hb hby at_159) rfl zk
        refine Rn.pu (T' := T136) (g' := (mkF m 162 #[iv p0, iv p1, iv p2, iv p3, iv p4, iv 3, rv l127, iv n, iv mk, rv a128, .unset, .unset] [(.int p4), (.int p3), (.int p2), (.int (4 : Int32)), (.int mk), (.ref l127), (.int (4 : Int32)), (.ref a128)])) ?_ fun _ zk => XS.iload H136.here hx rfl (hb hby at_160) rfl zk
        obtain ⟨_, T137, h137, H137, ⟨r137, rfl, rr137, rfl⟩, -, st137⟩ := H136.callS (wd hw 22 rfl) (wd hw 23 rfl) (wd hw 24 rfl) (wd hw 25 rfl) (by decide) (MetN.pay (W := 2) (c_ch l B0 l127 u127 mk p2 p3 p4 [] 4 h136 H136.old (((((S127.keep K128 nin0 nin0).keep K130 (ninS (adne (by omega)) nin0) (ninS (adne (by omega)) nin0)).keep K132 (ninS (adne (by omega)) nin0) (ninS (adne (by omega)) nin0)).keep K134 (ninS (adne (by omega)) nin0) (ninS (adne (by omega)) nin0)).keep K136 (ninS (adne (by omega)) nin0) (ninS (adne (by omega)) nin0)) (by decide) (by decide)) (wd hw 25 rfl) (wd hw 24 rfl) (by decide) (by decide)) (g := (mkF m 162 #[iv p0, iv p1, iv p2, iv p3, iv p4, iv 3, rv l127, iv n, iv mk, rv a128, .unset, .unset] [(.int p4), (.int p3), (.int p2), (.int (4 : Int32)), (.int mk), (.ref l127), (.int (4 : Int32)), (.ref a128)])) rfl (by rw [hml]; rfl) (argsL := [(.ref l127), (.int mk), (.int (4 : Int32)), (.int p2), (.int p3), (.int p4)]) (rest := [(.int (4 : Int32)), (.ref a128)]) (lenOf pd__Ljava_lang_String_IIIII_C rfl) rfl rfl (Nat.le_of_eq rfl) (hb hby at_162) (by decide) (by decide) all0
        refine Rn.pu (g' := (mkF m 165 #[iv p0, iv p1, iv p2, iv p3, iv p4, iv 3, rv l127, iv n, iv mk, rv a128, .unset, .unset] [(.int r137), (.int (4 : Int32)), (.ref a128)])) ?_ st137
        obtain ⟨T138, h138, H138, K138, A138, st138⟩ := H137.stC A136 (by decide) rfl (Or.inr (by omega)) (g := (mkF m 165 #[iv p0, iv p1, iv p2, iv p3, iv p4, iv 3, rv l127, iv n, iv mk, rv a128, .unset, .unset] [(.int r137), (.int (4 : Int32)), (.ref a128)])) rfl rfl (hb hby at_165)
        have zh138 := K138.1
        refine Rn.pu (g' := (mkF m 166 #[iv p0, iv p1, iv p2, iv p3, iv p4, iv 3, rv l127, iv n, iv mk, rv a128, .unset, .unset] [])) ?_ st138
        refine Rn.pu (T' := T138) (g' := (mkF m 168 #[iv p0, iv p1, iv p2, iv p3, iv p4, iv 3, rv l127, iv n, iv mk, rv a128, .unset, .unset] [(.ref a128)])) ?_ fun _ zk => XS.aload H138.here hx rfl (hb hby at_166) rfl rfl zk
        refine Rn.pu (T' := T138) (g' := (mkF m 169 #[iv p0, iv p1, iv p2, iv p3, iv p4, iv 3, rv l127, iv n, iv mk, rv a128, .unset, .unset] [(.int (5 : Int32)), (.ref a128)])) ?_ fun _ zk => XS.iconst H138.here hx rfl (hb hby at_168) zk
        refine Rn.pu (T' := T138) (g' := (mkF m 171 #[iv p0, iv p1, iv p2, iv p3, iv p4, iv 3, rv l127, iv n, iv mk, rv a128, .unset, .unset] [(.ref l127), (.int (5 : Int32)), (.ref a128)])) ?_ fun _ zk => XS.aload H138.here hx rfl (hb hby at_169) rfl rfl zk
        refine Rn.pu (T' := T138) (g' := (mkF m 173 #[iv p0, iv p1, iv p2, iv p3, iv p4, iv 3, rv l127, iv n, iv mk, rv a128, .unset, .unset] [(.int mk), (.ref l127), (.int (5 : Int32)), (.ref a128)])) ?_ fun _ zk => XS.iload H138.here hx rfl (hb hby at_171) rfl zk
        refine Rn.pu (T' := T138) (g' := (mkF m 174 #[iv p0, iv p1, iv p2, iv p3, iv p4, iv 3, rv l127, iv n, iv mk, rv a128, .unset, .unset] [(.int (5 : Int32)), (.int mk), (.ref l127), (.int (5 : Int32)), (.ref a128)])) ?_ fun _ zk => XS.iconst H138.here hx rfl (hb hby at_173) zk
        refine Rn.pu (T' := T138) (g' := (mkF m 175 #[iv p0, iv p1, iv p2, iv p3, iv p4, iv 3, rv l127, iv n, iv mk, rv a128, .unset, .unset] [(.int p2), (.int (5 : Int32)), (.int mk), (.ref l127), (.int (5 : Int32)), (.ref a128)])) ?_ fun _ zk => XS.iloadN H138.here hx rfl (hb hby at_174) rfl zk
        refine Rn.pu (T' := T138) (g' := (mkF m 176 #[iv p0, iv p1, iv p2, iv p3, iv p4, iv 3, rv l127, iv n, iv mk, rv a128, .unset, .unset] [(.int p3), (.int p2), (.int (5 : Int32)), (.int mk), (.ref l127), (.int (5 : Int32)), (.ref a128)])) ?_ fun _ zk => XS.iloadN H138.here hx rfl (hb hby at_175) rfl zk
        refine Rn.pu (T' := T138) (g' := (mkF m 178 #[iv p0, iv p1, iv p2, iv p3, iv p4, iv 3, rv l127, iv n, iv mk, rv a128, .unset, .unset] [(.int p4), (.int p3), (.int p2), (.int (5 : Int32)), (.int mk), (.ref l127), (.int (5 : Int32)), (.ref a128)])) ?_ fun _ zk => XS.iload H138.here hx rfl (hb hby at_176) rfl zk
        obtain ⟨_, T139, h139, H139, ⟨r139, rfl, rr139, rfl⟩, -, st139⟩ := H138.callS (wd hw 22 rfl) (wd hw 23 rfl) (wd hw 24 rfl) (wd hw 25 rfl) (by decide) (MetN.pay (W := 2) (c_ch l B0 l127 u127 mk p2 p3 p4 [] 5 h138 H138.old ((((((S127.keep K128 nin0 nin0).keep K130 (ninS (adne (by omega)) nin0) (ninS (adne (by omega)) nin0)).keep K132 (ninS (adne (by omega)) nin0) (ninS (adne (by omega)) nin0)).keep K134 (ninS (adne (by omega)) nin0) (ninS (adne (by omega)) nin0)).keep K136 (ninS (adne (by omega)) nin0) (ninS (adne (by omega)) nin0)).keep K138 (ninS (adne (by omega)) nin0) (ninS (adne (by omega)) nin0)) (by decide) (by decide)) (wd hw 25 rfl) (wd hw 24 rfl) (by decide) (by decide)) (g := (mkF m 178 #[iv p0, iv p1, iv p2, iv p3, iv p4, iv 3, rv l127, iv n, iv mk, rv a128, .unset, .unset] [(.int p4), (.int p3), (.int p2), (.int (5 : Int32)), (.int mk), (.ref l127), (.int (5 : Int32)), (.ref a128)])) rfl (by rw [hml]; rfl) (argsL := [(.ref l127), (.int mk), (.int (5 : Int32)), (.int p2), (.int p3), (.int p4)]) (rest := [(.int (5 : Int32)), (.ref a128)]) (lenOf pd__Ljava_lang_String_IIIII_C rfl) rfl rfl (Nat.le_of_eq rfl) (hb hby at_178) (by decide) (by decide) all0
        refine Rn.pu (g' := (mkF m 181 #[iv p0, iv p1, iv p2, iv p3, iv p4, iv 3, rv l127, iv n, iv mk, rv a128, .unset, .unset] [(.int r139), (.int (5 : Int32)), (.ref a128)])) ?_ st139
        obtain ⟨T140, h140, H140, K140, A140, st140⟩ := H139.stC A138 (by decide) rfl (Or.inr (by omega)) (g := (mkF m 181 #[iv p0, iv p1, iv p2, iv p3, iv p4, iv 3, rv l127, iv n, iv mk, rv a128, .unset, .unset] [(.int r139), (.int (5 : Int32)), (.ref a128)])) rfl rfl (hb hby at_181)
        have zh140 := K140.1
        refine Rn.pu (g' := (mkF m 182 #[iv p0, iv p1, iv p2, iv p3, iv p4, iv 3, rv l127, iv n, iv mk, rv a128, .unset, .unset] [])) ?_ st140
        refine Rn.pu (T' := T140) (g' := (mkF m 184 #[iv p0, iv p1, iv p2, iv p3, iv p4, iv 3, rv l127, iv n, iv mk, rv a128, .unset, .unset] [(.ref a128)])) ?_ fun _ zk => XS.aload H140.here hx rfl (hb hby at_182) rfl rfl zk
        refine Rn.pu (T' := T140) (g' := (mkF m 186 #[iv p0, iv p1, iv p2, iv p3, iv p4, iv 3, rv l127, iv n, iv mk, rv a128, .unset, .unset] [(.int (6 : Int32)), (.ref a128)])) ?_ fun _ zk => XS.bipush H140.here hx rfl (hb hby at_184) zk
        refine Rn.pu (T' := T140) (g' := (mkF m 188 #[iv p0, iv p1, iv p2, iv p3, iv p4, iv 3, rv l127, iv n, iv mk, rv a128, .unset, .unset] [(.ref l127), (.int (6 : Int32)), (.ref a128)])) ?_ fun _ zk => XS.aload H140.here hx rfl (hb hby at_186) rfl rfl zk
        refine Rn.pu (T' := T140) (g' := (mkF m 190 #[iv p0, iv p1, iv p2, iv p3, iv p4, iv 3, rv l127, iv n, iv mk, rv a128, .unset, .unset] [(.int mk), (.ref l127), (.int (6 : Int32)), (.ref a128)])) ?_ fun _ zk => XS.iload H140.here hx rfl (hb hby at_188) rfl zk
        refine Rn.pu (T' := T140) (g' := (mkF m 192 #[iv p0, iv p1, iv p2, iv p3, iv p4, iv 3, rv l127, iv n, iv mk, rv a128, .unset, .unset] [(.int (6 : Int32)), (.int mk), (.ref l127), (.int (6 : Int32)), (.ref a128)])) ?_ fun _ zk => XS.bipush H140.here hx rfl (hb hby at_190) zk
        refine Rn.pu (T' := T140) (g' := (mkF m 193 #[iv p0, iv p1, iv p2, iv p3, iv p4, iv 3, rv l127, iv n, iv mk, rv a128, .unset, .unset] [(.int p2), (.int (6 : Int32)), (.int mk), (.ref l127), (.int (6 : Int32)), (.ref a128)])) ?_ fun _ zk => XS.iloadN H140.here hx rfl (hb hby at_192) rfl zk
        refine Rn.pu (T' := T140) (g' := (mkF m 194 #[iv p0, iv p1, iv p2, iv p3, iv p4, iv 3, rv l127, iv n, iv mk, rv a128, .unset, .unset] [(.int p3), (.int p2), (.int (6 : Int32)), (.int mk), (.ref l127), (.int (6 : Int32)), (.ref a128)])) ?_ fun _ zk => XS.iloadN H140.here hx rfl (hb hby at_193) rfl zk
        refine Rn.pu (T' := T140) (g' := (mkF m 196 #[iv p0, iv p1, iv p2, iv p3, iv p4, iv 3, rv l127, iv n, iv mk, rv a128, .unset, .unset] [(.int p4), (.int p3), (.int p2), (.int (6 : Int32)), (.int mk), (.ref l127), (.int (6 : Int32)), (.ref a128)])) ?_ fun _ zk => XS.iload H140.here hx rfl (hb hby at_194) rfl zk
        obtain ⟨_, T141, h141, H141, ⟨r141, rfl, rr141, rfl⟩, -, st141⟩ := H140.callS (wd hw 22 rfl) (wd hw 23 rfl) (wd hw 24 rfl) (wd hw 25 rfl) (by decide) (MetN.pay (W := 2) (c_ch l B0 l127 u127 mk p2 p3 p4 [] 6 h140 H140.old (((((((S127.keep K128 nin0 nin0).keep K130 (ninS (adne (by omega)) nin0) (ninS (adne (by omega)) nin0)).keep K132 (ninS (adne (by omega)) nin0) (ninS (adne (by omega)) nin0)).keep K134 (ninS (adne (by omega)) nin0) (ninS (adne (by omega)) nin0)).keep K136 (ninS (adne (by omega)) nin0) (ninS (adne (by omega)) nin0)).keep K138 (ninS (adne (by omega)) nin0) (ninS (adne (by omega)) nin0)).keep K140 (ninS (adne (by omega)) nin0) (ninS (adne (by omega)) nin0)) (by decide) (by decide)) (wd hw 25 rfl) (wd hw 24 rfl) (by decide) (by decide)) (g := (mkF m 196 #[iv p0, iv p1, iv p2, iv p3, iv p4, iv 3, rv l127, iv n, iv mk, rv a128, .unset, .unset] [(.int p4), (.int p3), (.int p2), (.int (6 : Int32)), (.int mk), (.ref l127), (.int (6 : Int32)), (.ref a128)])) rfl (by rw [hml]; rfl) (argsL := [(.ref l127), (.int mk), (.int (6 : Int32)), (.int p2), (.int p3), (.int p4)]) (rest := [(.int (6 : Int32)), (.ref a128)]) (lenOf pd__Ljava_lang_String_IIIII_C rfl) rfl rfl (Nat.le_of_eq rfl) (hb hby at_196) (by decide) (by decide) all0
        refine Rn.pu (g' := (mkF m 199 #[iv p0, iv p1, iv p2, iv p3, iv p4, iv 3, rv l127, iv n, iv mk, rv a128, .unset, .unset] [(.int r141), (.int (6 : Int32)), (.ref a128)])) ?_ st141
        obtain ⟨T142, h142, H142, K142, A142, st142⟩ := H141.stC A140 (by decide) rfl (Or.inr (by omega)) (g := (mkF m 199 #[iv p0, iv p1, iv p2, iv p3, iv p4, iv 3, rv l127, iv n, iv mk, rv a128, .unset, .unset] [(.int r141), (.int (6 : Int32)), (.ref a128)])) rfl rfl (hb hby at_199)
        have zh142 := K142.1
        refine Rn.pu (g' := (mkF m 200 #[iv p0, iv p1, iv p2, iv p3, iv p4, iv 3, rv l127, iv n, iv mk, rv a128, .unset, .unset] [])) ?_ st142
        refine Rn.pu (T' := T142) (g' := (mkF m 202 #[iv p0, iv p1, iv p2, iv p3, iv p4, iv 3, rv l127, iv n, iv mk, rv a128, .unset, .unset] [(.ref a128)])) ?_ fun _ zk => XS.aload H142.here hx rfl (hb hby at_200) rfl rfl zk
        refine Rn.pu (T' := T142) (g' := (mkF m 204 #[iv p0, iv p1, iv p2, iv p3, iv p4, iv 3, rv l127, iv n, iv mk, rv a128, .unset, .unset] [(.int (7 : Int32)), (.ref a128)])) ?_ fun _ zk => XS.bipush H142.here hx rfl (hb hby at_202) zk
        refine Rn.pu (T' := T142) (g' := (mkF m 206 #[iv p0, iv p1, iv p2, iv p3, iv p4, iv 3, rv l127, iv n, iv mk, rv a128, .unset, .unset] [(.ref l127), (.int (7 : Int32)), (.ref a128)])) ?_ fun _ zk => XS.aload H142.here hx rfl (hb hby at_204) rfl rfl zk
        refine Rn.pu (T' := T142) (g' := (mkF m 208 #[iv p0, iv p1, iv p2, iv p3, iv p4, iv 3, rv l127, iv n, iv mk, rv a128, .unset, .unset] [(.int mk), (.ref l127), (.int (7 : Int32)), (.ref a128)])) ?_ fun _ zk => XS.iload H142.here hx rfl (hb hby at_206) rfl zk
        refine Rn.pu (T' := T142) (g' := (mkF m 210 #[iv p0, iv p1, iv p2, iv p3, iv p4, iv 3, rv l127, iv n, iv mk, rv a128, .unset, .unset] [(.int (7 : Int32)), (.int mk), (.ref l127), (.int (7 : Int32)), (.ref a128)])) ?_ fun _ zk => XS.bipush H142.here hx rfl (hb hby at_208) zk
        refine Rn.pu (T' := T142) (g' := (mkF m 211 #[iv p0, iv p1, iv p2, iv p3, iv p4, iv 3, rv l127, iv n, iv mk, rv a128, .unset, .unset] [(.int p2), (.int (7 : Int32)), (.int mk), (.ref l127), (.int (7 : Int32)), (.ref a128)])) ?_ fun _ zk => XS.iloadN H142.here hx rfl (hb hby at_210) rfl zk
        refine Rn.pu (T' := T142) (g' := (mkF m 212 #[iv p0, iv p1, iv p2, iv p3, iv p4, iv 3, rv l127, iv n, iv mk, rv a128, .unset, .unset] [(.int p3), (.int p2), (.int (7 : Int32)), (.int mk), (.ref l127), (.int (7 : Int32)), (.ref a128)])) ?_ fun _ zk => XS.iloadN H142.here hx rfl (hb hby at_211) rfl zk
        refine Rn.pu (T' := T142) (g' := (mkF m 214 #[iv p0, iv p1, iv p2, iv p3, iv p4, iv 3, rv l127, iv n, iv mk, rv a128, .unset, .unset] [(.int p4), (.int p3), (.int p2), (.int (7 : Int32)), (.int mk), (.ref l127), (.int (7 : Int32)), (.ref a128)])) ?_ fun _ zk => XS.iload H142.here hx rfl (hb hby at_212) rfl zk
        obtain ⟨_, T143, h143, H143, ⟨r143, rfl, rr143, rfl⟩, -, st143⟩ := H142.callS (wd hw 22 rfl) (wd hw 23 rfl) (wd hw 24 rfl) (wd hw 25 rfl) (by decide) (MetN.pay (W := 2) (c_ch l B0 l127 u127 mk p2 p3 p4 [] 7 h142 H142.old ((((((((S127.keep K128 nin0 nin0).keep K130 (ninS (adne (by omega)) nin0) (ninS (adne (by omega)) nin0)).keep K132 (ninS (adne (by omega)) nin0) (ninS (adne (by omega)) nin0)).keep K134 (ninS (adne (by omega)) nin0) (ninS (adne (by omega)) nin0)).keep K136 (ninS (adne (by omega)) nin0) (ninS (adne (by omega)) nin0)).keep K138 (ninS (adne (by omega)) nin0) (ninS (adne (by omega)) nin0)).keep K140 (ninS (adne (by omega)) nin0) (ninS (adne (by omega)) nin0)).keep K142 (ninS (adne (by omega)) nin0) (ninS (adne (by omega)) nin0)) (by decide) (by decide)) (wd hw 25 rfl) (wd hw 24 rfl) (by decide) (by decide)) (g := (mkF m 214 #[iv p0, iv p1, iv p2, iv p3, iv p4, iv 3, rv l127, iv n, iv mk, rv a128, .unset, .unset] [(.int p4), (.int p3), (.int p2), (.int (7 : Int32)), (.int mk), (.ref l127), (.int (7 : Int32)), (.ref a128)])) rfl (by rw [hml]; rfl) (argsL := [(.ref l127), (.int mk), (.int (7 : Int32)), (.int p2), (.int p3), (.int p4)]) (rest := [(.int (7 : Int32)), (.ref a128)]) (lenOf pd__Ljava_lang_String_IIIII_C rfl) rfl rfl (Nat.le_of_eq rfl) (hb hby at_214) (by decide) (by decide) all0
        refine Rn.pu (g' := (mkF m 217 #[iv p0, iv p1, iv p2, iv p3, iv p4, iv 3, rv l127, iv n, iv mk, rv a128, .unset, .unset] [(.int r143), (.int (7 : Int32)), (.ref a128)])) ?_ st143
        obtain ⟨T144, h144, H144, K144, A144, st144⟩ := H143.stC A142 (by decide) rfl (Or.inr (by omega)) (g := (mkF m 217 #[iv p0, iv p1, iv p2, iv p3, iv p4, iv 3, rv l127, iv n, iv mk, rv a128, .unset, .unset] [(.int r143), (.int (7 : Int32)), (.ref a128)])) rfl rfl (hb hby at_217)
        have zh144 := K144.1
        refine Rn.pu (g' := (mkF m 218 #[iv p0, iv p1, iv p2, iv p3, iv p4, iv 3, rv l127, iv n, iv mk, rv a128, .unset, .unset] [])) ?_ st144
        refine Rn.pu (T' := T144) (g' := (mkF m 220 #[iv p0, iv p1, iv p2, iv p3, iv p4, iv 3, rv l127, iv n, iv mk, rv a128, .unset, .unset] [(.ref a128)])) ?_ fun _ zk => XS.aload H144.here hx rfl (hb hby at_218) rfl rfl zk
        refine Rn.pu (T' := T144) (g' := (mkF m 222 #[iv p0, iv p1, iv p2, iv p3, iv p4, iv 3, rv l127, iv n, iv mk, rv a128, .unset, .unset] [(.int (8 : Int32)), (.ref a128)])) ?_ fun _ zk => XS.bipush H144.here hx rfl (hb hby at_220) zk
        refine Rn.pu (T' := T144) (g' := (mkF m 224 #[iv p0, iv p1, iv p2, iv p3, iv p4, iv 3, rv l127, iv n, iv mk, rv a128, .unset, .unset] [(.ref l127), (.int (8 : Int32)), (.ref a128)])) ?_ fun _ zk => XS.aload H144.here hx rfl (hb hby at_222) rfl rfl zk
        refine Rn.pu (T' := T144) (g' := (mkF m 226 #[iv p0, iv p1, iv p2, iv p3, iv p4, iv 3, rv l127, iv n, iv mk, rv a128, .unset, .unset] [(.int mk), (.ref l127), (.int (8 : Int32)), (.ref a128)])) ?_ fun _ zk => XS.iload H144.here hx rfl (hb hby at_224) rfl zk
        refine Rn.pu (T' := T144) (g' := (mkF m 228 #[iv p0, iv p1, iv p2, iv p3, iv p4, iv 3, rv l127, iv n, iv mk, rv a128, .unset, .unset] [(.int (8 : Int32)), (.int mk), (.ref l127), (.int (8 : Int32)), (.ref a128)])) ?_ fun _ zk => XS.bipush H144.here hx rfl (hb hby at_226) zk
        refine Rn.pu (T' := T144) (g' := (mkF m 229 #[iv p0, iv p1, iv p2, iv p3, iv p4, iv 3, rv l127, iv n, iv mk, rv a128, .unset, .unset] [(.int p2), (.int (8 : Int32)), (.int mk), (.ref l127), (.int (8 : Int32)), (.ref a128)])) ?_ fun _ zk => XS.iloadN H144.here hx rfl (hb hby at_228) rfl zk
        refine Rn.pu (T' := T144) (g' := (mkF m 230 #[iv p0, iv p1, iv p2, iv p3, iv p4, iv 3, rv l127, iv n, iv mk, rv a128, .unset, .unset] [(.int p3), (.int p2), (.int (8 : Int32)), (.int mk), (.ref l127), (.int (8 : Int32)), (.ref a128)])) ?_ fun _ zk => XS.iloadN H144.here hx rfl (hb hby at_229) rfl zk
        refine Rn.pu (T' := T144) (g' := (mkF m 232 #[iv p0, iv p1, iv p2, iv p3, iv p4, iv 3, rv l127, iv n, iv mk, rv a128, .unset, .unset] [(.int p4), (.int p3), (.int p2), (.int (8 : Int32)), (.int mk), (.ref l127), (.int (8 : Int32)), (.ref a128)])) ?_ fun _ zk => XS.iload H144.here hx rfl (hb hby at_230) rfl zk
        obtain ⟨_, T145, h145, H145, ⟨r145, rfl, rr145, rfl⟩, -, st145⟩ := H144.callS (wd hw 22 rfl) (wd hw 23 rfl) (wd hw 24 rfl) (wd hw 25 rfl) (by decide) (MetN.pay (W := 2) (c_ch l B0 l127 u127 mk p2 p3 p4 [] 8 h144 H144.old (((((((((S127.keep K128 nin0 nin0).keep K130 (ninS (adne (by omega)) nin0) (ninS (adne (by omega)) nin0)).keep K132 (ninS (adne (by omega)) nin0) (ninS (adne (by omega)) nin0)).keep K134 (ninS (adne (by omega)) nin0) (ninS (adne (by omega)) nin0)).keep K136 (ninS (adne (by omega)) nin0) (ninS (adne (by omega)) nin0)).keep K138 (ninS (adne (by omega)) nin0) (ninS (adne (by omega)) nin0)).keep K140 (ninS (adne (by omega)) nin0) (ninS (adne (by omega)) nin0)).keep K142 (ninS (adne (by omega)) nin0) (ninS (adne (by omega)) nin0)).keep K144 (ninS (adne (by omega)) nin0) (ninS (adne (by omega)) nin0)) (by decide) (by decide)) (wd hw 25 rfl) (wd hw 24 rfl) (by decide) (by decide)) (g := (mkF m 232 #[iv p0, iv p1, iv p2, iv p3, iv p4, iv 3, rv l127, iv n, iv mk, rv a128, .unset, .unset] [(.int p4), (.int p3), (.int p2), (.int (8 : Int32)), (.int mk), (.ref l127), (.int (8 : Int32)), (.ref a128)])) rfl (by rw [hml]; rfl) (argsL := [(.ref l127), (.int mk), (.int (8 : Int32)), (.int p2), (.int p3), (.int p4)]) (rest := [(.int (8 : Int32)), (.ref a128)]) (lenOf pd__Ljava_lang_String_IIIII_C rfl) rfl rfl (Nat.le_of_eq rfl) (hb hby at_232) (by decide) (by decide) all0
        refine Rn.pu (g' := (mkF m 235 #[iv p0, iv p1, iv p2, iv p3, iv p4, iv 3, rv l127, iv n, iv mk, rv a128, .unset, .unset] [(.int r145), (.int (8 : Int32)), (.ref a128)])) ?_ st145
        obtain ⟨T146, h146, H146, K146, A146, st146⟩ := H145.stC A144 (by decide) rfl (Or.inr (by omega)) (g := (mkF m 235 #[iv p0, iv p1, iv p2, iv p3, iv p4, iv 3, rv l127, iv n, iv mk, rv a128, .unset, .unset] [(.int r145), (.int (8 : Int32)), (.ref a128)])) rfl rfl (hb hby at_235)
        have zh146 := K146.1
        refine Rn.pu (g' := (mkF m 236 #[iv p0, iv p1, iv p2, iv p3, iv p4, iv 3, rv l127, iv n, iv mk, rv a128, .unset, .unset] [])) ?_ st146
        refine Rn.pu (T' := T146) (g' := (mkF m 238 #[iv p0, iv p1, iv p2, iv p3, iv p4, iv 3, rv l127, iv n, iv mk, rv a128, .unset, .unset] [(.ref a128)])) ?_ fun _ zk => XS.aload H146.here hx rfl (hb hby at_236) rfl rfl zk
        refine Rn.pu (T' := T146) (g' := (mkF m 240 #[iv p0, iv p1, iv p2, iv p3, iv p4, iv 3, rv l127, iv n, iv mk, rv a128, .unset, .unset] [(.int n), (.ref a128)])) ?_ fun _ zk => XS.iload H146.here hx rfl (hb hby at_238) rfl zk
        obtain ⟨_, T147, h147, H147, ⟨V147, m147, t147, c147, rfl, S147, ga147, la147, lt147⟩, K147, st147⟩ := H146.callSW (wd hw 48 rfl) (wd hw 49 rfl) (wd hw 24 rfl) (wd hw 50 rfl) (by decide) (MetW.pay (W := 0) (c_cut l B0 [] (fun vm => Lv Z "com/example/calm_inbox/calminbox/webhook/WebhookStatusFromWireNamePinLaw" 13 l127 vm ∧ Z.Warmed39 vm) (fun U vm1 hW q => ⟨q.1.stab hW, w39_stab U vm1 hW q.2⟩) a128 k128 (.int 0) n (nar .char r129) (nar .char r131) (nar .char r133) (nar .char r135) (nar .char r137) (nar .char r139) (nar .char r141) (nar .char r143) (nar .char r145) h146 H146.old yJ63 A146 (lat_nar rr129) (lat_nar rr131) (lat_nar rr133) (lat_nar rr135) (lat_nar rr137) (lat_nar rr139) (lat_nar rr141) (lat_nar rr143) (lat_nar rr145)) (wd hw 50 rfl) (wd hw 24 rfl) (by decide) (by decide)) (g := (mkF m 240 #[iv p0, iv p1, iv p2, iv p3, iv p4, iv 3, rv l127, iv n, iv mk, rv a128, .unset, .unset] [(.int n), (.ref a128)])) rfl (by rw [hml]; rfl) (argsL := [(.ref a128), (.int n)]) (rest := []) (lenOf pd__ACI_Ljava_lang_String_ rfl) rfl rfl (Nat.le_of_eq rfl) (hb hby at_240) (by decide) (by decide) all0 (fun U vm1 hV hW => (EG.stab (Ts := []) (P := (fun vm => Lv Z "com/example/calm_inbox/calminbox/webhook/WebhookStatusFromWireNamePinLaw" 13 l127 vm ∧ Z.Warmed39 vm)) (fun U vm1 hW q => ⟨q.1.stab hW, w39_stab U vm1 hW q.2⟩) hW ⟨⟨hV.2.1, hV.2.2.1⟩, hV.1, hV.2.2.2⟩).keep (((((((((((Keep.refl _ []).trans K128 all0).trans K130 (allS (Or.inr (by omega)) all0)).trans K132 (allS (Or.inr (by omega)) all0)).trans K134 (allS (Or.inr (by omega)) all0)).trans K136 (allS (Or.inr (by omega)) all0)).trans K138 (allS (Or.inr (by omega)) all0)).trans K140 (allS (Or.inr (by omega)) all0)).trans K142 (allS (Or.inr (by omega)) all0)).trans K144 (allS (Or.inr (by omega)) all0)).trans K146 (allS (Or.inr (by omega)) all0)))
        have zh147 := K147.1
        have H147 := H147.reV (V' := (fun vm => ((fun vm => Lv Z "com/example/calm_inbox/calminbox/webhook/WebhookStatusFromWireNamePinLaw" 13 l127 vm ∧ Z.Warmed39 vm)) vm ∧ IB Z vm ("" :: []))) (fun v hv => by rw [hv]; exact V147)
        refine Rn.pu (g' := (mkF m 243 #[iv p0, iv p1, iv p2, iv p3, iv p4, iv 3, rv l127, iv n, iv mk, rv a128, .unset, .unset] [(.ref m147)])) ?_ st147
        refine Rn.pu (T' := T147) (g' := (mkF m 245 #[iv p0, iv p1, iv p2, iv p3, iv p4, iv 3, rv l127, iv n, iv mk, rv a128, rv m147, .unset] [])) ?_ fun _ zk => XS.astore H147.here hx rfl (hb hby at_243) rfl rfl (l' := #[iv p0, iv p1, iv p2, iv p3, iv p4, iv 3, rv l127, iv n, iv mk, rv a128, rv m147, .unset]) rfl zk
        refine Rn.pu (T' := T147) (g' := (mkF m 247 #[iv p0, iv p1, iv p2, iv p3, iv p4, iv 3, rv l127, iv n, iv mk, rv a128, rv m147, .unset] [(.ref m147)])) ?_ fun _ zk => XS.aload H147.here hx rfl (hb hby at_245) rfl rfl zk
        obtain ⟨l148, u148, T148, h148, H148, K148, S148, st148⟩ := H147.ldcV (Ts := "" :: []) (P := (fun vm => Lv Z "com/example/calm_inbox/calminbox/webhook/WebhookStatusFromWireNamePinLaw" 13 l127 vm ∧ Z.Warmed39 vm)) (fun _ q => ⟨q.2, q.1⟩) (fun U vm1 hW q => ⟨q.1.stab hW, w39_stab U vm1 hW q.2⟩) (wd hw 0 rfl) (hws_sa hw) (by simp) hhA hcw (cs := [(97 : Int32), (99 : Int32), (116 : Int32), (105 : Int32), (118 : Int32), (101 : Int32)]) (by decide) (by decide) (by decide) (by decide) (g := (mkF m 247 #[iv p0, iv p1, iv p2, iv p3, iv p4, iv 3, rv l127, iv n, iv mk, rv a128, rv m147, .unset] [(.ref m147)])) rfl (hb hby at_247) (n := 24) (by decide) (by decide) (by decide) (by decide)
        have zh148 := K148.1
        have H148 := H148.reV (V' := (fun vm => ((fun vm => Lv Z "com/example/calm_inbox/calminbox/webhook/WebhookStatusFromWireNamePinLaw" 7 l148 vm ∧ Lv Z "com/example/calm_inbox/calminbox/webhook/WebhookStatusFromWireNamePinLaw" 13 l127 vm ∧ Z.Warmed39 vm)) vm ∧ IB Z vm ("active" :: "" :: []))) (fun _ q => ⟨⟨q.2.1, q.2.2⟩, q.1⟩)
        have l148a := natlt (S148).lt
        have l148t := natlt (S148).ltt
        refine Rn.pu (g' := (mkF m 249 #[iv p0, iv p1, iv p2, iv p3, iv p4, iv 3, rv l127, iv n, iv mk, rv a128, rv m147, .unset] [(.ref l148), (.ref m147)])) ?_ st148
        by_cases q249_149 : c147 = [(97 : Int32), (99 : Int32), (116 : Int32), (105 : Int32), (118 : Int32), (101 : Int32)]
        ·
          obtain ⟨_, T150, h150, H150, ⟨rfl, rfl⟩, -, st150⟩ := H148.callV (C := "java/lang/String") (wd hw 72 rfl) (wd hw 73 rfl) (wd hw 75 rfl) (wd hw 74 rfl) (by decide) (payEqY (W := 0) q249_149 (hws_eq hw) (wd hw 2 rfl) (S147.keep K148 nin0 nin0) S148 (SC0.ext H148.old) hz0 (by decide) (by decide)) (S147.keep K148 nin0 nin0).exa (g := (mkF m 249 #[iv p0, iv p1, iv p2, iv p3, iv p4, iv 3, rv l127, iv n, iv mk, rv a128, rv m147, .unset] [(.ref l148), (.ref m147)])) rfl (by rw [hml]; rfl) (argsL := [(.ref l148)]) (rest := []) (lenOf pd__Ljava_lang_Object__Z rfl) rfl rfl (Nat.le_of_eq rfl) (hb hby at_249) (by decide) (by decide) all0
          refine Rn.pu (g' := (mkF m 252 #[iv p0, iv p1, iv p2, iv p3, iv p4, iv 3, rv l127, iv n, iv mk, rv a128, rv m147, .unset] [(.int (1 : Int32))])) ?_ st150
          refine Rn.pu (T' := T150) (g' := (mkF m 255 #[iv p0, iv p1, iv p2, iv p3, iv p4, iv 3, rv l127, iv n, iv mk, rv a128, rv m147, .unset] [])) ?_ fun _ zk => XS.ifNo H150.here hx rfl (hb hby at_252) rfl (z_eq_f (by decide)) zk
          obtain ⟨T151, H151, st151⟩ := H150.getS (host := "") (Or.inl (wd hw 81 rfl)) Via.refl (SaA.ext H150.old) (g := (mkF m 255 #[iv p0, iv p1, iv p2, iv p3, iv p4, iv 3, rv l127, iv n, iv mk, rv a128, rv m147, .unset] [])) rfl (hb hby at_255)
          refine Rn.pu (g' := (mkF m 258 #[iv p0, iv p1, iv p2, iv p3, iv p4, iv 3, rv l127, iv n, iv mk, rv a128, rv m147, .unset] [(.ref aA)])) ?_ st151
          refine Rn.pu (T' := T151) (g' := (mkF m 294 #[iv p0, iv p1, iv p2, iv p3, iv p4, iv 3, rv l127, iv n, iv mk, rv a128, rv m147, .unset] [(.ref aA)])) ?_ fun _ zk => XS.goto H151.here hx rfl (pc0 := 258) (pc' := 294) rfl (hb hby at_258) (by decide) (by decide) zk
          refine Rn.pu (T' := T151) (g' := (mkF m 296 #[iv p0, iv p1, iv p2, iv p3, iv p4, iv 3, rv l127, iv n, iv mk, rv a128, rv m147, rv aA] [])) ?_ fun _ zk => XS.astore H151.here hx rfl (hb hby at_294) rfl rfl (l' := #[iv p0, iv p1, iv p2, iv p3, iv p4, iv 3, rv l127, iv n, iv mk, rv a128, rv m147, rv aA]) rfl zk
          refine Rn.pu (T' := T151) (g' := (mkF m 298 #[iv p0, iv p1, iv p2, iv p3, iv p4, iv 3, rv l127, iv n, iv mk, rv a128, rv m147, rv aA] [(.ref m147)])) ?_ fun _ zk => XS.aload H151.here hx rfl (hb hby at_296) rfl rfl zk
          obtain ⟨_, T152, h152, H152, rfl, K152, st152⟩ := H151.callS (wd hw 84 rfl) (wd hw 85 rfl) (wd hw 82 rfl) (wd hw 86 rfl) (by decide) (MetN.pay (W := 0) (c_fw0 l B0 m147 t147 (c147) h148 H151.old (S147.keep K148 nin0 nin0) q249_149.symm) (wd hw 86 rfl) (wd hw 82 rfl) (by decide) (by decide)) (g := (mkF m 298 #[iv p0, iv p1, iv p2, iv p3, iv p4, iv 3, rv l127, iv n, iv mk, rv a128, rv m147, rv aA] [(.ref m147)])) rfl (by rw [hml]; rfl) (argsL := [(.ref m147)]) (rest := []) (lenOf pd__Ljava_lang_String__Lcom_example_calm_inbox_calminbox_webhook_WebhookStatus_ rfl) rfl rfl (Nat.le_of_eq rfl) (hb hby at_298) (by decide) (by decide) all0
          have zh152 := K152.1
          refine Rn.pu (g' := (mkF m 301 #[iv p0, iv p1, iv p2, iv p3, iv p4, iv 3, rv l127, iv n, iv mk, rv a128, rv m147, rv aA] [(.ref aA)])) ?_ st152
          refine Rn.pu (T' := T152) (g' := (mkF m 303 #[iv p0, iv p1, iv p2, iv p3, iv p4, iv 3, rv l127, iv n, iv mk, rv a128, rv m147, rv aA] [(.ref aA), (.ref aA)])) ?_ fun _ zk => XS.aload H152.here hx rfl (hb hby at_301) rfl rfl zk
          refine Rn.pu (T' := T152) (g' := (mkF m 306 #[iv p0, iv p1, iv p2, iv p3, iv p4, iv 3, rv l127, iv n, iv mk, rv a128, rv m147, rv aA] [])) ?_ fun _ zk => XT.acmpNo H152.here hx rfl (hb hby at_303) rfl rfl rfl (ac_ne_f rfl) zk
          refine Rn.pu (T' := T152) (g' := (mkF m 307 #[iv p0, iv p1, iv p2, iv p3, iv p4, iv 3, rv l127, iv n, iv mk, rv a128, rv m147, rv aA] [(.int (1 : Int32))])) ?_ fun _ zk => XS.iconst H152.here hx rfl (hb hby at_306) zk
          refine Rn.pu (T' := T152) (g' := (mkF m 311 #[iv p0, iv p1, iv p2, iv p3, iv p4, iv 3, rv l127, iv n, iv mk, rv a128, rv m147, rv aA] [(.int (1 : Int32))])) ?_ fun _ zk => XS.goto H152.here hx rfl (pc0 := 307) (pc' := 311) rfl (hb hby at_307) (by decide) (by decide) zk
          exact H152.retS ends_W hlk (t := .boolean) hret (by simp) (hb hby at_311) (by decide) (by decide) (fun _ q => nomatch q) rfl
        ·
          obtain ⟨_, T153, h153, H153, ⟨rfl, rfl⟩, -, st153⟩ := H148.callV (C := "java/lang/String") (wd hw 72 rfl) (wd hw 73 rfl) (wd hw 75 rfl) (wd hw 74 rfl) (by decide) (payEqN (W := 0) q249_149 (hws_eq hw) (wd hw 2 rfl) (S147.keep K148 nin0 nin0) S148 (SC0.ext H148.old) hz0 (by decide) (by decide)) (S147.keep K148 nin0 nin0).exa (g := (mkF m 249 #[iv p0, iv p1, iv p2, iv p3, iv p4, iv 3, rv l127, iv n, iv mk, rv a128, rv m147, .unset] [(.ref l148), (.ref m147)])) rfl (by rw [hml]; rfl) (argsL := [(.ref l148)]) (rest := []) (lenOf pd__Ljava_lang_Object__Z rfl) rfl rfl (Nat.le_of_eq rfl) (hb hby at_249) (by decide) (by decide) all0
          refine Rn.pu (g' := (mkF m 252 #[iv p0, iv p1, iv p2, iv p3, iv p4, iv 3, rv l127, iv n, iv mk, rv a128, rv m147, .unset] [(.int (0 : Int32))])) ?_ st153
          refine Rn.pu (T' := T153) (g' := (mkF m 261 #[iv p0, iv p1, iv p2, iv p3, iv p4, iv 3, rv l127, iv n, iv mk, rv a128, rv m147, .unset] [])) ?_ fun _ zk => XS.ifYes H153.here hx rfl (pc0 := 252) (pc' := 261) rfl (hb hby at_252) rfl (z_eq_t rfl) (by decide) (by decide) zk
          refine Rn.pu (T' := T153) (g' := (mkF m 263 #[iv p0, iv p1, iv p2, iv p3, iv p4, iv 3, rv l127, iv n, iv mk, rv a128, rv m147, .unset] [(.ref m147)])) ?_ fun _ zk => XS.aload H153.here hx rfl (hb hby at_261) rfl rfl zk
          obtain ⟨l154, u154, T154, h154, H154, K154, S154, st154⟩ := H153.ldcV (Ts := "active" :: "" :: []) (P := (fun vm => Lv Z "com/example/calm_inbox/calminbox/webhook/WebhookStatusFromWireNamePinLaw" 7 l148 vm ∧ Lv Z "com/example/calm_inbox/calminbox/webhook/WebhookStatusFromWireNamePinLaw" 13 l127 vm ∧ Z.Warmed39 vm)) (fun _ q => ⟨q.2, q.1⟩) (fun U vm1 hW q => ⟨q.1.stab hW, q.2.1.stab hW, w39_stab U vm1 hW q.2.2⟩) (wd hw 109 rfl) (hws_sa hw) (by simp) hhF hcw (cs := [(102 : Int32), (97 : Int32), (105 : Int32), (108 : Int32), (105 : Int32), (110 : Int32), (103 : Int32)]) (by decide) (by decide) (by decide) (by decide) (g := (mkF m 263 #[iv p0, iv p1, iv p2, iv p3, iv p4, iv 3, rv l127, iv n, iv mk, rv a128, rv m147, .unset] [(.ref m147)])) rfl (hb hby at_263) (n := 28) (by decide) (by decide) (by decide) (by decide)
          have zh154 := K154.1
          have H154 := H154.reV (V' := (fun vm => ((fun vm => Lv Z "com/example/calm_inbox/calminbox/webhook/WebhookStatusFromWireNamePinLaw" 9 l154 vm ∧ Lv Z "com/example/calm_inbox/calminbox/webhook/WebhookStatusFromWireNamePinLaw" 7 l148 vm ∧ Lv Z "com/example/calm_inbox/calminbox/webhook/WebhookStatusFromWireNamePinLaw" 13 l127 vm ∧ Z.Warmed39 vm)) vm ∧ IB Z vm ("failing" :: "active" :: "" :: []))) (fun _ q => ⟨⟨q.2.1, q.2.2⟩, q.1⟩)
          have l154a := natlt (S154).lt
          have l154t := natlt (S154).ltt
          refine Rn.pu (g' := (mkF m 265 #[iv p0, iv p1, iv p2, iv p3, iv p4, iv 3, rv l127, iv n, iv mk, rv a128, rv m147, .unset] [(.ref l154), (.ref m147)])) ?_ st154
          by_cases q265_155 : c147 = [(102 : Int32), (97 : Int32), (105 : Int32), (108 : Int32), (105 : Int32), (110 : Int32), (103 : Int32)]
          ·
            obtain ⟨_, T156, h156, H156, ⟨rfl, rfl⟩, -, st156⟩ := H154.callV (C := "java/lang/String") (wd hw 72 rfl) (wd hw 73 rfl) (wd hw 75 rfl) (wd hw 74 rfl) (by decide) (payEqY (W := 0) q265_155 (hws_eq hw) (wd hw 2 rfl) ((S147.keep K148 nin0 nin0).keep K154 nin0 nin0) S154 (SC0.ext H154.old) hz0 (by decide) (by decide)) ((S147.keep K148 nin0 nin0).keep K154 nin0 nin0).exa (g := (mkF m 265 #[iv p0, iv p1, iv p2, iv p3, iv p4, iv 3, rv l127, iv n, iv mk, rv a128, rv m147, .unset] [(.ref l154), (.ref m147)])) rfl (by rw [hml]; rfl) (argsL := [(.ref l154)]) (rest := []) (lenOf pd__Ljava_lang_Object__Z rfl) rfl rfl (Nat.le_of_eq rfl) (hb hby at_265) (by decide) (by decide) all0
            refine Rn.pu (g' := (mkF m 268 #[iv p0, iv p1, iv p2, iv p3, iv p4, iv 3, rv l127, iv n, iv mk, rv a128, rv m147, .unset] [(.int (1 : Int32))])) ?_ st156
            refine Rn.pu (T' := T156) (g' := (mkF m 271 #[iv p0, iv p1, iv p2, iv p3, iv p4, iv 3, rv l127, iv n, iv mk, rv a128, rv m147, .unset] [])) ?_ fun _ zk => XS.ifNo H156.here hx rfl (hb hby at_268) rfl (z_eq_f (by decide)) zk
            obtain ⟨T157, H157, st157⟩ := H156.getS (host := "") (Or.inl (wd hw 112 rfl)) Via.refl (SaF.ext H156.old) (g := (mkF m 271 #[iv p0, iv p1, iv p2, iv p3, iv p4, iv 3, rv l127, iv n, iv mk, rv a128, rv m147, .unset] [])) rfl (hb hby at_271)
            refine Rn.pu (g' := (mkF m 274 #[iv p0, iv p1, iv p2, iv p3, iv p4, iv 3, rv l127, iv n, iv mk, rv a128, rv m147, .unset] [(.ref aF)])) ?_ st157
            refine Rn.pu (T' := T157) (g' := (mkF m 294 #[iv p0, iv p1, iv p2, iv p3, iv p4, iv 3, rv l127, iv n, iv mk, rv a128, rv m147, .unset] [(.ref aF)])) ?_ fun _ zk => XS.goto H157.here hx rfl (pc0 := 274) (pc' := 294) rfl (hb hby at_274) (by decide) (by decide) zk
            refine Rn.pu (T' := T157) (g' := (mkF m 296 #[iv p0, iv p1, iv p2, iv p3, iv p4, iv 3, rv l127, iv n, iv mk, rv a128, rv m147, rv aF] [])) ?_ fun _ zk => XS.astore H157.here hx rfl (hb hby at_294) rfl rfl (l' := #[iv p0, iv p1, iv p2, iv p3, iv p4, iv 3, rv l127, iv n, iv mk, rv a128, rv m147, rv aF]) rfl zk
            refine Rn.pu (T' := T157) (g' := (mkF m 298 #[iv p0, iv p1, iv p2, iv p3, iv p4, iv 3, rv l127, iv n, iv mk, rv a128, rv m147, rv aF] [(.ref m147)])) ?_ fun _ zk => XS.aload H157.here hx rfl (hb hby at_296) rfl rfl zk
            obtain ⟨_, T158, h158, H158, rfl, K158, st158⟩ := H157.callS (wd hw 84 rfl) (wd hw 85 rfl) (wd hw 82 rfl) (wd hw 86 rfl) (by decide) (MetN.pay (W := 0) (c_fw1 l B0 m147 t147 (c147) h154 H157.old ((S147.keep K148 nin0 nin0).keep K154 nin0 nin0) (fun r => q249_149 r.symm) q265_155.symm) (wd hw 86 rfl) (wd hw 82 rfl) (by decide) (by decide)) (g := (mkF m 298 #[iv p0, iv p1, iv p2, iv p3, iv p4, iv 3, rv l127, iv n, iv mk, rv a128, rv m147, rv aF] [(.ref m147)])) rfl (by rw [hml]; rfl) (argsL := [(.ref m147)]) (rest := []) (lenOf pd__Ljava_lang_String__Lcom_example_calm_inbox_calminbox_webhook_WebhookStatus_ rfl) rfl rfl (Nat.le_of_eq rfl) (hb hby at_298) (by decide) (by decide) all0
            have zh158 := K158.1
            refine Rn.pu (g' := (mkF m 301 #[iv p0, iv p1, iv p2, iv p3, iv p4, iv 3, rv l127, iv n, iv mk, rv a128, rv m147, rv aF] [(.ref aF)])) ?_ st158
            refine Rn.pu (T' := T158) (g' := (mkF m 303 #[iv p0, iv p1, iv p2, iv p3, iv p4, iv 3, rv l127, iv n, iv mk, rv a128, rv m147, rv aF] [(.ref aF), (.ref aF)])) ?_ fun _ zk => XS.aload H158.here hx rfl (hb hby at_301) rfl rfl zk
            refine Rn.pu (T' := T158) (g' := (mkF m 306 #[iv p0, iv p1, iv p2, iv p3, iv p4, iv 3, rv l127, iv n, iv mk, rv a128, rv m147, rv aF] [])) ?_ fun _ zk => XT.acmpNo H158.here hx rfl (hb hby at_303) rfl rfl rfl (ac_ne_f rfl) zk
            refine Rn.pu (T' := T158) (g' := (mkF m 307 #[iv p0, iv p1, iv p2, iv p3, iv p4, iv 3, rv l127, iv n, iv mk, rv a128, rv m147, rv aF] [(.int (1 : Int32))])) ?_ fun _ zk => XS.iconst H158.here hx rfl (hb hby at_306) zk
            refine Rn.pu (T' := T158) (g' := (mkF m 311 #[iv p0, iv p1, iv p2, iv p3, iv p4, iv 3, rv l127, iv n, iv mk, rv a128, rv m147, rv aF] [(.int (1 : Int32))])) ?_ fun _ zk => XS.goto H158.here hx rfl (pc0 := 307) (pc' := 311) rfl (hb hby at_307) (by decide) (by decide) zk
            exact H158.retS ends_W hlk (t := .boolean) hret (by simp) (hb hby at_311) (by decide) (by decide) (fun _ q => nomatch q) rfl
          ·
            obtain ⟨_, T159, h159, H159, ⟨rfl, rfl⟩, -, st159⟩ := H154.callV (C := "java/lang/String") (wd hw 72 rfl) (wd hw 73 rfl) (wd hw 75 rfl) (wd hw 74 rfl) (by decide) (payEqN (W := 0) q265_155 (hws_eq hw) (wd hw 2 rfl) ((S147.keep K148 nin0 nin0).keep K154 nin0 nin0) S154 (SC0.ext H154.old) hz0 (by decide) (by decide)) ((S147.keep K148 nin0 nin0).keep K154 nin0 nin0).exa (g := (mkF m 265 #[iv p0, iv p1, iv p2, iv p3, iv p4, iv 3, rv l127, iv n, iv mk, rv a128, rv m147, .unset] [(.ref l154), (.ref m147)])) rfl (by rw [hml]; rfl) (argsL := [(.ref l154)]) (rest := []) (lenOf pd__Ljava_lang_Object__Z rfl) rfl rfl (Nat.le_of_eq rfl) (hb hby at_265) (by decide) (by decide) all0
            refine Rn.pu (g' := (mkF m 268 #[iv p0, iv p1, iv p2, iv p3, iv p4, iv 3, rv l127, iv n, iv mk, rv a128, rv m147, .unset] [(.int (0 : Int32))])) ?_ st159
            refine Rn.pu (T' := T159) (g' := (mkF m 277 #[iv p0, iv p1, iv p2, iv p3, iv p4, iv 3, rv l127, iv n, iv mk, rv a128, rv m147, .unset] [])) ?_ fun _ zk => XS.ifYes H159.here hx rfl (pc0 := 268) (pc' := 277) rfl (hb hby at_268) rfl (z_eq_t rfl) (by decide) (by decide) zk
            refine Rn.pu (T' := T159) (g' := (mkF m 279 #[iv p0, iv p1, iv p2, iv p3, iv p4, iv 3, rv l127, iv n, iv mk, rv a128, rv m147, .unset] [(.ref m147)])) ?_ fun _ zk => XS.aload H159.here hx rfl (hb hby at_277) rfl rfl zk
            obtain ⟨l160, u160, T160, h160, H160, K160, S160, st160⟩ := H159.ldcV (Ts := "failing" :: "active" :: "" :: []) (P := (fun vm => Lv Z "com/example/calm_inbox/calminbox/webhook/WebhookStatusFromWireNamePinLaw" 9 l154 vm ∧ Lv Z "com/example/calm_inbox/calminbox/webhook/WebhookStatusFromWireNamePinLaw" 7 l148 vm ∧ Lv Z "com/example/calm_inbox/calminbox/webhook/WebhookStatusFromWireNamePinLaw" 13 l127 vm ∧ Z.Warmed39 vm)) (fun _ q => ⟨q.2, q.1⟩) (fun U vm1 hW q => ⟨q.1.stab hW, q.2.1.stab hW, q.2.2.1.stab hW, w39_stab U vm1 hW q.2.2.2⟩) (wd hw 110 rfl) (hws_sa hw) (by simp) hhD hcw (cs := [(100 : Int32), (105 : Int32), (115 : Int32), (97 : Int32), (98 : Int32), (108 : Int32), (101 : Int32), (100 : Int32)]) (by decide) (by decide) (by decide) (by decide) (g := (mkF m 279 #[iv p0, iv p1, iv p2, iv p3, iv p4, iv 3, rv l127, iv n, iv mk, rv a128, rv m147, .unset] [(.ref m147)])) rfl (hb hby at_279) (n := 32) (by decide) (by decide) (by decide) (by decide)
            have zh160 := K160.1
            have H160 := H160.reV (V' := (fun vm => ((fun vm => Lv Z "com/example/calm_inbox/calminbox/webhook/WebhookStatusFromWireNamePinLaw" 11 l160 vm ∧ Lv Z "com/example/calm_inbox/calminbox/webhook/WebhookStatusFromWireNamePinLaw" 9 l154 vm ∧ Lv Z "com/example/calm_inbox/calminbox/webhook/WebhookStatusFromWireNamePinLaw" 7 l148 vm ∧ Lv Z "com/example/calm_inbox/calminbox/webhook/WebhookStatusFromWireNamePinLaw" 13 l127 vm ∧ Z.Warmed39 vm)) vm ∧ IB Z vm ("disabled" :: "failing" :: "active" :: "" :: []))) (fun _ q => ⟨⟨q.2.1, q.2.2⟩, q.1⟩)
            have l160a := natlt (S160).lt
            have l160t := natlt (S160).ltt
            refine Rn.pu (g' := (mkF m 281 #[iv p0, iv p1, iv p2, iv p3, iv p4, iv 3, rv l127, iv n, iv mk, rv a128, rv m147, .unset] [(.ref l160), (.ref m147)])) ?_ st160
            by_cases q281_161 : c147 = [(100 : Int32), (105 : Int32), (115 : Int32), (97 : Int32), (98 : Int32), (108 : Int32), (101 : Int32), (100 : Int32)]
            ·
              obtain ⟨_, T162, h162, H162, ⟨rfl, rfl⟩, -, st162⟩ := H160.callV (C := "java/lang/String") (wd hw 72 rfl) (wd hw 73 rfl) (wd hw 75 rfl) (wd hw 74 rfl) (by decide) (payEqY (W := 0) q281_161 (hws_eq hw) (wd hw 2 rfl) (((S147.keep K148 nin0 nin0).keep K154 nin0 nin0).keep K160 nin0 nin0) S160 (SC0.ext H160.old) hz0 (by decide) (by decide)) (((S147.keep K148 nin0 nin0).keep K154 nin0 nin0).keep K160 nin0 nin0).exa (g := (mkF m 281 #[iv p0, iv p1, iv p2, iv p3, iv p4, iv 3, rv l127, iv n, iv mk, rv a128, rv m147, .unset] [(.ref l160), (.ref m147)])) rfl (by rw [hml]; rfl) (argsL := [(.ref l160)]) (rest := []) (lenOf pd__Ljava_lang_Object__Z rfl) rfl rfl (Nat.le_of_eq rfl) (hb hby at_281) (by decide) (by decide) all0
              refine Rn.pu (g' := (mkF m 284 #[iv p0, iv p1, iv p2, iv p3, iv p4, iv 3, rv l127, iv n, iv mk, rv a128, rv m147, .unset] [(.int (1 : Int32))])) ?_ st162
              refine Rn.pu (T' := T162) (g' := (mkF m 287 #[iv p0, iv p1, iv p2, iv p3, iv p4, iv 3, rv l127, iv n, iv mk, rv a128, rv m147, .unset] [])) ?_ fun _ zk => XS.ifNo H162.here hx rfl (hb hby at_284) rfl (z_eq_f (by decide)) zk
              obtain ⟨T163, H163, st163⟩ := H162.getS (host := "") (Or.inl (wd hw 111 rfl)) Via.refl (SaD.ext H162.old) (g := (mkF m 287 #[iv p0, iv p1, iv p2, iv p3, iv p4, iv 3, rv l127, iv n, iv mk, rv a128, rv m147, .unset] [])) rfl (hb hby at_287)
              refine Rn.pu (g' := (mkF m 290 #[iv p0, iv p1, iv p2, iv p3, iv p4, iv 3, rv l127, iv n, iv mk, rv a128, rv m147, .unset] [(.ref aD)])) ?_ st163
              refine Rn.pu (T' := T163) (g' := (mkF m 294 #[iv p0, iv p1, iv p2, iv p3, iv p4, iv 3, rv l127, iv n, iv mk, rv a128, rv m147, .unset] [(.ref aD)])) ?_ fun _ zk => XS.goto H163.here hx rfl (pc0 := 290) (pc' := 294) rfl (hb hby at_290) (by decide) (by decide) zk
              refine Rn.pu (T' := T163) (g' := (mkF m 296 #[iv p0, iv p1, iv p2, iv p3, iv p4, iv 3, rv l127, iv n, iv mk, rv a128, rv m147, rv aD] [])) ?_ fun _ zk => XS.astore H163.here hx rfl (hb hby at_294) rfl rfl (l' := #[iv p0, iv p1, iv p2, iv p3, iv p4, iv 3, rv l127, iv n, iv mk, rv a128, rv m147, rv aD]) rfl zk
              refine Rn.pu (T' := T163) (g' := (mkF m 298 #[iv p0, iv p1, iv p2, iv p3, iv p4, iv 3, rv l127, iv n, iv mk, rv a128, rv m147, rv aD] [(.ref m147)])) ?_ fun _ zk => XS.aload H163.here hx rfl (hb hby at_296) rfl rfl zk
              obtain ⟨_, T164, h164, H164, rfl, K164, st164⟩ := H163.callS (wd hw 84 rfl) (wd hw 85 rfl) (wd hw 82 rfl) (wd hw 86 rfl) (by decide) (MetN.pay (W := 0) (c_fw2 l B0 m147 t147 (c147) h160 H163.old (((S147.keep K148 nin0 nin0).keep K154 nin0 nin0).keep K160 nin0 nin0) (fun r => q249_149 r.symm) (fun r => q265_155 r.symm) q281_161.symm) (wd hw 86 rfl) (wd hw 82 rfl) (by decide) (by decide)) (g := (mkF m 298 #[iv p0, iv p1, iv p2, iv p3, iv p4, iv 3, rv l127, iv n, iv mk, rv a128, rv m147, rv aD] [(.ref m147)])) rfl (by rw [hml]; rfl) (argsL := [(.ref m147)]) (rest := []) (lenOf pd__Ljava_lang_String__Lcom_example_calm_inbox_calminbox_webhook_WebhookStatus_ rfl) rfl rfl (Nat.le_of_eq rfl) (hb hby at_298) (by decide) (by decide) all0
              have zh164 := K164.1
              refine Rn.pu (g' := (mkF m 301 #[iv p0, iv p1, iv p2, iv p3, iv p4, iv 3, rv l127, iv n, iv mk, rv a128, rv m147, rv aD] [(.ref aD)])) ?_ st164
              refine Rn.pu (T' := T164) (g' := (mkF m 303 #[iv p0, iv p1, iv p2, iv p3, iv p4, iv 3, rv l127, iv n, iv mk, rv a128, rv m147, rv aD] [(.ref aD), (.ref aD)])) ?_ fun _ zk => XS.aload H164.here hx rfl (hb hby at_301) rfl rfl zk
              refine Rn.pu (T' := T164) (g' := (mkF m 306 #[iv p0, iv p1, iv p2, iv p3, iv p4, iv 3, rv l127, iv n, iv mk, rv a128, rv m147, rv aD] [])) ?_ fun _ zk => XT.acmpNo H164.here hx rfl (hb hby at_303) rfl rfl rfl (ac_ne_f rfl) zk
              refine Rn.pu (T' := T164) (g' := (mkF m 307 #[iv p0, iv p1, iv p2, iv p3, iv p4, iv 3, rv l127, iv n, iv mk, rv a128, rv m147, rv aD] [(.int (1 : Int32))])) ?_ fun _ zk => XS.iconst H164.here hx rfl (hb hby at_306) zk
              refine Rn.pu (T' := T164) (g' := (mkF m 311 #[iv p0, iv p1, iv p2, iv p3, iv p4, iv 3, rv l127, iv n, iv mk, rv a128, rv m147, rv aD] [(.int (1 : Int32))])) ?_ fun _ zk => XS.goto H164.here hx rfl (pc0 := 307) (pc' := 311) rfl (hb hby at_307) (by decide) (by decide) zk
              exact H164.retS ends_W hlk (t := .boolean) hret (by simp) (hb hby at_311) (by decide) (by decide) (fun _ q => nomatch q) rfl
            ·
              obtain ⟨_, T165, h165, H165, ⟨rfl, rfl⟩, -, st165⟩ := H160.callV (C := "java/lang/String") (wd hw 72 rfl) (wd hw 73 rfl) (wd hw 75 rfl) (wd hw 74 rfl) (by decide) (payEqN (W := 0) q281_161 (hws_eq hw) (wd hw 2 rfl) (((S147.keep K148 nin0 nin0).keep K154 nin0 nin0).keep K160 nin0 nin0) S160 (SC0.ext H160.old) hz0 (by decide) (by decide)) (((S147.keep K148 nin0 nin0).keep K154 nin0 nin0).keep K160 nin0 nin0).exa (g := (mkF m 281 #[iv p0, iv p1, iv p2, iv p3, iv p4, iv 3, rv l127, iv n, iv mk, rv a128, rv m147, .unset] [(.ref l160), (.ref m147)])) rfl (by rw [hml]; rfl) (argsL := [(.ref l160)]) (rest := []) (lenOf pd__Ljava_lang_Object__Z rfl) rfl rfl (Nat.le_of_eq rfl) (hb hby at_281) (by decide) (by decide) all0
              refine Rn.pu (g' := (mkF m 284 #[iv p0, iv p1, iv p2, iv p3, iv p4, iv 3, rv l127, iv n, iv mk, rv a128, rv m147, .unset] [(.int (0 : Int32))])) ?_ st165
              refine Rn.pu (T' := T165) (g' := (mkF m 293 #[iv p0, iv p1, iv p2, iv p3, iv p4, iv 3, rv l127, iv n, iv mk, rv a128, rv m147, .unset] [])) ?_ fun _ zk => XS.ifYes H165.here hx rfl (pc0 := 284) (pc' := 293) rfl (hb hby at_284) rfl (z_eq_t rfl) (by decide) (by decide) zk
              refine Rn.pu (T' := T165) (g' := (mkF m 294 #[iv p0, iv p1, iv p2, iv p3, iv p4, iv 3, rv l127, iv n, iv mk, rv a128, rv m147, .unset] [.null])) ?_ fun _ zk => XS.aconstNull H165.here hx rfl (hb hby at_293) zk
              refine Rn.pu (T' := T165) (g' := (mkF m 296 #[iv p0, iv p1, iv p2, iv p3, iv p4, iv 3, rv l127, iv n, iv mk, rv a128, rv m147, .val .null] [])) ?_ fun _ zk => XS.astore H165.here hx rfl (hb hby at_294) rfl rfl (l' := #[iv p0, iv p1, iv p2, iv p3, iv p4, iv 3, rv l127, iv n, iv mk, rv a128, rv m147, .val .null]) rfl zk
              refine Rn.pu (T' := T165) (g' := (mkF m 298 #[iv p0, iv p1, iv p2, iv p3, iv p4, iv 3, rv l127, iv n, iv mk, rv a128, rv m147, .val .null] [(.ref m147)])) ?_ fun _ zk => XS.aload H165.here hx rfl (hb hby at_296) rfl rfl zk
              obtain ⟨_, T166, h166, H166, rfl, K166, st166⟩ := H165.callS (wd hw 84 rfl) (wd hw 85 rfl) (wd hw 82 rfl) (wd hw 86 rfl) (by decide) (MetN.pay (W := 0) (c_fw3 l B0 m147 t147 (c147) h160 H165.old (((S147.keep K148 nin0 nin0).keep K154 nin0 nin0).keep K160 nin0 nin0) (fun r => q249_149 r.symm) (fun r => q265_155 r.symm) (fun r => q281_161 r.symm)) (wd hw 86 rfl) (wd hw 82 rfl) (by decide) (by decide)) (g := (mkF m 298 #[iv p0, iv p1, iv p2, iv p3, iv p4, iv 3, rv l127, iv n, iv mk, rv a128, rv m147, .val .null] [(.ref m147)])) rfl (by rw [hml]; rfl) (argsL := [(.ref m147)]) (rest := []) (lenOf pd__Ljava_lang_String__Lcom_example_calm_inbox_calminbox_webhook_WebhookStatus_ rfl) rfl rfl (Nat.le_of_eq rfl) (hb hby at_298) (by decide) (by decide) all0
              have zh166 := K166.1
              refine Rn.pu (g' := (mkF m 301 #[iv p0, iv p1, iv p2, iv p3, iv p4, iv 3, rv l127, iv n, iv mk, rv a128, rv m147, .val .null] [.null])) ?_ st166
              refine Rn.pu (T' := T166) (g' := (mkF m 303 #[iv p0, iv p1, iv p2, iv p3, iv p4, iv 3, rv l127, iv n, iv mk, rv a128, rv m147, .val .null] [.null, .null])) ?_ fun _ zk => XS.aload H166.here hx rfl (hb hby at_301) rfl rfl zk
              refine Rn.pu (T' := T166) (g' := (mkF m 306 #[iv p0, iv p1, iv p2, iv p3, iv p4, iv 3, rv l127, iv n, iv mk, rv a128, rv m147, .val .null] [])) ?_ fun _ zk => XT.acmpNo H166.here hx rfl (hb hby at_303) rfl rfl rfl (ac_ne_f rfl) zk
              refine Rn.pu (T' := T166) (g' := (mkF m 307 #[iv p0, iv p1, iv p2, iv p3, iv p4, iv 3, rv l127, iv n, iv mk, rv a128, rv m147, .val .null] [(.int (1 : Int32))])) ?_ fun _ zk => XS.iconst H166.here hx rfl (hb hby at_306) zk
              refine Rn.pu (T' := T166) (g' := (mkF m 311 #[iv p0, iv p1, iv p2, iv p3, iv p4, iv 3, rv l127, iv n, iv mk, rv a128, rv m147, .val .null] [(.int (1 : Int32))])) ?_ fun _ zk => XS.goto H166.here hx rfl (pc0 := 307) (pc' := 311) rfl (hb hby at_307) (by decide) (by decide) zk
              exact H166.retS ends_W hlk (t := .boolean) hret (by simp) (hb hby at_311) (by decide) (by decide) (fun _ q => nomatch q) rfl
      refine Rn.pu (T' := TJ63) (g' := (mkF m 66 #[iv p0, iv p1, iv p2, iv p3, iv p4, iv 3, rv l127, iv n, .unset, .unset, .unset, .unset] [(.int p0)])) ?_ fun _ zk => XS.iloadN HJ63.here hx rfl (hb hby at_65) rfl zk
      refine Rn.pu (T' := TJ63) (g' := (mkF m 67 #[iv p0, iv p1, iv p2, iv p3, iv p4, iv 3, rv l127, iv n, .unset, .unset, .unset, .unset] [(.int (3 : Int32)), (.int p0)])) ?_ fun _ zk => XS.iconst HJ63.here hx rfl (hb hby at_66) zk
      refine Rn.pu (T' := TJ63) (g' := (mkF m 68 #[iv p0, iv p1, iv p2, iv p3, iv p4, iv 3, rv l127, iv n, .unset, .unset, .unset, .unset] [(.int (XT.ushr p0 (3 : Int32)))])) ?_ fun _ zk => XT.iushr HJ63.here hx rfl (hb hby at_67) rfl zk
      refine Rn.pu (T' := TJ63) (g' := (mkF m 69 #[iv p0, iv p1, iv p2, iv p3, iv p4, iv 3, rv l127, iv n, .unset, .unset, .unset, .unset] [(.int (1 : Int32)), (.int (XT.ushr p0 (3 : Int32)))])) ?_ fun _ zk => XS.iconst HJ63.here hx rfl (hb hby at_68) zk
      refine Rn.pu (T' := TJ63) (g' := (mkF m 70 #[iv p0, iv p1, iv p2, iv p3, iv p4, iv 3, rv l127, iv n, .unset, .unset, .unset, .unset] [(.int ((XT.ushr p0 (3 : Int32)) &&& (1 : Int32)))])) ?_ fun _ zk => XS.iand HJ63.here hx rfl (hb hby at_69) rfl zk
      by_cases b70_167 : ((XT.ushr p0 (3 : Int32)) &&& (1 : Int32)) = 0
      ·
        refine Rn.pu (T' := TJ63) (g' := (mkF m 73 #[iv p0, iv p1, iv p2, iv p3, iv p4, iv 3, rv l127, iv n, .unset, .unset, .unset, .unset] [])) ?_ fun _ zk => XS.ifNo HJ63.here hx rfl (hb hby at_70) rfl (z_ne_f b70_167) zk
        refine Rn.pu (T' := TJ63) (g' := (mkF m 74 #[iv p0, iv p1, iv p2, iv p3, iv p4, iv 3, rv l127, iv n, .unset, .unset, .unset, .unset] [(.int (0 : Int32))])) ?_ fun _ zk => XS.iconst HJ63.here hx rfl (hb hby at_73) zk
        refine Rn.pu (T' := TJ63) (g' := (mkF m 78 #[iv p0, iv p1, iv p2, iv p3, iv p4, iv 3, rv l127, iv n, .unset, .unset, .unset, .unset] [(.int (0 : Int32))])) ?_ fun _ zk => XS.goto HJ63.here hx rfl (pc0 := 74) (pc' := 78) rfl (hb hby at_74) (by decide) (by decide) zk
        exact J78 _ _ HJ63
      ·
        refine Rn.pu (T' := TJ63) (g' := (mkF m 77 #[iv p0, iv p1, iv p2, iv p3, iv p4, iv 3, rv l127, iv n, .unset, .unset, .unset, .unset] [])) ?_ fun _ zk => XS.ifYes HJ63.here hx rfl (pc0 := 70) (pc' := 77) rfl (hb hby at_70) rfl (z_ne_t b70_167) (by decide) (by decide) zk
        refine Rn.pu (T' := TJ63) (g' := (mkF m 78 #[iv p0, iv p1, iv p2, iv p3, iv p4, iv 3, rv l127, iv n, .unset, .unset, .unset, .unset] [(.int p1)])) ?_ fun _ zk => XS.iloadN HJ63.here hx rfl (hb hby at_77) rfl zk
        exact J78 _ _ HJ63
    refine Rn.pu (T' := T127) (g' := (mkF m 42 #[iv p0, iv p1, iv p2, iv p3, iv p4, iv 3, rv l127, .unset, .unset, .unset, .unset, .unset] [(.int p0)])) ?_ fun _ zk => XS.iloadN H127.here hx rfl (hb hby at_41) rfl zk
    refine Rn.pu (T' := T127) (g' := (mkF m 43 #[iv p0, iv p1, iv p2, iv p3, iv p4, iv 3, rv l127, .unset, .unset, .unset, .unset, .unset] [(.int (2 : Int32)), (.int p0)])) ?_ fun _ zk => XS.iconst H127.here hx rfl (hb hby at_42) zk
    refine Rn.pu (T' := T127) (g' := (mkF m 44 #[iv p0, iv p1, iv p2, iv p3, iv p4, iv 3, rv l127, .unset, .unset, .unset, .unset, .unset] [(.int (XT.ushr p0 (2 : Int32)))])) ?_ fun _ zk => XT.iushr H127.here hx rfl (hb hby at_43) rfl zk
    refine Rn.pu (T' := T127) (g' := (mkF m 45 #[iv p0, iv p1, iv p2, iv p3, iv p4, iv 3, rv l127, .unset, .unset, .unset, .unset, .unset] [(.int (1 : Int32)), (.int (XT.ushr p0 (2 : Int32)))])) ?_ fun _ zk => XS.iconst H127.here hx rfl (hb hby at_44) zk
    refine Rn.pu (T' := T127) (g' := (mkF m 46 #[iv p0, iv p1, iv p2, iv p3, iv p4, iv 3, rv l127, .unset, .unset, .unset, .unset, .unset] [(.int ((XT.ushr p0 (2 : Int32)) &&& (1 : Int32)))])) ?_ fun _ zk => XS.iand H127.here hx rfl (hb hby at_45) rfl zk
    by_cases b46_168 : ((XT.ushr p0 (2 : Int32)) &&& (1 : Int32)) = 0
    ·
      refine Rn.pu (T' := T127) (g' := (mkF m 49 #[iv p0, iv p1, iv p2, iv p3, iv p4, iv 3, rv l127, .unset, .unset, .unset, .unset, .unset] [])) ?_ fun _ zk => XS.ifNo H127.here hx rfl (hb hby at_46) rfl (z_ne_f b46_168) zk
      refine Rn.pu (T' := T127) (g' := (mkF m 51 #[iv p0, iv p1, iv p2, iv p3, iv p4, iv 3, rv l127, .unset, .unset, .unset, .unset, .unset] [(.ref l127)])) ?_ fun _ zk => XS.aload H127.here hx rfl (hb hby at_49) rfl rfl zk
      obtain ⟨_, T169, h169, H169, ⟨rfl, rfl⟩, -, st169⟩ := H127.callV (C := "java/lang/String") (wd hw 8 rfl) (wd hw 9 rfl) (wd hw 11 rfl) (wd hw 10 rfl) (by decide) (payLen (W := 0) (hws_len hw) (wd hw 2 rfl) S127 (SC0.ext H127.old) hz0 (by decide) (by decide)) S127.exa (g := (mkF m 51 #[iv p0, iv p1, iv p2, iv p3, iv p4, iv 3, rv l127, .unset, .unset, .unset, .unset, .unset] [(.ref l127)])) rfl (by rw [hml]; rfl) (argsL := []) (rest := []) (lenOf pd___I rfl) rfl rfl (Nat.le_of_eq rfl) (hb hby at_51) (by decide) (by decide) all0
      refine Rn.pu (g' := (mkF m 54 #[iv p0, iv p1, iv p2, iv p3, iv p4, iv 3, rv l127, .unset, .unset, .unset, .unset, .unset] [(.int (Int32.ofNat ([]).length))])) ?_ st169
      refine Rn.pu (T' := T169) (g' := (mkF m 63 #[iv p0, iv p1, iv p2, iv p3, iv p4, iv 3, rv l127, .unset, .unset, .unset, .unset, .unset] [(.int (Int32.ofNat ([]).length))])) ?_ fun _ zk => XS.goto H169.here hx rfl (pc0 := 54) (pc' := 63) rfl (hb hby at_54) (by decide) (by decide) zk
      exact J63 _ _ H169 (by decide)
    ·
      refine Rn.pu (T' := T127) (g' := (mkF m 57 #[iv p0, iv p1, iv p2, iv p3, iv p4, iv 3, rv l127, .unset, .unset, .unset, .unset, .unset] [])) ?_ fun _ zk => XS.ifYes H127.here hx rfl (pc0 := 46) (pc' := 57) rfl (hb hby at_46) rfl (z_ne_t b46_168) (by decide) (by decide) zk
      refine Rn.pu (T' := T127) (g' := (mkF m 58 #[iv p0, iv p1, iv p2, iv p3, iv p4, iv 3, rv l127, .unset, .unset, .unset, .unset, .unset] [(.int p0)])) ?_ fun _ zk => XS.iloadN H127.here hx rfl (hb hby at_57) rfl zk
      refine Rn.pu (T' := T127) (g' := (mkF m 59 #[iv p0, iv p1, iv p2, iv p3, iv p4, iv 3, rv l127, .unset, .unset, .unset, .unset, .unset] [(.int (5 : Int32)), (.int p0)])) ?_ fun _ zk => XS.iconst H127.here hx rfl (hb hby at_58) zk
      refine Rn.pu (T' := T127) (g' := (mkF m 60 #[iv p0, iv p1, iv p2, iv p3, iv p4, iv 3, rv l127, .unset, .unset, .unset, .unset, .unset] [(.int (XT.ushr p0 (5 : Int32)))])) ?_ fun _ zk => XT.iushr H127.here hx rfl (hb hby at_59) rfl zk
      refine Rn.pu (T' := T127) (g' := (mkF m 62 #[iv p0, iv p1, iv p2, iv p3, iv p4, iv 3, rv l127, .unset, .unset, .unset, .unset, .unset] [(.int (10 : Int32)), (.int (XT.ushr p0 (5 : Int32)))])) ?_ fun _ zk => XS.bipush H127.here hx rfl (hb hby at_60) zk
      refine Rn.pu (T' := T127) (g' := (mkF m 63 #[iv p0, iv p1, iv p2, iv p3, iv p4, iv 3, rv l127, .unset, .unset, .unset, .unset, .unset] [(.int ((XT.ushr p0 (5 : Int32)) % (10 : Int32)))])) ?_ fun _ zk => iremH H127 hx rfl (hb hby at_62) rfl (by decide) zk
      exact J63 _ _ H127 (own_rem10 _)
set_option maxRecDepth 65536 in
set_option maxHeartbeats 40000000 in
theorem comes_1 {Post : Tables → Env → Array Value → State → Outcome → State → Prop} (hpost : ∀ tb e args s v u, (limb_1_1.after args s (.returned v) u = true ∧ limb_1_2.after args s (.returned v) u = true ∧ True) → ReturnedEndW s (.returned v) u (Jvm.fieldLocs frame_1_writes args s ++ Jvm.arrayLocs frame_1_arrays args s ++ Jvm.staticLocs frame_1_statics s) 32 5312 → Post tb e args s (.returned v) u) :
    ArmFor flags0 classFile x code maxLocals ret World_1 tables_1 room_1 Calls_1 rest_1 Pre_1 Post := by
  intro l hfl _ _ p e ha hc hk s m args below hf hA hF happ hP
  obtain ⟨hcalls, hrest, hpre⟩ := hP
  obtain ⟨-, -, -, hnamed, -, -, -, hat⟩ := (Spec.applies_iff hf).mp happ
  obtain ⟨hg, hn⟩ := and_e (Cond.before_iff.mp (show (Jvm.Cond.and given_1 narrow_1).before args s = true from hpre))
  obtain ⟨hcount, g0⟩ := and_e hg
  obtain ⟨i0, g1⟩ := and_e g0
  obtain ⟨i1, g2⟩ := and_e g1
  obtain ⟨i2, g3⟩ := and_e g2
  obtain ⟨i3, g4⟩ := and_e g3
  obtain ⟨w0, w1, w2, w3, w4, rfl⟩ : ∃ w0 w1 w2 w3 w4 : Value, args = #[w0, w1, w2, w3, w4] := by
    have hs : args.size = 5 := by simpa [Cond.value, given_1] using hcount
    obtain ⟨L⟩ := args
    match L, hs with
    | [w0, w1, w2, w3, w4], _ => exact ⟨w0, w1, w2, w3, w4, rfl⟩
  have hw := fun d (hd : d ∈ tables_1) => atoms_spec (ws := Jvm.Cond.code x code maxLocals ret :: tables_1) hat d (List.mem_cons_of_mem _ hd)
  obtain ⟨hsets, hown0⟩ := atoms_of _ (rest_1_c_eq ▸ (show rest_1_c.before _ s = true from hrest))
  have hfit : Fit s := fun {y c} hc i hi => by
    obtain ⟨ha, rfl⟩ := Array.getElem?_eq_some_iff.mp hc
    have q := List.all_eq_true.mp ((Array.all_eq_true_iff_forall_mem.mp hF) _ (Array.getElem_mem ha)) i (List.mem_range.mpr hi)
    simpa [Array.getElem?_eq_getElem hi] using q
  obtain ⟨p0, ep0⟩ := is_v i0
  obtain rfl : w0 = (.int p0) := Option.some.inj ep0
  obtain ⟨p1, ep1⟩ := is_v i1
  obtain rfl : w1 = (.int p1) := Option.some.inj ep1
  obtain ⟨p2, ep2⟩ := is_v i2
  obtain rfl : w2 = (.int p2) := Option.some.inj ep2
  obtain ⟨p3, ep3⟩ := is_v i3
  obtain rfl : w3 = (.int p3) := Option.some.inj ep3
  obtain ⟨p4, ep4⟩ := is_v g4
  obtain rfl : w4 = (.int p4) := Option.some.inj ep4
  obtain ⟨n0, m0⟩ := and_e hn
  obtain ⟨n1, m1⟩ := and_e m0
  obtain ⟨n2, m2⟩ := and_e m1
  obtain ⟨n3, m3⟩ := and_e m2
  obtain ⟨n4, m4⟩ := and_e m3
  obtain ⟨n5, m5⟩ := and_e m4
  obtain ⟨n6, m6⟩ := and_e m5
  obtain ⟨n7, m7⟩ := and_e m6
  obtain ⟨n8, m8⟩ := and_e m7
  obtain ⟨n9, m9⟩ := and_e m8
  obtain ⟨n10, m10⟩ := and_e m9
  obtain ⟨n11, m11⟩ := and_e m10
  obtain ⟨n12, m12⟩ := and_e m11
  obtain ⟨n13, m13⟩ := and_e m12
  obtain ⟨n14, m14⟩ := and_e m13
  obtain ⟨n15, m15⟩ := and_e m14
  obtain ⟨n16, m16⟩ := and_e m15
  obtain ⟨n17, m17⟩ := and_e m16
  obtain ⟨n18, m18⟩ := and_e m17
  obtain ⟨n19, m19⟩ := and_e m18
  obtain ⟨n20, m20⟩ := and_e m19
  obtain ⟨n21, m21⟩ := and_e m20
  obtain ⟨n22, m22⟩ := and_e m21
  obtain ⟨n23, m23⟩ := and_e m22
  obtain ⟨n24, m24⟩ := and_e m23
  obtain ⟨n25, m25⟩ := and_e m24
  obtain ⟨n26, m26⟩ := and_e m25
  obtain ⟨n27, m27⟩ := and_e m26
  obtain ⟨n28, m28⟩ := and_e m27
  obtain ⟨n29, m29⟩ := and_e m28
  obtain ⟨n30, m30⟩ := and_e m29
  obtain ⟨n31, m31⟩ := and_e m30
  obtain ⟨n32, m32⟩ := and_e m31
  obtain ⟨n33, m33⟩ := and_e m32
  obtain ⟨n34, m34⟩ := and_e m33
  obtain ⟨n35, m35⟩ := and_e m34
  obtain ⟨n36, m36⟩ := and_e m35
  obtain ⟨n37, m37⟩ := and_e m36
  obtain ⟨n38, m38⟩ := and_e m37
  obtain ⟨n39, m39⟩ := and_e m38
  obtain ⟨n40, m40⟩ := and_e m39
  have n41 := m40
  obtain ⟨zc, ezc⟩ := is_v (Cond.before_iff.mp (hsets _ (List.mem_of_getElem? (i := 1) rfl)))
  have SC0 : Sta s s.heap "java/lang/String" "COMPACT_STRINGS" "Z" (.int zc) := Sta.start ezc (Or.inl (hsets _ (List.mem_of_getElem? (i := 0) rfl)))
  have hz0 : ¬ (zc = (0 : Int32)) := gotF (Cond.eq_ints ezc (Term.int_eval (0))) (not_v (Cond.before_iff.mp (hsets _ (List.mem_of_getElem? (i := 2) rfl))))
  obtain ⟨fm, efm, rf1⟩ := isR_v (Cond.before_iff.mp (hsets _ (List.mem_of_getElem? (i := 8) rfl)))
  have SF1 : Sta s s.heap "jdk/internal/util/Preconditions" "SIOOBE_FORMATTER" "Ljava/util/function/BiFunction;" fm := Sta.start efm (Or.inl (hsets _ (List.mem_of_getElem? (i := 7) rfl)))
  obtain ⟨aA, eaA⟩ := exa_v n0
  have XaA := Exa.start eaA n0
  have SaA : Sta s s.heap "com/example/calm_inbox/calminbox/webhook/WebhookStatus" "ACTIVE" "Lcom/example/calm_inbox/calminbox/webhook/WebhookStatus;" (.ref aA) := Sta.start eaA (Or.inr ⟨(wd hw 82 rfl), (wd hw 83 rfl)⟩)
  obtain ⟨aF, eaF⟩ := exa_v n5
  have XaF := Exa.start eaF n5
  have SaF : Sta s s.heap "com/example/calm_inbox/calminbox/webhook/WebhookStatus" "FAILING" "Lcom/example/calm_inbox/calminbox/webhook/WebhookStatus;" (.ref aF) := Sta.start eaF (Or.inr ⟨(wd hw 82 rfl), (wd hw 99 rfl)⟩)
  obtain ⟨aD, eaD⟩ := exa_v n7
  have XaD := Exa.start eaD n7
  have SaD : Sta s s.heap "com/example/calm_inbox/calminbox/webhook/WebhookStatus" "DISABLED" "Lcom/example/calm_inbox/calminbox/webhook/WebhookStatus;" (.ref aD) := Sta.start eaD (Or.inr ⟨(wd hw 82 rfl), (wd hw 100 rfl)⟩)
  obtain ⟨aV, eaV⟩ := exa_v n2
  have XaV := Exa.start eaV n2
  have SaV : Sta s s.heap "com/example/calm_inbox/calminbox/webhook/WebhookStatus" "$VALUES" "[Lcom/example/calm_inbox/calminbox/webhook/WebhookStatus;" (.ref aV) := Sta.start eaV (Or.inr ⟨(wd hw 82 rfl), (wd hw 91 rfl)⟩)
  obtain ⟨kV, AaV⟩ := arr_start (dv := .null) (vs := [.ref aA, .ref aF, .ref aD]) hfit eaV n1 n3 (by decide) rfl (fun | 0, _ => ev_ref n4 eaA | 1, _ => ev_ref n6 eaF | 2, _ => ev_ref n8 eaD | k + 3, h => absurd h (by simp))
  obtain ⟨sA, esA⟩ := exa_v n9
  have FaA := fld_start eaA esA
  obtain ⟨tA, TaA⟩ := str_start (cs := [(97 : Int32), (99 : Int32), (116 : Int32), (105 : Int32), (118 : Int32), (101 : Int32)]) hfit esA n9 n10 n11 n12 (by decide) (by decide) (fun | 0, _ => ev_int n21 | 1, _ => ev_int n22 | 2, _ => ev_int n23 | 3, _ => ev_int n24 | 4, _ => ev_int n25 | 5, _ => ev_int n26 | k + 6, h => absurd h (by simp))
  obtain ⟨sF, esF⟩ := exa_v n13
  have FaF := fld_start eaF esF
  obtain ⟨tF, TaF⟩ := str_start (cs := [(102 : Int32), (97 : Int32), (105 : Int32), (108 : Int32), (105 : Int32), (110 : Int32), (103 : Int32)]) hfit esF n13 n14 n15 n16 (by decide) (by decide) (fun | 0, _ => ev_int n27 | 1, _ => ev_int n28 | 2, _ => ev_int n29 | 3, _ => ev_int n30 | 4, _ => ev_int n31 | 5, _ => ev_int n32 | 6, _ => ev_int n33 | k + 7, h => absurd h (by simp))
  obtain ⟨sD, esD⟩ := exa_v n17
  have FaD := fld_start eaD esD
  obtain ⟨tD, TaD⟩ := str_start (cs := [(100 : Int32), (105 : Int32), (115 : Int32), (97 : Int32), (98 : Int32), (108 : Int32), (101 : Int32), (100 : Int32)]) hfit esD n17 n18 n19 n20 (by decide) (by decide) (fun | 0, _ => ev_int n34 | 1, _ => ev_int n35 | 2, _ => ev_int n36 | 3, _ => ev_int n37 | 4, _ => ev_int n38 | 5, _ => ev_int n39 | 6, _ => ev_int n40 | 7, _ => ev_int n41 | k + 8, h => absurd h (by simp))
  have hh7 : Jvm.Lit.constHeld s "java/lang/String" 7 := hcalls.1 ("java/lang/String", 7) (by simp [consts_1])
  have hhA : Jvm.Lit.constHeld s "com/example/calm_inbox/calminbox/webhook/WebhookStatusFromWireNamePinLaw" 7 := hcalls.1 ("com/example/calm_inbox/calminbox/webhook/WebhookStatusFromWireNamePinLaw", 7) (by simp [consts_1])
  have hhF : Jvm.Lit.constHeld s "com/example/calm_inbox/calminbox/webhook/WebhookStatusFromWireNamePinLaw" 9 := hcalls.1 ("com/example/calm_inbox/calminbox/webhook/WebhookStatusFromWireNamePinLaw", 9) (by simp [consts_1])
  have hhD : Jvm.Lit.constHeld s "com/example/calm_inbox/calminbox/webhook/WebhookStatusFromWireNamePinLaw" 11 := hcalls.1 ("com/example/calm_inbox/calminbox/webhook/WebhookStatusFromWireNamePinLaw", 11) (by simp [consts_1])
  have hhE : Jvm.Lit.constHeld s "com/example/calm_inbox/calminbox/webhook/WebhookStatusFromWireNamePinLaw" 13 := hcalls.1 ("com/example/calm_inbox/calminbox/webhook/WebhookStatusFromWireNamePinLaw", 13) (by simp [consts_1])
  have hcw : Jvm.Lit.compactW.before _ s = true := hsets _ (List.mem_of_getElem? (i := 2) rfl)
  obtain ⟨n, o, h1, h2, h3, _, L, rfl, ⟨rfl, N, -⟩, hq⟩ := c_law l (Z := s) ⟨hw, SC0, hz0, SF1, rf1, hh7, hhA, hhF, hhD, hhE, hcw, SaA, FaA, TaA, SaF, FaF, TaF, SaD, FaD, TaD, SaV, XaV, AaV⟩ p0 p1 p2 p3 p4 p e ha hc hk s m _ below hf ((Spec.applies_iff_loose hf).mp happ).1 ⟨rfl, State.Warmed39.refl s, rfl, IB.start, State.Warmed39.refl s⟩ trivial
  have N' : ∀ y ∈ L, s.heap.size ≤ y.base := fun y hy => (N y hy).elim (fun q => nomatch q) id
  refine ⟨n, _, h1, h2, h3, hpost _ _ _ _ _ _ ⟨Cond.after_iff.mpr rfl, Cond.after_iff.mpr (eq_i res_at (Term.int_eval (1)) rfl), trivial⟩ ⟨hq.1, hq.2.1, hq.2.2.1, (hq.2.2.2.sift fun y hy => Or.inr (N' y hy)).mono (by decide) (by decide)⟩⟩
theorem main_1_1 : Claimed_1_1 := comes_1 fun _ _ _ _ _ _ h hF => ⟨h.1, hF⟩
theorem main_1_2 : Claimed_1_2 := comes_1 fun _ _ _ _ _ _ h hF => ⟨h.2.1, hF⟩
end Jvm.Pilot.@@N@@
namespace Jvm.Pilot.@@N@@
open Jvm Jvm.ClassFile Sem Op Lib Jvm.Free Jvm.Stand Jvm.Pilot.@@N@@.Jvm.D
/-! MADE BY PROGRAM (witnessworld.py) out of the Statement's table words and the real class files: 22 classes; the members and pool entries that the words name. The judged class is class 1, her method 1. -/
namespace start1
open Jvm.ClassFile
def u (s : String) : CpInfo := .utf8 (stringToUtf16 s)
/-- a pool by its gaps: so many unusable entries, then the entry; so many at the end -/
def gap : Nat → List CpInfo → List CpInfo
  | 0, r => r
  | n + 1, r => .unusable :: gap n r
def poolList (es : List (Nat × CpInfo)) (last : Nat) : List CpInfo := es.foldr (fun e r => gap e.1 (e.2 :: r)) (gap last [])
def pool (es : List (Nat × CpInfo)) (last : Nat) : Array CpInfo := ⟨poolList es last⟩
def fileOf (pool : Array CpInfo) (this : Nat) (attrs : Array Attribute := #[]) (ms : Array MethodInfo := #[]) (fl : Nat := 33) (sup : Nat := 0) (ifs : Array Nat := #[]) (fds : Array FieldInfo := #[]) : ClassFile where
  minorVersion := 0
  majorVersion := 65
  constantPool := pool
  accessFlags := fl
  thisClass := this
  superClass := sup
  interfaces := ifs
  fields := fds
  methods := ms
  attributes := attrs
def plain (name : String) (sup : Option ClassId) : Class where
  name := name
  kind := .ordinary
  loader := none
  accessFlags := 33
  super := sup
  interfaces := #[]
  cf := none
  fields := #[]
  methods := #[]
  instanceTypes := #[]
  staticTypes := #[]
  resolved := #[]
  callSites := []
  init := .initialized
  statics := none
  mirror := none

def pool0 : Array CpInfo := pool [(5, u "<init>"), (0, u "()V"), (1, .class_ 10), (1, u "java/lang/Object"), (85, u "clone"), (0, u "()Ljava/lang/Object;")] 26

def k0c0 : Code := { maxStack := 0, maxLocals := 1, code := object_method_1_code, exceptionTable := #[], attributes := #[] }
def k0m0 : Method := { name := "<init>", desc := "()V", sig := { parameters := [], returnType := none }, accessFlags := 1, code := some k0c0 }
def k0m1 : Method := { name := "clone", desc := "()Ljava/lang/Object;", sig := { parameters := [], returnType := some (.object "java/lang/Object") }, accessFlags := 260, code := none }
/-- java/lang/Object -/
def k0 : Class := { plain "java/lang/Object" none with
  accessFlags := 33
  interfaces := #[]
  cf := some (fileOf pool0 8 #[] #[{ accessFlags := 1, nameIndex := 5, descriptorIndex := 6, attributes := #[] }, { accessFlags := 260, nameIndex := 96, descriptorIndex := 97, attributes := #[] }] 33 0 #[] #[])
  fields := #[]
  methods := #[k0m0, k0m1]
  instanceTypes := #[]
  staticTypes := #[]
  resolved := Array.replicate 124 none
  statics := none }

def pool1 : Array CpInfo := pool [(2, .class_ 4), (1, u "java/lang/Object"), (0, u "<init>"), (0, u "()V"), (0, .string 8), (0, u "active"), (0, .string 10), (0, u "failing"), (0, .string 12), (0, u "disabled"), (0, .string 14), (0, u ""), (0, .methodref 16 17), (0, .class_ 18), (0, .nameAndType 19 20), (0, u "java/lang/String"), (0, u "length"), (0, u "()I"), (0, .methodref 22 23), (0, .class_ 24), (0, .nameAndType 25 26), (0, u "com/example/calm_inbox/calminbox/webhook/WebhookStatusFromWireNamePinLaw"), (0, u "ch"), (0, u "(Ljava/lang/String;IIIII)C"), (0, .methodref 22 28), (0, .nameAndType 29 30), (0, u "cut"), (0, u "([CI)Ljava/lang/String;"), (0, .methodref 16 32), (0, .nameAndType 33 34), (0, u "equals"), (0, u "(Ljava/lang/Object;)Z"), (0, .fieldref 36 37), (0, .class_ 38), (0, .nameAndType 39 40), (0, u "com/example/calm_inbox/calminbox/webhook/WebhookStatus"), (0, u "ACTIVE"), (0, u "Lcom/example/calm_inbox/calminbox/webhook/WebhookStatus;"), (0, .fieldref 36 42), (0, .nameAndType 43 40), (0, u "FAILING"), (0, .fieldref 36 45), (0, .nameAndType 46 40), (0, u "DISABLED"), (0, .methodref 36 48), (0, .nameAndType 49 50), (0, u "fromWireName"), (0, u "(Ljava/lang/String;)Lcom/example/calm_inbox/calminbox/webhook/WebhookStatus;"), (0, .methodref 16 52), (0, .nameAndType 53 54), (0, u "charAt"), (0, u "(I)C"), (0, .methodref 16 56), (0, .nameAndType 5 57), (0, u "([C)V"), (2, u "law"), (0, u "(IIIII)Z")] 5

def k1m0 : Method := { name := "<init>", desc := "()V", sig := { parameters := [], returnType := none }, accessFlags := 1, code := none }
def k1c1 : Code := { maxStack := 8, maxLocals := 12, code := code, exceptionTable := #[], attributes := #[] }
def k1m1 : Method := { name := "law", desc := "(IIIII)Z", sig := { parameters := [.int, .int, .int, .int, .int], returnType := some .boolean }, accessFlags := 9, code := some k1c1 }
def k1c2 : Code := { maxStack := 4, maxLocals := 7, code := method_3_code, exceptionTable := #[], attributes := #[] }
def k1m2 : Method := { name := "ch", desc := "(Ljava/lang/String;IIIII)C", sig := { parameters := [(.object "java/lang/String"), .int, .int, .int, .int, .int], returnType := some .char }, accessFlags := 10, code := some k1c2 }
def k1c3 : Code := { maxStack := 7, maxLocals := 2, code := method_4_code, exceptionTable := #[], attributes := #[] }
def k1m3 : Method := { name := "cut", desc := "([CI)Ljava/lang/String;", sig := { parameters := [(.array .char), .int], returnType := some (.object "java/lang/String") }, accessFlags := 10, code := some k1c3 }
/-- com/example/calm_inbox/calminbox/webhook/WebhookStatusFromWireNamePinLaw -/
def k1 : Class := { plain "com/example/calm_inbox/calminbox/webhook/WebhookStatusFromWireNamePinLaw" (some 0) with
  accessFlags := 49
  interfaces := #[]
  cf := some (fileOf pool1 22 #[] #[{ accessFlags := 1, nameIndex := 5, descriptorIndex := 6, attributes := #[] }, { accessFlags := 9, nameIndex := 60, descriptorIndex := 61, attributes := #[] }, { accessFlags := 10, nameIndex := 25, descriptorIndex := 26, attributes := #[] }, { accessFlags := 10, nameIndex := 29, descriptorIndex := 30, attributes := #[] }] 49 2 #[] #[])
  fields := #[]
  methods := #[k1m0, k1m1, k1m2, k1m3]
  instanceTypes := #[]
  staticTypes := #[]
  resolved := Array.replicate 67 none
  statics := none }

def pool2 : Array CpInfo := pool [(1, .class_ 2), (0, u "java/io/Serializable"), (0, .class_ 4), (0, u "java/lang/Object")] 2

/-- java/io/Serializable -/
def k2 : Class := { plain "java/io/Serializable" (some 0) with
  accessFlags := 1537
  interfaces := #[]
  cf := some (fileOf pool2 1 #[] #[] 1537 3 #[] #[])
  fields := #[]
  methods := #[]
  instanceTypes := #[]
  staticTypes := #[]
  resolved := Array.replicate 7 none
  statics := none }

def pool3 : Array CpInfo := pool [(1, .class_ 2), (0, u "java/lang/Comparable"), (0, .class_ 4), (0, u "java/lang/Object")] 7

/-- java/lang/Comparable -/
def k3 : Class := { plain "java/lang/Comparable" (some 0) with
  accessFlags := 1537
  interfaces := #[]
  cf := some (fileOf pool3 1 #[] #[] 1537 3 #[] #[])
  fields := #[]
  methods := #[]
  instanceTypes := #[]
  staticTypes := #[]
  resolved := Array.replicate 12 none
  statics := none }

def pool4 : Array CpInfo := pool [(2, .class_ 4), (1, u "java/lang/CharSequence"), (42, .class_ 48), (0, u "java/lang/CharSequence$1CodePointIterator"), (10, .class_ 60), (0, u "java/lang/CharSequence$1CharIterator"), (5, .class_ 67), (0, u "java/lang/Object")] 63

/-- java/lang/CharSequence -/
def k4 : Class := { plain "java/lang/CharSequence" (some 0) with
  accessFlags := 1537
  interfaces := #[]
  cf := some (fileOf pool4 2 #[.nestMembers #[47, 59]] #[] 1537 66 #[] #[])
  fields := #[]
  methods := #[]
  instanceTypes := #[]
  staticTypes := #[]
  resolved := Array.replicate 131 none
  statics := none }

def pool5 : Array CpInfo := pool [(1, .class_ 2), (0, u "java/lang/constant/Constable"), (0, .class_ 4), (0, u "java/lang/Object")] 6

/-- java/lang/constant/Constable -/
def k5 : Class := { plain "java/lang/constant/Constable" (some 0) with
  accessFlags := 1537
  interfaces := #[]
  cf := some (fileOf pool5 1 #[] #[] 1537 3 #[] #[])
  fields := #[]
  methods := #[]
  instanceTypes := #[]
  staticTypes := #[]
  resolved := Array.replicate 11 none
  statics := none }

def pool6 : Array CpInfo := pool [(1, .class_ 2), (0, u "java/lang/constant/ConstantDesc"), (0, .class_ 4), (0, u "java/lang/Object")] 32

/-- java/lang/constant/ConstantDesc -/
def k6 : Class := { plain "java/lang/constant/ConstantDesc" (some 0) with
  accessFlags := 1537
  interfaces := #[]
  cf := some (fileOf pool6 1 #[] #[] 1537 3 #[] #[])
  fields := #[]
  methods := #[]
  instanceTypes := #[]
  staticTypes := #[]
  resolved := Array.replicate 37 none
  statics := none }

def pool7 : Array CpInfo := pool [(1, .methodref 2 3), (0, .class_ 4), (0, .nameAndType 5 6), (0, u "java/lang/Object"), (0, u "<init>"), (0, u "()V"), (0, .string 8), (0, u ""), (0, .fieldref 10 11), (0, .class_ 12), (0, .nameAndType 13 14), (0, u "java/lang/String"), (0, u "value"), (0, u "[B"), (0, .fieldref 10 16), (0, .nameAndType 17 18), (0, u "coder"), (0, u "B"), (2, u "hash"), (0, u "I"), (2, u "hashIsZero"), (0, u "Z"), (0, .methodref 10 28), (0, .nameAndType 5 29), (0, u "([CIILjava/lang/Void;)V"), (8, .fieldref 10 39), (0, .nameAndType 40 26), (0, u "COMPACT_STRINGS"), (1, .class_ 44), (1, u "java/lang/StringUTF16"), (0, u "compress"), (1, .methodref 42 48), (0, .nameAndType 49 50), (0, u "coderFromArrayLen"), (0, u "([BI)B"), (56, .class_ 109), (1, u "java/lang/StringLatin1"), (32, u "()Z"), (34, .methodref 42 178), (0, .nameAndType 45 179), (0, u "([CII)[B"), (154, u "()I"), (0, .methodref 10 336), (0, .nameAndType 17 337), (0, u "()B"), (25, u "([BI)C"), (27, u "(II)V"), (35, u "(I)C"), (64, .methodref 10 493), (0, .nameAndType 494 142), (0, u "isLatin1"), (0, .methodref 107 496), (0, .nameAndType 497 363), (0, u "charAt"), (3, u "checkIndex"), (5, u "length"), (33, .methodref 107 542), (0, .nameAndType 543 544), (0, u "equals"), (0, u "([B[B)Z"), (28, u "(Ljava/lang/Object;)Z"), (1, .class_ 576), (0, u "java/lang/CharSequence"), (22, u "CASE_INSENSITIVE_ORDER"), (0, u "Ljava/util/Comparator;"), (409, u "([C)V"), (42, .fieldref 1054 1055), (0, .class_ 1056), (0, .nameAndType 1057 1058), (0, u "jdk/internal/util/Preconditions"), (0, u "SIOOBE_FORMATTER"), (0, u "Ljava/util/function/BiFunction;"), (0, .methodref 1054 1060), (0, .nameAndType 501 1061), (0, u "(IILjava/util/function/BiFunction;)I"), (39, u "serialPersistentFields"), (0, u "[Ljava/io/ObjectStreamField;"), (0, .class_ 1104), (0, u "java/lang/String$CaseInsensitiveComparator"), (1, .class_ 1107), (0, u "java/io/Serializable"), (0, .class_ 1109), (0, u "java/lang/Comparable"), (0, .class_ 1111), (0, u "java/lang/constant/Constable"), (0, .class_ 1113), (0, u "java/lang/constant/ConstantDesc"), (2, u "serialVersionUID"), (0, u "J"), (3, u "REPL"), (0, u "C"), (2, u "LATIN1"), (1, u "UTF16")] 323

def k7m0 : Method := { name := "<init>", desc := "()V", sig := { parameters := [], returnType := none }, accessFlags := 1, code := none }
def k7c1 : Code := { maxStack := 5, maxLocals := 2, code := jdk_42_method_3_code, exceptionTable := #[], attributes := #[] }
def k7m1 : Method := { name := "<init>", desc := "([C)V", sig := { parameters := [(.array .char)], returnType := none }, accessFlags := 1, code := some k7c1 }
def k7c2 : Code := { maxStack := 2, maxLocals := 1, code := jdk_42_method_54_code, exceptionTable := #[], attributes := #[] }
def k7m2 : Method := { name := "length", desc := "()I", sig := { parameters := [], returnType := some .int }, accessFlags := 1, code := some k7c2 }
def k7c3 : Code := { maxStack := 2, maxLocals := 2, code := jdk_42_method_56_code, exceptionTable := #[], attributes := #[] }
def k7m3 : Method := { name := "charAt", desc := "(I)C", sig := { parameters := [.int], returnType := some .char }, accessFlags := 1, code := some k7c3 }
def k7c4 : Code := { maxStack := 2, maxLocals := 3, code := jdk_42_method_66_code, exceptionTable := #[], attributes := #[] }
def k7m4 : Method := { name := "equals", desc := "(Ljava/lang/Object;)Z", sig := { parameters := [(.object "java/lang/Object")], returnType := some .boolean }, accessFlags := 1, code := some k7c4 }
def k7c5 : Code := { maxStack := 4, maxLocals := 6, code := jdk_42_method_149_code, exceptionTable := #[], attributes := #[] }
def k7m5 : Method := { name := "<init>", desc := "([CIILjava/lang/Void;)V", sig := { parameters := [(.array .char), .int, .int, (.object "java/lang/Void")], returnType := none }, accessFlags := 2, code := some k7c5 }
def k7c6 : Code := { maxStack := 1, maxLocals := 1, code := jdk_42_method_152_code, exceptionTable := #[], attributes := #[] }
def k7m6 : Method := { name := "coder", desc := "()B", sig := { parameters := [], returnType := some .byte }, accessFlags := 0, code := some k7c6 }
def k7c7 : Code := { maxStack := 1, maxLocals := 1, code := jdk_42_method_154_code, exceptionTable := #[], attributes := #[] }
def k7m7 : Method := { name := "isLatin1", desc := "()Z", sig := { parameters := [], returnType := some .boolean }, accessFlags := 0, code := some k7c7 }
def k7c8 : Code := { maxStack := 3, maxLocals := 2, code := jdk_42_method_155_code, exceptionTable := #[], attributes := #[] }
def k7m8 : Method := { name := "checkIndex", desc := "(II)V", sig := { parameters := [.int, .int], returnType := none }, accessFlags := 8, code := some k7c8 }
/-- java/lang/String -/
def k7 : Class := { plain "java/lang/String" (some 0) with
  accessFlags := 49
  interfaces := #[2, 3, 4, 5, 6]
  cf := some (fileOf pool7 10 #[.nestMembers #[1103]] #[{ accessFlags := 1, nameIndex := 5, descriptorIndex := 6, attributes := #[] }, { accessFlags := 1, nameIndex := 5, descriptorIndex := 1010, attributes := #[] }, { accessFlags := 1, nameIndex := 507, descriptorIndex := 334, attributes := #[] }, { accessFlags := 1, nameIndex := 497, descriptorIndex := 427, attributes := #[] }, { accessFlags := 1, nameIndex := 543, descriptorIndex := 573, attributes := #[] }, { accessFlags := 2, nameIndex := 5, descriptorIndex := 29, attributes := #[] }, { accessFlags := 0, nameIndex := 17, descriptorIndex := 337, attributes := #[] }, { accessFlags := 0, nameIndex := 494, descriptorIndex := 142, attributes := #[] }, { accessFlags := 8, nameIndex := 501, descriptorIndex := 391, attributes := #[] }] 49 2 #[1106, 1108, 575, 1110, 1112] #[{ accessFlags := 18, nameIndex := 13, descriptorIndex := 14, attributes := #[] }, { accessFlags := 18, nameIndex := 17, descriptorIndex := 18, attributes := #[] }, { accessFlags := 2, nameIndex := 21, descriptorIndex := 22, attributes := #[] }, { accessFlags := 2, nameIndex := 25, descriptorIndex := 26, attributes := #[] }, { accessFlags := 26, nameIndex := 1116, descriptorIndex := 1117, attributes := #[] }, { accessFlags := 24, nameIndex := 40, descriptorIndex := 26, attributes := #[] }, { accessFlags := 26, nameIndex := 1101, descriptorIndex := 1102, attributes := #[] }, { accessFlags := 26, nameIndex := 1121, descriptorIndex := 1122, attributes := #[] }, { accessFlags := 25, nameIndex := 599, descriptorIndex := 600, attributes := #[] }, { accessFlags := 24, nameIndex := 1125, descriptorIndex := 18, attributes := #[] }, { accessFlags := 24, nameIndex := 1127, descriptorIndex := 18, attributes := #[] }])
  fields := #[{ name := "value", type := (.array .byte), accessFlags := 18, slot := 0, constantValue := 0 }, { name := "coder", type := .byte, accessFlags := 18, slot := 1, constantValue := 0 }, { name := "hash", type := .int, accessFlags := 2, slot := 2, constantValue := 0 }, { name := "hashIsZero", type := .boolean, accessFlags := 2, slot := 3, constantValue := 0 }, { name := "serialVersionUID", type := .long, accessFlags := 26, slot := 0, constantValue := 0 }, { name := "COMPACT_STRINGS", type := .boolean, accessFlags := 24, slot := 1, constantValue := 0 }, { name := "serialPersistentFields", type := (.array (.object "java/io/ObjectStreamField")), accessFlags := 26, slot := 2, constantValue := 0 }, { name := "REPL", type := .char, accessFlags := 26, slot := 3, constantValue := 0 }, { name := "CASE_INSENSITIVE_ORDER", type := (.object "java/util/Comparator"), accessFlags := 25, slot := 4, constantValue := 0 }, { name := "LATIN1", type := .byte, accessFlags := 24, slot := 5, constantValue := 0 }, { name := "UTF16", type := .byte, accessFlags := 24, slot := 6, constantValue := 0 }]
  methods := #[k7m0, k7m1, k7m2, k7m3, k7m4, k7m5, k7m6, k7m7, k7m8]
  instanceTypes := #[(.array .byte), .byte, .int, .boolean]
  staticTypes := #[.long, .boolean, (.array (.object "java/io/ObjectStreamField")), .char, (.object "java/util/Comparator"), .byte, .byte]
  resolved := Array.replicate 1451 none
  statics := some 0 }

def pool8 : Array CpInfo := pool [(1, .class_ 2), (0, u "java/lang/String"), (1, .class_ 6), (1, u "java/lang/Object"), (0, u "<init>"), (0, u "()V"), (0, .methodref 1 10), (0, .nameAndType 11 12), (0, u "checkIndex"), (0, u "(II)V"), (1, .class_ 16), (1, u "java/lang/StringLatin1"), (36, u "([BI)C"), (67, u "$assertionsDisabled"), (0, u "Z"), (98, .class_ 223), (1, u "java/lang/StringLatin1$LinesSpliterator"), (28, u "charAt"), (28, u "equals"), (0, u "([B[B)Z"), (107, .class_ 391), (0, u "java/lang/StringLatin1$CharsSpliterator")] 3

def k8m0 : Method := { name := "<init>", desc := "()V", sig := { parameters := [], returnType := none }, accessFlags := 0, code := none }
def k8c1 : Code := { maxStack := 2, maxLocals := 2, code := jdk_43_method_2_code, exceptionTable := #[], attributes := #[] }
def k8m1 : Method := { name := "charAt", desc := "([BI)C", sig := { parameters := [(.array .byte), .int], returnType := some .char }, accessFlags := 9, code := some k8c1 }
def k8c2 : Code := { maxStack := 3, maxLocals := 3, code := jdk_43_method_13_code, exceptionTable := #[], attributes := #[] }
def k8m2 : Method := { name := "equals", desc := "([B[B)Z", sig := { parameters := [(.array .byte), (.array .byte)], returnType := some .boolean }, accessFlags := 9, code := some k8c2 }
/-- java/lang/StringLatin1 -/
def k8 : Class := { plain "java/lang/StringLatin1" (some 0) with
  accessFlags := 48
  interfaces := #[]
  cf := some (fileOf pool8 14 #[.nestMembers #[390, 221]] #[{ accessFlags := 0, nameIndex := 7, descriptorIndex := 8, attributes := #[] }, { accessFlags := 9, nameIndex := 252, descriptorIndex := 53, attributes := #[] }, { accessFlags := 9, nameIndex := 281, descriptorIndex := 282, attributes := #[] }] 48 4 #[] #[{ accessFlags := 4120, nameIndex := 121, descriptorIndex := 122, attributes := #[] }])
  fields := #[{ name := "$assertionsDisabled", type := .boolean, accessFlags := 4120, slot := 0, constantValue := 0 }]
  methods := #[k8m0, k8m1, k8m2]
  instanceTypes := #[]
  staticTypes := #[.boolean]
  resolved := Array.replicate 395 none
  statics := none }

def pool9 : Array CpInfo := pool [(2, .class_ 4), (1, u "java/lang/Object"), (0, u "<init>"), (0, u "()V"), (17, .class_ 26), (1, u "jdk/internal/util/Preconditions"), (6, u "checkIndex"), (21, .class_ 56), (0, u "jdk/internal/util/Preconditions$4"), (57, .class_ 115), (0, u "jdk/internal/util/Preconditions$1"), (7, u "SIOOBE_FORMATTER"), (0, u "Ljava/util/function/BiFunction;"), (0, .class_ 126), (0, u "jdk/internal/util/Preconditions$2"), (3, u "AIOOBE_FORMATTER"), (0, .class_ 132), (0, u "jdk/internal/util/Preconditions$3"), (3, u "IOOBE_FORMATTER"), (41, u "(IILjava/util/function/BiFunction;)I")] 15

def k9m0 : Method := { name := "<init>", desc := "()V", sig := { parameters := [], returnType := none }, accessFlags := 1, code := none }
def k9c1 : Code := { maxStack := 3, maxLocals := 3, code := jdk_41_method_11_code, exceptionTable := #[], attributes := #[] }
def k9m1 : Method := { name := "checkIndex", desc := "(IILjava/util/function/BiFunction;)I", sig := { parameters := [.int, .int, (.object "java/util/function/BiFunction")], returnType := some .int }, accessFlags := 9, code := some k9c1 }
/-- jdk/internal/util/Preconditions -/
def k9 : Class := { plain "jdk/internal/util/Preconditions" (some 0) with
  accessFlags := 33
  interfaces := #[]
  cf := some (fileOf pool9 24 #[.nestMembers #[55, 131, 125, 114]] #[{ accessFlags := 1, nameIndex := 5, descriptorIndex := 6, attributes := #[] }, { accessFlags := 9, nameIndex := 33, descriptorIndex := 178, attributes := #[] }] 33 2 #[] #[{ accessFlags := 25, nameIndex := 123, descriptorIndex := 124, attributes := #[] }, { accessFlags := 25, nameIndex := 130, descriptorIndex := 124, attributes := #[] }, { accessFlags := 25, nameIndex := 136, descriptorIndex := 124, attributes := #[] }])
  fields := #[{ name := "SIOOBE_FORMATTER", type := (.object "java/util/function/BiFunction"), accessFlags := 25, slot := 0, constantValue := 0 }, { name := "AIOOBE_FORMATTER", type := (.object "java/util/function/BiFunction"), accessFlags := 25, slot := 1, constantValue := 0 }, { name := "IOOBE_FORMATTER", type := (.object "java/util/function/BiFunction"), accessFlags := 25, slot := 2, constantValue := 0 }]
  methods := #[k9m0, k9m1]
  instanceTypes := #[]
  staticTypes := #[(.object "java/util/function/BiFunction"), (.object "java/util/function/BiFunction"), (.object "java/util/function/BiFunction")]
  resolved := Array.replicate 194 none
  statics := some 1 }

def pool10 : Array CpInfo := pool [(6, .class_ 8), (1, u "java/lang/Object"), (0, u "<init>"), (0, u "()V"), (1, .class_ 14), (1, u "java/lang/StringUTF16"), (31, u "$assertionsDisabled"), (0, u "Z"), (13, u "HI_BYTE_SHIFT"), (0, u "I"), (2, u "LO_BYTE_SHIFT"), (49, .methodref 12 116), (0, .nameAndType 117 118), (0, u "compress"), (0, u "([CI[BII)I"), (3, u "([CII)[B"), (138, u "coderFromArrayLen"), (0, u "([BI)B"), (106, .class_ 371), (1, u "java/lang/StringUTF16$LinesSpliterator"), (58, u "MAX_LENGTH"), (196, .class_ 628), (0, u "java/lang/StringUTF16$CodePointsSpliterator"), (0, .class_ 630), (0, u "java/lang/StringUTF16$CharsSpliterator")] 4

def k10m0 : Method := { name := "<init>", desc := "()V", sig := { parameters := [], returnType := none }, accessFlags := 0, code := none }
def k10c1 : Code := { maxStack := 2, maxLocals := 2, code := jdk_52_method_15_code, exceptionTable := #[], attributes := #[] }
def k10m1 : Method := { name := "coderFromArrayLen", desc := "([BI)B", sig := { parameters := [(.array .byte), .int], returnType := some .byte }, accessFlags := 8, code := some k10c1 }
def k10c2 : Code := { maxStack := 5, maxLocals := 6, code := jdk_52_method_16_code, exceptionTable := #[], attributes := #[] }
def k10m2 : Method := { name := "compress", desc := "([CII)[B", sig := { parameters := [(.array .char), .int, .int], returnType := some (.array .byte) }, accessFlags := 9, code := some k10c2 }
def k10c3 : Code := { maxStack := 3, maxLocals := 7, code := jdk_52_method_21_code, exceptionTable := #[], attributes := #[] }
def k10m3 : Method := { name := "compress", desc := "([CI[BII)I", sig := { parameters := [(.array .char), .int, (.array .byte), .int, .int], returnType := some .int }, accessFlags := 9, code := some k10c3 }
/-- java/lang/StringUTF16 -/
def k10 : Class := { plain "java/lang/StringUTF16" (some 0) with
  accessFlags := 48
  interfaces := #[]
  cf := some (fileOf pool10 12 #[.nestMembers #[627, 629, 369]] #[{ accessFlags := 0, nameIndex := 9, descriptorIndex := 10, attributes := #[] }, { accessFlags := 8, nameIndex := 261, descriptorIndex := 262, attributes := #[] }, { accessFlags := 9, nameIndex := 117, descriptorIndex := 122, attributes := #[] }, { accessFlags := 9, nameIndex := 117, descriptorIndex := 118, attributes := #[] }] 48 6 #[] #[{ accessFlags := 26, nameIndex := 61, descriptorIndex := 62, attributes := #[] }, { accessFlags := 26, nameIndex := 65, descriptorIndex := 62, attributes := #[] }, { accessFlags := 24, nameIndex := 430, descriptorIndex := 62, attributes := #[] }, { accessFlags := 4120, nameIndex := 46, descriptorIndex := 47, attributes := #[] }])
  fields := #[{ name := "HI_BYTE_SHIFT", type := .int, accessFlags := 26, slot := 0, constantValue := 0 }, { name := "LO_BYTE_SHIFT", type := .int, accessFlags := 26, slot := 1, constantValue := 0 }, { name := "MAX_LENGTH", type := .int, accessFlags := 24, slot := 2, constantValue := 0 }, { name := "$assertionsDisabled", type := .boolean, accessFlags := 4120, slot := 3, constantValue := 0 }]
  methods := #[k10m0, k10m1, k10m2, k10m3]
  instanceTypes := #[]
  staticTypes := #[.int, .int, .int, .boolean]
  resolved := Array.replicate 635 none
  statics := none }

def pool11 : Array CpInfo := pool [(2, .class_ 4), (1, u "java/lang/Enum"), (0, u "name"), (0, u "Ljava/lang/String;"), (2, u "ordinal"), (0, u "I"), (1, .class_ 14), (1, u "java/lang/Object"), (4, u "hash"), (86, .class_ 108), (1, u "java/lang/Enum$EnumDesc"), (2, .class_ 112), (0, u "java/lang/constant/Constable"), (0, .class_ 114), (0, u "java/lang/Comparable"), (0, .class_ 116), (0, u "java/io/Serializable")] 87

/-- java/lang/Enum -/
def k11 : Class := { plain "java/lang/Enum" (some 0) with
  accessFlags := 1057
  interfaces := #[5, 3, 2]
  cf := some (fileOf pool11 2 #[.nestMembers #[106]] #[] 1057 12 #[111, 113, 115] #[{ accessFlags := 18, nameIndex := 5, descriptorIndex := 6, attributes := #[] }, { accessFlags := 18, nameIndex := 9, descriptorIndex := 10, attributes := #[] }, { accessFlags := 2, nameIndex := 19, descriptorIndex := 10, attributes := #[] }])
  fields := #[{ name := "name", type := (.object "java/lang/String"), accessFlags := 18, slot := 0, constantValue := 0 }, { name := "ordinal", type := .int, accessFlags := 18, slot := 1, constantValue := 0 }, { name := "hash", type := .int, accessFlags := 2, slot := 2, constantValue := 0 }]
  methods := #[]
  instanceTypes := #[(.object "java/lang/String"), .int, .int]
  staticTypes := #[]
  resolved := Array.replicate 204 none
  statics := none }

def pool12 : Array CpInfo := pool [(1, .class_ 2), (0, u "com/example/calm_inbox/calminbox/webhook/WebhookStatus"), (2, u "ACTIVE"), (0, u "Lcom/example/calm_inbox/calminbox/webhook/WebhookStatus;"), (2, u "FAILING"), (2, u "DISABLED"), (0, .fieldref 1 14), (0, .nameAndType 15 16), (0, u "$VALUES"), (0, u "[Lcom/example/calm_inbox/calminbox/webhook/WebhookStatus;"), (0, .methodref 18 19), (0, .class_ 16), (0, .nameAndType 20 21), (0, u "clone"), (0, u "()Ljava/lang/Object;"), (1, .class_ 25), (1, u "java/lang/Enum"), (6, .fieldref 1 33), (0, .nameAndType 34 35), (0, u "wireName"), (0, u "Ljava/lang/String;"), (0, .methodref 1 37), (0, .nameAndType 38 39), (0, u "values"), (0, u "()[Lcom/example/calm_inbox/calminbox/webhook/WebhookStatus;"), (0, .methodref 41 42), (0, .class_ 43), (0, .nameAndType 44 45), (0, u "java/lang/String"), (0, u "equals"), (0, u "(Ljava/lang/Object;)Z"), (17, u "(Ljava/lang/String;)Lcom/example/calm_inbox/calminbox/webhook/WebhookStatus;"), (4, u "fromWireName")] 6

def k12c0 : Code := { maxStack := 1, maxLocals := 0, code := prog_22_method_1_code, exceptionTable := #[], attributes := #[] }
def k12m0 : Method := { name := "values", desc := "()[Lcom/example/calm_inbox/calminbox/webhook/WebhookStatus;", sig := { parameters := [], returnType := some (.array (.object "com/example/calm_inbox/calminbox/webhook/WebhookStatus")) }, accessFlags := 9, code := some k12c0 }
def k12c1 : Code := { maxStack := 2, maxLocals := 5, code := prog_22_method_5_code, exceptionTable := #[], attributes := #[] }
def k12m1 : Method := { name := "fromWireName", desc := "(Ljava/lang/String;)Lcom/example/calm_inbox/calminbox/webhook/WebhookStatus;", sig := { parameters := [(.object "java/lang/String")], returnType := some (.object "com/example/calm_inbox/calminbox/webhook/WebhookStatus") }, accessFlags := 8, code := some k12c1 }
/-- com/example/calm_inbox/calminbox/webhook/WebhookStatus -/
def k12 : Class := { plain "com/example/calm_inbox/calminbox/webhook/WebhookStatus" (some 11) with
  accessFlags := 16432
  interfaces := #[]
  cf := some (fileOf pool12 1 #[] #[{ accessFlags := 9, nameIndex := 38, descriptorIndex := 39, attributes := #[] }, { accessFlags := 8, nameIndex := 68, descriptorIndex := 63, attributes := #[] }] 16432 23 #[] #[{ accessFlags := 16409, nameIndex := 5, descriptorIndex := 6, attributes := #[] }, { accessFlags := 16409, nameIndex := 9, descriptorIndex := 6, attributes := #[] }, { accessFlags := 16409, nameIndex := 12, descriptorIndex := 6, attributes := #[] }, { accessFlags := 18, nameIndex := 34, descriptorIndex := 35, attributes := #[] }, { accessFlags := 4122, nameIndex := 15, descriptorIndex := 16, attributes := #[] }])
  fields := #[{ name := "ACTIVE", type := (.object "com/example/calm_inbox/calminbox/webhook/WebhookStatus"), accessFlags := 16409, slot := 0, constantValue := 0 }, { name := "FAILING", type := (.object "com/example/calm_inbox/calminbox/webhook/WebhookStatus"), accessFlags := 16409, slot := 1, constantValue := 0 }, { name := "DISABLED", type := (.object "com/example/calm_inbox/calminbox/webhook/WebhookStatus"), accessFlags := 16409, slot := 2, constantValue := 0 }, { name := "wireName", type := (.object "java/lang/String"), accessFlags := 18, slot := 3, constantValue := 0 }, { name := "$VALUES", type := (.array (.object "com/example/calm_inbox/calminbox/webhook/WebhookStatus")), accessFlags := 4122, slot := 3, constantValue := 0 }]
  methods := #[k12m0, k12m1]
  instanceTypes := #[(.object "java/lang/String"), .int, .int, (.object "java/lang/String")]
  staticTypes := #[(.object "com/example/calm_inbox/calminbox/webhook/WebhookStatus"), (.object "com/example/calm_inbox/calminbox/webhook/WebhookStatus"), (.object "com/example/calm_inbox/calminbox/webhook/WebhookStatus"), (.array (.object "com/example/calm_inbox/calminbox/webhook/WebhookStatus"))]
  resolved := Array.replicate 75 none
  statics := some 2 }

def pool13 : Array CpInfo := pool [(1, .class_ 2), (0, u "java/lang/Cloneable"), (0, .class_ 4), (0, u "java/lang/Object")] 2

/-- java/lang/Cloneable -/
def k13 : Class := { plain "java/lang/Cloneable" (some 0) with
  accessFlags := 1537
  interfaces := #[]
  cf := some (fileOf pool13 1 #[] #[] 1537 3 #[] #[])
  fields := #[]
  methods := #[]
  instanceTypes := #[]
  staticTypes := #[]
  resolved := Array.replicate 7 none
  statics := none }

def pool14 : Array CpInfo := pool [(9, u "<init>"), (6, .class_ 18), (1, u "java/lang/Object"), (0, u "()V"), (1, .class_ 23), (1, u "jdk/internal/util/ArraysSupport"), (0, u "LOG2_ARRAY_LONG_INDEX_SCALE"), (0, u "I"), (2, u "U"), (0, u "Ljdk/internal/misc/Unsafe;"), (8, u "BIG_ENDIAN"), (0, u "Z"), (8, u "LOG2_BYTE_BIT_SIZE"), (4, u "LOG2_ARRAY_INT_INDEX_SCALE"), (54, u "JLA"), (0, u "Ljdk/internal/access/JavaLangAccess;"), (11, u "LOG2_ARRAY_BOOLEAN_INDEX_SCALE"), (9, u "LOG2_ARRAY_BYTE_INDEX_SCALE"), (5, u "LOG2_ARRAY_CHAR_INDEX_SCALE"), (5, u "LOG2_ARRAY_SHORT_INDEX_SCALE"), (18, u "LOG2_ARRAY_FLOAT_INDEX_SCALE"), (24, u "LOG2_ARRAY_DOUBLE_INDEX_SCALE"), (89, u "T_BOOLEAN"), (2, u "T_CHAR"), (1, u "T_FLOAT"), (1, u "T_DOUBLE"), (1, u "T_BYTE"), (1, u "T_SHORT"), (1, u "T_INT"), (1, u "T_LONG"), (1, u "SOFT_MAX_ARRAY_LENGTH")] 83

def k14m0 : Method := { name := "<init>", desc := "()V", sig := { parameters := [], returnType := none }, accessFlags := 2, code := none }
/-- jdk/internal/util/ArraysSupport -/
def k14 : Class := { plain "jdk/internal/util/ArraysSupport" (some 0) with
  accessFlags := 33
  interfaces := #[]
  cf := some (fileOf pool14 21 #[] #[{ accessFlags := 2, nameIndex := 9, descriptorIndex := 19, attributes := #[] }] 33 16 #[] #[{ accessFlags := 24, nameIndex := 28, descriptorIndex := 29, attributes := #[] }, { accessFlags := 26, nameIndex := 38, descriptorIndex := 39, attributes := #[] }, { accessFlags := 25, nameIndex := 121, descriptorIndex := 25, attributes := #[] }, { accessFlags := 25, nameIndex := 131, descriptorIndex := 25, attributes := #[] }, { accessFlags := 25, nameIndex := 137, descriptorIndex := 25, attributes := #[] }, { accessFlags := 25, nameIndex := 143, descriptorIndex := 25, attributes := #[] }, { accessFlags := 25, nameIndex := 53, descriptorIndex := 25, attributes := #[] }, { accessFlags := 25, nameIndex := 24, descriptorIndex := 25, attributes := #[] }, { accessFlags := 25, nameIndex := 162, descriptorIndex := 25, attributes := #[] }, { accessFlags := 25, nameIndex := 187, descriptorIndex := 25, attributes := #[] }, { accessFlags := 26, nameIndex := 48, descriptorIndex := 25, attributes := #[] }, { accessFlags := 25, nameIndex := 277, descriptorIndex := 25, attributes := #[] }, { accessFlags := 25, nameIndex := 280, descriptorIndex := 25, attributes := #[] }, { accessFlags := 25, nameIndex := 282, descriptorIndex := 25, attributes := #[] }, { accessFlags := 25, nameIndex := 284, descriptorIndex := 25, attributes := #[] }, { accessFlags := 25, nameIndex := 286, descriptorIndex := 25, attributes := #[] }, { accessFlags := 25, nameIndex := 288, descriptorIndex := 25, attributes := #[] }, { accessFlags := 25, nameIndex := 290, descriptorIndex := 25, attributes := #[] }, { accessFlags := 25, nameIndex := 292, descriptorIndex := 25, attributes := #[] }, { accessFlags := 26, nameIndex := 108, descriptorIndex := 109, attributes := #[] }, { accessFlags := 25, nameIndex := 294, descriptorIndex := 25, attributes := #[] }])
  fields := #[{ name := "U", type := (.object "jdk/internal/misc/Unsafe"), accessFlags := 24, slot := 0, constantValue := 0 }, { name := "BIG_ENDIAN", type := .boolean, accessFlags := 26, slot := 1, constantValue := 0 }, { name := "LOG2_ARRAY_BOOLEAN_INDEX_SCALE", type := .int, accessFlags := 25, slot := 2, constantValue := 0 }, { name := "LOG2_ARRAY_BYTE_INDEX_SCALE", type := .int, accessFlags := 25, slot := 3, constantValue := 0 }, { name := "LOG2_ARRAY_CHAR_INDEX_SCALE", type := .int, accessFlags := 25, slot := 4, constantValue := 0 }, { name := "LOG2_ARRAY_SHORT_INDEX_SCALE", type := .int, accessFlags := 25, slot := 5, constantValue := 0 }, { name := "LOG2_ARRAY_INT_INDEX_SCALE", type := .int, accessFlags := 25, slot := 6, constantValue := 0 }, { name := "LOG2_ARRAY_LONG_INDEX_SCALE", type := .int, accessFlags := 25, slot := 7, constantValue := 0 }, { name := "LOG2_ARRAY_FLOAT_INDEX_SCALE", type := .int, accessFlags := 25, slot := 8, constantValue := 0 }, { name := "LOG2_ARRAY_DOUBLE_INDEX_SCALE", type := .int, accessFlags := 25, slot := 9, constantValue := 0 }, { name := "LOG2_BYTE_BIT_SIZE", type := .int, accessFlags := 26, slot := 10, constantValue := 0 }, { name := "T_BOOLEAN", type := .int, accessFlags := 25, slot := 11, constantValue := 0 }, { name := "T_CHAR", type := .int, accessFlags := 25, slot := 12, constantValue := 0 }, { name := "T_FLOAT", type := .int, accessFlags := 25, slot := 13, constantValue := 0 }, { name := "T_DOUBLE", type := .int, accessFlags := 25, slot := 14, constantValue := 0 }, { name := "T_BYTE", type := .int, accessFlags := 25, slot := 15, constantValue := 0 }, { name := "T_SHORT", type := .int, accessFlags := 25, slot := 16, constantValue := 0 }, { name := "T_INT", type := .int, accessFlags := 25, slot := 17, constantValue := 0 }, { name := "T_LONG", type := .int, accessFlags := 25, slot := 18, constantValue := 0 }, { name := "JLA", type := (.object "jdk/internal/access/JavaLangAccess"), accessFlags := 26, slot := 19, constantValue := 0 }, { name := "SOFT_MAX_ARRAY_LENGTH", type := .int, accessFlags := 25, slot := 20, constantValue := 0 }]
  methods := #[k14m0]
  instanceTypes := #[]
  staticTypes := #[(.object "jdk/internal/misc/Unsafe"), .boolean, .int, .int, .int, .int, .int, .int, .int, .int, .int, .int, .int, .int, .int, .int, .int, .int, .int, (.object "jdk/internal/access/JavaLangAccess"), .int]
  resolved := Array.replicate 378 none
  statics := none }

/-- the primitive byte -/
def k15 : Class := { plain "byte" none with kind := .primitive 'B', accessFlags := 0x411 }
/-- [B -/
def k16 : Class := { plain "[B" (some 0) with kind := .array 15 .byte, interfaces := #[13, 2], accessFlags := 1041 }

/-- the primitive char -/
def k17 : Class := { plain "char" none with kind := .primitive 'C', accessFlags := 0x411 }
/-- [C -/
def k18 : Class := { plain "[C" (some 0) with kind := .array 17 .char, interfaces := #[13, 2], accessFlags := 1041 }

/-- the primitive int -/
def k19 : Class := { plain "int" none with kind := .primitive 'I', accessFlags := 0x411 }
/-- [I -/
def k20 : Class := { plain "[I" (some 0) with kind := .array 19 .int, interfaces := #[13, 2], accessFlags := 1041 }

/-- [Lcom/example/calm_inbox/calminbox/webhook/WebhookStatus; -/
def k21 : Class := { plain "[Lcom/example/calm_inbox/calminbox/webhook/WebhookStatus;" (some 0) with kind := .array 12 (.object "com/example/calm_inbox/calminbox/webhook/WebhookStatus"), interfaces := #[13, 2], accessFlags := 1041 }

def heap : Heap := #[{ cls := 7, slots := #[.long 0, .int 1, .null, .int 0, .null, .int 0, .int 0], vm := .statics 7 },
  { cls := 9, slots := #[.null, .null, .null], vm := .statics 9 },
  { cls := 12, slots := #[.ref 4, .ref 7, .ref 10, .ref 3], vm := .statics 12 },
  { cls := 21, slots := #[.ref 4, .ref 7, .ref 10], vm := .none },
  { cls := 12, slots := #[.null, .int 0, .int 0, .ref 5], vm := .none },
  { cls := 7, slots := #[.ref 6, .int 0, .int 0, .int 0], vm := .none },
  { cls := 16, slots := #[.int 97, .int 99, .int 116, .int 105, .int 118, .int 101], vm := .none },
  { cls := 12, slots := #[.null, .int 1, .int 0, .ref 8], vm := .none },
  { cls := 7, slots := #[.ref 9, .int 0, .int 0, .int 0], vm := .none },
  { cls := 16, slots := #[.int 102, .int 97, .int 105, .int 108, .int 105, .int 110, .int 103], vm := .none },
  { cls := 12, slots := #[.null, .int 2, .int 0, .ref 11], vm := .none },
  { cls := 7, slots := #[.ref 12, .int 0, .int 0, .int 0], vm := .none },
  { cls := 16, slots := #[.int 100, .int 105, .int 115, .int 97, .int 98, .int 108, .int 101, .int 100], vm := .none }]
def classes : Array Class := #[k0, k1, k2, k3, k4, k5, k6, k7, k8, k9, k10, k11, k12, k13, k14, k15, k16, k17, k18, k19, k20, k21]
def interned : List (Array UInt16 × Addr) := []
def slotsUsed : Nat := 62
def theMethod : MethodId := ⟨1, 1⟩
def args0 : Array Value := #[.int 5, .int 5, .int 5, .int 5, .int 5]
def aboutOver (below : List Frame) : State where
  vm := { classes := classes, interned := interned.toArray }
  heap := heap
  slotsUsed := slotsUsed
  threads := #[{ frames := .invoking theMethod args0 :: below }]
def below0 : List Frame := [.native { method := ⟨0, 0⟩, args := #[] }]
def about1 : State := aboutOver below0
def p0 : Program := .bare "" "" ""
def e0 : Env := launch0.env 0 0 0
theorem w_frames : about1.frames = Frame.invoking theMethod args0 :: below0 := rfl
set_option maxRecDepth 65536 in
theorem w_args : argsFit about1.vm theMethod args0 = true := by decide +kernel
set_option maxRecDepth 65536 in
theorem w_heap : heapFits about1 = true := by decide +kernel
set_option maxRecDepth 65536 in
theorem w_runnable : about1.curStatus? = some .runnable := by decide +kernel
set_option maxRecDepth 65536 in
theorem w_alone : about1.alone = true := by decide +kernel
set_option maxRecDepth 65536 in
theorem w_named : about1.methodNamed? x = some theMethod := by decide +kernel
set_option maxRecDepth 65536 in
theorem w_hears : about1.hears theMethod below0 = true := by decide +kernel
set_option maxRecDepth 65536 in
theorem w_ripe : about1.ripe theMethod args0 below0 = true := by decide +kernel
theorem w_running : about1.status = .running := rfl
set_option maxRecDepth 65536 in
theorem w_room : about1.hasRoom e0.platform room_1 = true :=
  launch0.hasRoom_least _ room_1 (by decide +kernel) (by decide +kernel) (by decide +kernel) (by decide +kernel) (by decide +kernel) (by decide +kernel)
theorem allAtoms_all (ts : List Jvm.Cond) (a : Array Jvm.Value) (st : Jvm.State) : (allAtoms ts).before a st = ts.all (fun c => c.before a st) := by
  induction ts with
  | nil => rfl
  | cons c t ih =>
    show (Jvm.Cond.and c (allAtoms t)).before a st = _
    rw [Jvm.Cond.before_and, ih, List.all_cons]
def words1 : List Jvm.Cond := Jvm.Cond.code x code maxLocals ret :: tables_1
/-- a 'code' word, met by the world's own term for the bytes: nothing is compared byte by byte -/
theorem code_word {y : MethodName} {bytes : ByteArray} {mx : Nat} {rt : Option FieldType} {a : Array Value} {s : State} {m : MethodId} {meth : Method} {c : Code} (h1 : s.methodNamed? y = some m) (h2 : s.vm.method? m = some meth) (h3 : meth.code = some c) (h4 : c.code = bytes)
    (h5 : (c.maxLocals == mx && c.exceptionTable.isEmpty && decide (c.maxStack ≤ mostOperands) && decide (meth.sig.returnType = rt) && !meth.locks && decide (parseMethodDescriptor y.desc = some meth.sig)) = true) : (Jvm.Cond.code y bytes mx rt).before a s = true := by
  simp only [Bool.and_eq_true, beq_iff_eq, Bool.not_eq_true', decide_eq_true_eq] at h5
  obtain ⟨⟨⟨⟨⟨g1, g2⟩, g3⟩, g4⟩, g5⟩, g6⟩ := h5
  simp [Cond.before, Cond.holds, Cond.value, h1, h2, h3, h4, g1, g2, g3, g4, g5, g6]
def isCode : Jvm.Cond → Bool
  | .code _ _ _ _ => true
  | _ => false
theorem all_split {L : List Jvm.Cond} {P : Jvm.Cond → Bool} (h1 : L.all (fun c => isCode c || P c) = true) (h2 : ∀ c ∈ L.filter isCode, P c = true) : L.all P = true := by
  refine List.all_eq_true.mpr fun c hc => ?_
  have h := List.all_eq_true.mp h1 c hc
  rcases Bool.eq_false_or_eq_true (isCode c) with hi | hi
  · exact h2 c (List.mem_filter.mpr ⟨hc, hi⟩)
  · simpa [hi] using h
set_option maxRecDepth 65536 in
theorem w_c0 : (Jvm.Cond.code x code maxLocals ret).before args0 about1 = true := code_word (m := ⟨1, 1⟩) (meth := k1m1) (c := k1c1) (by decide +kernel) rfl rfl rfl (by decide +kernel)
set_option maxRecDepth 65536 in
theorem w_c1 : (Jvm.Cond.code ({ cls := "java/lang/String", name := "length", desc := "()I" } : Jvm.MethodName) jdk_42_method_54_code (1 : Nat) (Option.some Jvm.ClassFile.FieldType.int)).before args0 about1 = true := code_word (m := ⟨7, 2⟩) (meth := k7m2) (c := k7c2) (by decide +kernel) rfl rfl rfl (by decide +kernel)
set_option maxRecDepth 65536 in
theorem w_c2 : (Jvm.Cond.code ({ cls := "java/lang/String", name := "coder", desc := "()B" } : Jvm.MethodName) jdk_42_method_152_code (1 : Nat) (Option.some Jvm.ClassFile.FieldType.byte)).before args0 about1 = true := code_word (m := ⟨7, 6⟩) (meth := k7m6) (c := k7c6) (by decide +kernel) rfl rfl rfl (by decide +kernel)
set_option maxRecDepth 65536 in
theorem w_c3 : (Jvm.Cond.code ({ cls := "com/example/calm_inbox/calminbox/webhook/WebhookStatusFromWireNamePinLaw", name := "ch", desc := "(Ljava/lang/String;IIIII)C" } : Jvm.MethodName) method_3_code (7 : Nat) (Option.some Jvm.ClassFile.FieldType.char)).before args0 about1 = true := code_word (m := ⟨1, 2⟩) (meth := k1m2) (c := k1c2) (by decide +kernel) rfl rfl rfl (by decide +kernel)
set_option maxRecDepth 65536 in
theorem w_c4 : (Jvm.Cond.code ({ cls := "java/lang/String", name := "charAt", desc := "(I)C" } : Jvm.MethodName) jdk_42_method_56_code (2 : Nat) (Option.some Jvm.ClassFile.FieldType.char)).before args0 about1 = true := code_word (m := ⟨7, 3⟩) (meth := k7m3) (c := k7c3) (by decide +kernel) rfl rfl rfl (by decide +kernel)
set_option maxRecDepth 65536 in
theorem w_c5 : (Jvm.Cond.code ({ cls := "java/lang/String", name := "isLatin1", desc := "()Z" } : Jvm.MethodName) jdk_42_method_154_code (1 : Nat) (Option.some Jvm.ClassFile.FieldType.boolean)).before args0 about1 = true := code_word (m := ⟨7, 7⟩) (meth := k7m7) (c := k7c7) (by decide +kernel) rfl rfl rfl (by decide +kernel)
set_option maxRecDepth 65536 in
theorem w_c6 : (Jvm.Cond.code ({ cls := "java/lang/StringLatin1", name := "charAt", desc := "([BI)C" } : Jvm.MethodName) jdk_43_method_2_code (2 : Nat) (Option.some Jvm.ClassFile.FieldType.char)).before args0 about1 = true := code_word (m := ⟨8, 1⟩) (meth := k8m1) (c := k8c1) (by decide +kernel) rfl rfl rfl (by decide +kernel)
set_option maxRecDepth 65536 in
theorem w_c7 : (Jvm.Cond.code ({ cls := "java/lang/String", name := "checkIndex", desc := "(II)V" } : Jvm.MethodName) jdk_42_method_155_code (2 : Nat) (Option.none : Option Jvm.ClassFile.FieldType)).before args0 about1 = true := code_word (m := ⟨7, 8⟩) (meth := k7m8) (c := k7c8) (by decide +kernel) rfl rfl rfl (by decide +kernel)
set_option maxRecDepth 65536 in
theorem w_c8 : (Jvm.Cond.code ({ cls := "jdk/internal/util/Preconditions", name := "checkIndex", desc := "(IILjava/util/function/BiFunction;)I" } : Jvm.MethodName) jdk_41_method_11_code (3 : Nat) (Option.some Jvm.ClassFile.FieldType.int)).before args0 about1 = true := code_word (m := ⟨9, 1⟩) (meth := k9m1) (c := k9c1) (by decide +kernel) rfl rfl rfl (by decide +kernel)
set_option maxRecDepth 65536 in
theorem w_c9 : (Jvm.Cond.code ({ cls := "com/example/calm_inbox/calminbox/webhook/WebhookStatusFromWireNamePinLaw", name := "cut", desc := "([CI)Ljava/lang/String;" } : Jvm.MethodName) method_4_code (2 : Nat) (Option.some (Jvm.ClassFile.FieldType.object "java/lang/String"))).before args0 about1 = true := code_word (m := ⟨1, 3⟩) (meth := k1m3) (c := k1c3) (by decide +kernel) rfl rfl rfl (by decide +kernel)
set_option maxRecDepth 65536 in
theorem w_c10 : (Jvm.Cond.code ({ cls := "java/lang/String", name := "<init>", desc := "([C)V" } : Jvm.MethodName) jdk_42_method_3_code (2 : Nat) (Option.none : Option Jvm.ClassFile.FieldType)).before args0 about1 = true := code_word (m := ⟨7, 1⟩) (meth := k7m1) (c := k7c1) (by decide +kernel) rfl rfl rfl (by decide +kernel)
set_option maxRecDepth 65536 in
theorem w_c11 : (Jvm.Cond.code ({ cls := "java/lang/String", name := "<init>", desc := "([CIILjava/lang/Void;)V" } : Jvm.MethodName) jdk_42_method_149_code (6 : Nat) (Option.none : Option Jvm.ClassFile.FieldType)).before args0 about1 = true := code_word (m := ⟨7, 5⟩) (meth := k7m5) (c := k7c5) (by decide +kernel) rfl rfl rfl (by decide +kernel)
set_option maxRecDepth 65536 in
theorem w_c12 : (Jvm.Cond.code ({ cls := "java/lang/Object", name := "<init>", desc := "()V" } : Jvm.MethodName) object_method_1_code (1 : Nat) (Option.none : Option Jvm.ClassFile.FieldType)).before args0 about1 = true := code_word (m := ⟨0, 0⟩) (meth := k0m0) (c := k0c0) (by decide +kernel) rfl rfl rfl (by decide +kernel)
set_option maxRecDepth 65536 in
theorem w_c13 : (Jvm.Cond.code ({ cls := "java/lang/StringUTF16", name := "compress", desc := "([CII)[B" } : Jvm.MethodName) jdk_52_method_16_code (6 : Nat) (Option.some (Jvm.ClassFile.FieldType.array Jvm.ClassFile.FieldType.byte))).before args0 about1 = true := code_word (m := ⟨10, 2⟩) (meth := k10m2) (c := k10c2) (by decide +kernel) rfl rfl rfl (by decide +kernel)
set_option maxRecDepth 65536 in
theorem w_c14 : (Jvm.Cond.code ({ cls := "java/lang/StringUTF16", name := "compress", desc := "([CI[BII)I" } : Jvm.MethodName) jdk_52_method_21_code (7 : Nat) (Option.some Jvm.ClassFile.FieldType.int)).before args0 about1 = true := code_word (m := ⟨10, 3⟩) (meth := k10m3) (c := k10c3) (by decide +kernel) rfl rfl rfl (by decide +kernel)
set_option maxRecDepth 65536 in
theorem w_c15 : (Jvm.Cond.code ({ cls := "java/lang/StringUTF16", name := "coderFromArrayLen", desc := "([BI)B" } : Jvm.MethodName) jdk_52_method_15_code (2 : Nat) (Option.some Jvm.ClassFile.FieldType.byte)).before args0 about1 = true := code_word (m := ⟨10, 1⟩) (meth := k10m1) (c := k10c1) (by decide +kernel) rfl rfl rfl (by decide +kernel)
set_option maxRecDepth 65536 in
theorem w_c16 : (Jvm.Cond.code ({ cls := "java/lang/String", name := "equals", desc := "(Ljava/lang/Object;)Z" } : Jvm.MethodName) jdk_42_method_66_code (3 : Nat) (Option.some Jvm.ClassFile.FieldType.boolean)).before args0 about1 = true := code_word (m := ⟨7, 4⟩) (meth := k7m4) (c := k7c4) (by decide +kernel) rfl rfl rfl (by decide +kernel)
set_option maxRecDepth 65536 in
theorem w_c17 : (Jvm.Cond.code ({ cls := "java/lang/StringLatin1", name := "equals", desc := "([B[B)Z" } : Jvm.MethodName) jdk_43_method_13_code (3 : Nat) (Option.some Jvm.ClassFile.FieldType.boolean)).before args0 about1 = true := code_word (m := ⟨8, 2⟩) (meth := k8m2) (c := k8c2) (by decide +kernel) rfl rfl rfl (by decide +kernel)
set_option maxRecDepth 65536 in
theorem w_c18 : (Jvm.Cond.code ({ cls := "com/example/calm_inbox/calminbox/webhook/WebhookStatus", name := "fromWireName", desc := "(Ljava/lang/String;)Lcom/example/calm_inbox/calminbox/webhook/WebhookStatus;" } : Jvm.MethodName) prog_22_method_5_code (5 : Nat) (Option.some (Jvm.ClassFile.FieldType.object "com/example/calm_inbox/calminbox/webhook/WebhookStatus"))).before args0 about1 = true := code_word (m := ⟨12, 1⟩) (meth := k12m1) (c := k12c1) (by decide +kernel) rfl rfl rfl (by decide +kernel)
set_option maxRecDepth 65536 in
theorem w_c19 : (Jvm.Cond.code ({ cls := "com/example/calm_inbox/calminbox/webhook/WebhookStatus", name := "values", desc := "()[Lcom/example/calm_inbox/calminbox/webhook/WebhookStatus;" } : Jvm.MethodName) prog_22_method_1_code (0 : Nat) (Option.some (Jvm.ClassFile.FieldType.array (Jvm.ClassFile.FieldType.object "com/example/calm_inbox/calminbox/webhook/WebhookStatus")))).before args0 about1 = true := code_word (m := ⟨12, 0⟩) (meth := k12m0) (c := k12c0) (by decide +kernel) rfl rfl rfl (by decide +kernel)
def codes1 : List Jvm.Cond := [Jvm.Cond.code x code maxLocals ret, Jvm.Cond.code ({ cls := "java/lang/String", name := "length", desc := "()I" } : Jvm.MethodName) jdk_42_method_54_code (1 : Nat) (Option.some Jvm.ClassFile.FieldType.int), Jvm.Cond.code ({ cls := "java/lang/String", name := "coder", desc := "()B" } : Jvm.MethodName) jdk_42_method_152_code (1 : Nat) (Option.some Jvm.ClassFile.FieldType.byte), Jvm.Cond.code ({ cls := "com/example/calm_inbox/calminbox/webhook/WebhookStatusFromWireNamePinLaw", name := "ch", desc := "(Ljava/lang/String;IIIII)C" } : Jvm.MethodName) method_3_code (7 : Nat) (Option.some Jvm.ClassFile.FieldType.char), Jvm.Cond.code ({ cls := "java/lang/String", name := "charAt", desc := "(I)C" } : Jvm.MethodName) jdk_42_method_56_code (2 : Nat) (Option.some Jvm.ClassFile.FieldType.char), Jvm.Cond.code ({ cls := "java/lang/String", name := "isLatin1", desc := "()Z" } : Jvm.MethodName) jdk_42_method_154_code (1 : Nat) (Option.some Jvm.ClassFile.FieldType.boolean), Jvm.Cond.code ({ cls := "java/lang/StringLatin1", name := "charAt", desc := "([BI)C" } : Jvm.MethodName) jdk_43_method_2_code (2 : Nat) (Option.some Jvm.ClassFile.FieldType.char), Jvm.Cond.code ({ cls := "java/lang/String", name := "checkIndex", desc := "(II)V" } : Jvm.MethodName) jdk_42_method_155_code (2 : Nat) (Option.none : Option Jvm.ClassFile.FieldType), Jvm.Cond.code ({ cls := "jdk/internal/util/Preconditions", name := "checkIndex", desc := "(IILjava/util/function/BiFunction;)I" } : Jvm.MethodName) jdk_41_method_11_code (3 : Nat) (Option.some Jvm.ClassFile.FieldType.int), Jvm.Cond.code ({ cls := "com/example/calm_inbox/calminbox/webhook/WebhookStatusFromWireNamePinLaw", name := "cut", desc := "([CI)Ljava/lang/String;" } : Jvm.MethodName) method_4_code (2 : Nat) (Option.some (Jvm.ClassFile.FieldType.object "java/lang/String")), Jvm.Cond.code ({ cls := "java/lang/String", name := "<init>", desc := "([C)V" } : Jvm.MethodName) jdk_42_method_3_code (2 : Nat) (Option.none : Option Jvm.ClassFile.FieldType), Jvm.Cond.code ({ cls := "java/lang/String", name := "<init>", desc := "([CIILjava/lang/Void;)V" } : Jvm.MethodName) jdk_42_method_149_code (6 : Nat) (Option.none : Option Jvm.ClassFile.FieldType), Jvm.Cond.code ({ cls := "java/lang/Object", name := "<init>", desc := "()V" } : Jvm.MethodName) object_method_1_code (1 : Nat) (Option.none : Option Jvm.ClassFile.FieldType), Jvm.Cond.code ({ cls := "java/lang/StringUTF16", name := "compress", desc := "([CII)[B" } : Jvm.MethodName) jdk_52_method_16_code (6 : Nat) (Option.some (Jvm.ClassFile.FieldType.array Jvm.ClassFile.FieldType.byte)), Jvm.Cond.code ({ cls := "java/lang/StringUTF16", name := "compress", desc := "([CI[BII)I" } : Jvm.MethodName) jdk_52_method_21_code (7 : Nat) (Option.some Jvm.ClassFile.FieldType.int), Jvm.Cond.code ({ cls := "java/lang/StringUTF16", name := "coderFromArrayLen", desc := "([BI)B" } : Jvm.MethodName) jdk_52_method_15_code (2 : Nat) (Option.some Jvm.ClassFile.FieldType.byte), Jvm.Cond.code ({ cls := "java/lang/String", name := "equals", desc := "(Ljava/lang/Object;)Z" } : Jvm.MethodName) jdk_42_method_66_code (3 : Nat) (Option.some Jvm.ClassFile.FieldType.boolean), Jvm.Cond.code ({ cls := "java/lang/StringLatin1", name := "equals", desc := "([B[B)Z" } : Jvm.MethodName) jdk_43_method_13_code (3 : Nat) (Option.some Jvm.ClassFile.FieldType.boolean), Jvm.Cond.code ({ cls := "com/example/calm_inbox/calminbox/webhook/WebhookStatus", name := "fromWireName", desc := "(Ljava/lang/String;)Lcom/example/calm_inbox/calminbox/webhook/WebhookStatus;" } : Jvm.MethodName) prog_22_method_5_code (5 : Nat) (Option.some (Jvm.ClassFile.FieldType.object "com/example/calm_inbox/calminbox/webhook/WebhookStatus")), Jvm.Cond.code ({ cls := "com/example/calm_inbox/calminbox/webhook/WebhookStatus", name := "values", desc := "()[Lcom/example/calm_inbox/calminbox/webhook/WebhookStatus;" } : Jvm.MethodName) prog_22_method_1_code (0 : Nat) (Option.some (Jvm.ClassFile.FieldType.array (Jvm.ClassFile.FieldType.object "com/example/calm_inbox/calminbox/webhook/WebhookStatus")))]
set_option maxRecDepth 65536 in
theorem codes_eq : words1.filter isCode = codes1 := rfl
theorem w_codes : ∀ c ∈ words1.filter isCode, c.before args0 about1 = true := by
  rw [codes_eq]
  intro c hc
  simp only [codes1, List.mem_cons, List.not_mem_nil, or_false] at hc
  rcases hc with rfl | rfl | rfl | rfl | rfl | rfl | rfl | rfl | rfl | rfl | rfl | rfl | rfl | rfl | rfl | rfl | rfl | rfl | rfl | rfl
  · exact w_c0
  · exact w_c1
  · exact w_c2
  · exact w_c3
  · exact w_c4
  · exact w_c5
  · exact w_c6
  · exact w_c7
  · exact w_c8
  · exact w_c9
  · exact w_c10
  · exact w_c11
  · exact w_c12
  · exact w_c13
  · exact w_c14
  · exact w_c15
  · exact w_c16
  · exact w_c17
  · exact w_c18
  · exact w_c19
set_option maxRecDepth 65536 in
theorem w_t1 : (words1.take 24).all (fun c => isCode c || c.before args0 about1) = true := by decide +kernel
set_option maxRecDepth 65536 in
theorem w_t2 : ((words1.drop 24).take 24).all (fun c => isCode c || c.before args0 about1) = true := by decide +kernel
set_option maxRecDepth 65536 in
theorem w_t3 : (((words1.drop 24).drop 24).take 24).all (fun c => isCode c || c.before args0 about1) = true := by decide +kernel
set_option maxRecDepth 65536 in
theorem w_t4 : ((((words1.drop 24).drop 24).drop 24).take 24).all (fun c => isCode c || c.before args0 about1) = true := by decide +kernel
set_option maxRecDepth 65536 in
theorem w_t5 : ((((words1.drop 24).drop 24).drop 24).drop 24).all (fun c => isCode c || c.before args0 about1) = true := by decide +kernel
theorem w_tables : (allAtoms (Jvm.Cond.code x code maxLocals ret :: tables_1)).before args0 about1 = true := by
  rw [allAtoms_all]
  show words1.all (fun c => c.before args0 about1) = true
  refine all_split ?_ w_codes
  rw [← List.take_append_drop 24 words1, List.all_append, w_t1, ← List.take_append_drop 24 (words1.drop 24), List.all_append, w_t2, ← List.take_append_drop 24 ((words1.drop 24).drop 24), List.all_append, w_t3, ← List.take_append_drop 24 (((words1.drop 24).drop 24).drop 24), List.all_append, w_t4, w_t5]
  rfl
set_option maxRecDepth 65536 in
theorem w_rest : rest_1_c.before args0 about1 = true := by decide +kernel
set_option maxRecDepth 65536 in
theorem w_case : (Jvm.Cond.and given_1 narrow_1).before args0 about1 = true := by decide +kernel
set_option maxRecDepth 65536 in
theorem w_consts : constsHeld consts_1 about1 := Jvm.Lit.constsHeldB_iff.mp (by decide +kernel)
theorem w_applies : (headSpec (Jvm.Cond.code x code maxLocals ret :: tables_1) room_1).applies x e0.platform about1 = true :=
  (Spec.applies_iff w_frames).mpr ⟨w_running, w_runnable, w_alone, w_named, w_hears, w_ripe, w_room, w_tables⟩
theorem atStart : AtStart classFile x code maxLocals ret World_1 tables_1 room_1 Calls_1 rest_1 Pre_1 launch0 p0 e0 about1 theMethod args0 below0 :=
  ⟨lists_1, trivial, launch0.admits_env _ _ _, launch0.least_env, fairChoices_fair.cas, fairChoices_fair.clock, w_frames, w_args, w_heap, w_applies, ⟨w_consts, trivial⟩, w_rest, w_case⟩
end start1
theorem witness_1 : WitnessClaimed_1 := ⟨start1.p0, start1.e0, start1.about1, start1.theMethod, start1.args0, start1.below0, start1.atStart⟩
end Jvm.Pilot.@@N@@
