import JvmDerived
import JvmDerived.Pilot.@@N@@Statement
import JvmDerived.Pilot.@@N@@Code
set_option linter.unusedVariables false
set_option linter.unusedSimpArgs false
namespace Jvm.Pilot.@@N@@
open Jvm Jvm.ClassFile Sem Op Lib Jvm.Free Jvm.Stand Jvm.LawKit Jvm.RoadKit Bundle Jvm.Pilot.@@N@@.Jvm.D
section Own
variable {p : Program} {l : Launch} {e : Env} {R : Room} {s : State} {m : MethodId} {args : Array Value} {below : List Frame} {meth : Method} {c : Code} {T T' : State} {cells slots cells' slots' : Nat} {Z : State} {a0 : Array Value} {h h' : Heap} {own : String} {ws ws' : List Addr} {V : Vm → Prop}
  {EN : State → Outcome → State → List Loc → Nat → Nat → Prop} {K N : Nat} {Q : Option Value → Vm → Heap → Prop} {g g' : JFrame}
/-- sizes as numbers -/
theorem natlt {a : Addr} {n : Nat} (h : a < n) : n > a := h
theorem adne {a b : Addr} (h : @LT.lt Nat _ a b ∨ @LT.lt Nat _ b a) : a ≠ b := fun q => by
  subst q; exact h.elim (Nat.lt_irrefl _) (Nat.lt_irrefl _)
/-- what is written lies in the cells ws or in cells made since -/
def Fx (ws : List Addr) (n : Nat) (L : List Loc) : Prop := ∀ y ∈ L, y.base ∈ ws ∨ n ≤ y.base
theorem keep_of {s' : State} {L : List Loc} (q : s.sameButNew s' L K N) (F : Fx ws s.heap.size L) : Keep s.heap s'.heap ws := by
  refine ⟨q.2.1, fun x c hc hx => ?_, fun x c hc => ?_⟩
  · obtain ⟨c', h1, h2, -, h4⟩ := q.2.2.2.2.2 x c hc
    have hb := (Array.getElem?_eq_some_iff.mp hc).1
    have hsl : c'.slots = c.slots := Array.ext_getElem? fun i => h4 i fun hm => (F _ hm).elim (fun r => hx r) (fun r => absurd r (Nat.not_le.mpr hb))
    have hcc : c' = c := by rw [h2, hsl]
    rw [← hcc]; exact h1
  · obtain ⟨c', h1, h2, h3, -⟩ := q.2.2.2.2.2 x c hc
    exact ⟨c', h1, by rw [h2], by rw [h2], h3⟩
/-- where a walk stands -/
def Hs (p : Program) (l : Launch) (e : Env) (R : Room) (s : State) (m : MethodId) (args : Array Value) (below : List Frame) (meth : Method) (c : Code) (Z : State) (own : String) (ws : List Addr) (V : Vm → Prop) (T : State) (h : Heap) (cells slots : Nat) : Prop :=
  ∃ (vm0 : Vm) (k0 : Nat) (locs : List Loc), p.tables.exec = Jvm.exec ∧ Stand p l e R (s.setVm vm0) m args below meth c T locs cells slots ∧ s.Since vm0 k0 ∧ k0 ≤ h.size ∧ Z.Warmed39 vm0 ∧ vm0.findClass own = some m.cls ∧ T.heap = h ∧ Fx ws s.heap.size locs ∧ V vm0 ∧ Ext Z.heap s.heap ∧ ∀ w ∈ ws, Z.heap.size ≤ w
theorem Hs.here (H : Hs p l e R s m args below meth c Z own ws V T h cells slots) : At T m c below := by
  obtain ⟨_, _, _, _, X, _⟩ := H; exact X.here
theorem Hs.ex (H : Hs p l e R s m args below meth c Z own ws V T h cells slots) : p.tables.exec = Jvm.exec := by
  obtain ⟨_, _, _, hx, _⟩ := H; exact hx
theorem Hs.keep (H : Hs p l e R s m args below meth c Z own ws V T h cells slots) : Keep s.heap h ws := by
  obtain ⟨vm0, k0, locs, hx, X, hS, hk, hZ, ho, rfl, F, -⟩ := H
  exact keep_of (s := s.setVm vm0) (s' := T.setVm (s.setVm vm0).vm) X.same F
theorem Hs.ge (H : Hs p l e R s m args below meth c Z own ws V T h cells slots) : s.heap.size ≤ h.size := H.keep.1
theorem Hs.old (H : Hs p l e R s m args below meth c Z own ws V T h cells slots) : Ext Z.heap h := by
  have K := H.keep
  obtain ⟨vm0, k0, locs, hx, X, hS, hk, hZ, ho, eT, F, hV, O, hw⟩ := H
  refine ⟨Nat.le_trans O.1 K.1, fun a cl q => K.2.1 a cl (O.2 a cl q) fun r => ?_⟩
  exact absurd (Array.getElem?_eq_some_iff.mp q).1 (Nat.not_lt.mpr (hw a r))
theorem Hs.more (H : Hs p l e R s m args below meth c Z own ws V T h cells slots) (hc : cells ≤ cells') (hn : slots ≤ slots') : Hs p l e R s m args below meth c Z own ws V T h cells' slots' := by
  obtain ⟨vm0, k0, locs, hx, X, r⟩ := H
  exact ⟨vm0, k0, locs, hx, X.mono hc hn, r⟩
theorem Hs.weak (H : Hs p l e R s m args below meth c Z own ws V T h cells slots) (q : ∀ w ∈ ws, w ∈ ws') (r : ∀ w ∈ ws', Z.heap.size ≤ w) : Hs p l e R s m args below meth c Z own ws' V T h cells slots := by
  obtain ⟨vm0, k0, locs, hx, X, hS, hk, hZ, ho, eT, F, hV, O, hw⟩ := H
  exact ⟨vm0, k0, locs, hx, X, hS, hk, hZ, ho, eT, fun y hy => (F y hy).imp (q _) id, hV, O, r⟩
theorem Hs.reV {V' : Vm → Prop} (H : Hs p l e R s m args below meth c Z own ws V T h cells slots) (q : ∀ vm, V vm → V' vm) : Hs p l e R s m args below meth c Z own ws V' T h cells slots := by
  obtain ⟨vm0, k0, locs, hx, X, hS, hk, hZ, ho, eT, F, hV, r⟩ := H
  exact ⟨vm0, k0, locs, hx, X, hS, hk, hZ, ho, eT, F, q _ hV, r⟩
/-- a predicate on the tables that a resolution leaves -/
def Stab (V : Vm → Prop) : Prop := ∀ (s : State) (vm1 : Vm), s.WarmedH vm1 → V s.vm → V vm1
theorem Hs.vm (H : Hs p l e R s m args below meth c Z own ws V T h cells slots) (q : Stab V) : V T.vm := by
  obtain ⟨vm0, k0, locs, hx, X, hS, hk, hZ, ho, eT, F, hV, O, hw⟩ := H
  exact q _ _ X.warmed hV
/-- it runs to its end, and Q holds there -/
def Rn (p : Program) (e : Env) (below : List Frame) (s : State) (EN : State → Outcome → State → List Loc → Nat → Nat → Prop) (ws : List Addr) (K N : Nat) (Q : Option Value → Vm → Heap → Prop) (T : State) (g : JFrame) : Prop :=
  ∃ s₂ o, Steps p.tables e below (T.setTop g) s₂ ∧ s₂.status = .running ∧ Ended s₂ below o ∧ ∃ v L, o = .returned v ∧ (Q v s₂.vm s₂.heap ∧ Fx ws s.heap.size L ∧ Keep s.heap s₂.heap ws) ∧ EN s o s₂ L K N
theorem Rn.pu (r : Rn p e below s EN ws K N Q T' g') (st : ∀ t, Steps p.tables e below (T'.setTop g') t → Steps p.tables e below (T.setTop g) t) : Rn p e below s EN ws K N Q T g := by
  obtain ⟨s₂, o, h1, h2⟩ := r; exact ⟨s₂, o, st _ h1, h2⟩
/-- how a walk may end -/
def Ends (EN : State → Outcome → State → List Loc → Nat → Nat → Prop) (s : State) (V : Vm → Prop) : Prop :=
  ∀ (vm0 : Vm) (k0 : Nat) (t : State) (v : Option Value) (L : List Loc) (K N : Nat), V vm0 → s.Since vm0 k0 → k0 ≤ t.heap.size → (s.setVm vm0).WarmedH t.vm → (s.setVm vm0).sameButNew ({ t with vm := (s.setVm vm0).vm } : State) L K N → EN s (.returned v) t L K N
theorem ends_N : Ends FrameEnd s (fun v => v = s.vm) := by
  intro vm0 k0 t v L K N hv hS hk hW hs
  subst hv
  exact ⟨⟨v, rfl⟩, hW, hs⟩
theorem ends_W : Ends ReturnedEndW s V := by
  intro vm0 k0 t v L K N hv hS hk hW hs
  obtain ⟨a, b, c'⟩ := hS.ended (U := t) hW hk hs
  exact ⟨⟨v, rfl⟩, a, b, c'⟩
theorem Hs.fin (H : Hs p l e R s m args below meth c Z own ws V T h cells slots) (hE : Ends EN s V) (hlk : meth.locks = false) {v : Option Value} (hv : meth.sig.returnType = none → v = none) (hc : cells ≤ K) (hn : slots ≤ N) (hws : ∀ w ∈ ws, w ∈ ws') (hQ : Q v T.vm h)
    (st : ∀ fs, (∀ (f : JFrame) (acts : List Action), f.method = m → f.locked = none → f.entered = [] → (doReturn e (T.setTop f) acts v).1 = T.setFrames fs) → Steps p.tables e below (T.setTop g) (T.setFrames fs)) : Rn p e below s EN ws' K N Q T g := by
  have KK := H.keep
  obtain ⟨vm0, k0, locs, hx, X, hS, hk, hZ, ho, rfl, F, hV, O, hw⟩ := H
  obtain ⟨fs, hr, hrun, hended, hW, hsame⟩ := X.leave (v := v) hv hlk
  refine ⟨_, _, st fs hr, hrun, hended, v, locs, rfl, ⟨hQ, fun y hy => (F y hy).imp (hws _) id, ⟨KK.1, fun x cl q r => KK.2.1 x cl q fun z => r (hws _ z), KK.2.2⟩⟩, hE vm0 k0 _ v locs K N hV hS hk hW (hsame.mono hc hn)⟩
theorem retI {pc : Nat} {Ls : Array Slot} {z : Int32} {rest : List Value} {locs : List Loc} (X : Stand p l e R s m args below meth c T locs cells slots) (hx : p.tables.exec = Jvm.exec) (hret : meth.sig.returnType = some .int) (hd : decode c.code pc = .ok (.ireturn, 1)) {fs : List Frame}
    (hl : ∀ (f : JFrame) (acts : List Action), f.method = m → f.locked = none → f.entered = [] → (doReturn e (T.setTop f) acts (some (.int z))).1 = T.setFrames fs) : Steps p.tables e below (T.setTop (mkF m pc Ls (.int z :: rest))) (T.setFrames fs) := by
  have hm' : T.vm.method? m = some meth := X.method'
  have hn : narrow .int (.int z) = .int z := rfl
  show Steps p.tables e below (T.setTop { method := m, pc := pc, locals := Ls, stack := _ :: rest, locked := none }) _
  jvm_step X.here [X.here.top, hx, hd, hm', hret, hn]
  first | (intro acts; rw [hl _ acts rfl rfl rfl]) | rw [hl _ _ rfl rfl rfl]
  exact Steps.refl _
theorem Hs.retI (H : Hs p l e R s m args below meth c Z own ws V T h cells slots) (hE : Ends EN s V) (hlk : meth.locks = false) (hret : meth.sig.returnType = some .int) {pc : Nat} {Ls : Array Slot} {z : Int32} {rest : List Value} (hd : decode c.code pc = .ok (.ireturn, 1)) (hc : cells ≤ K) (hn : slots ≤ N) (hws : ∀ w ∈ ws, w ∈ ws') (hQ : Q (some (.int z)) T.vm h) :
    Rn p e below s EN ws' K N Q T (mkF m pc Ls (.int z :: rest)) := by
  refine H.fin hE hlk (v := some (.int z)) (fun q => by rw [hret] at q; cases q) hc hn hws hQ fun fs hr => ?_
  obtain ⟨vm0, k0, locs, hx, X, -⟩ := H
  exact Jvm.Pilot.@@N@@.retI X hx hret hd hr
theorem Hs.retS (H : Hs p l e R s m args below meth c Z own ws V T h cells slots) (hE : Ends EN s V) (hlk : meth.locks = false) {t : FieldType} (hret : meth.sig.returnType = some t) (ht : t = .boolean ∨ t = .byte ∨ t = .char ∨ t = .short) {pc : Nat} {Ls : Array Slot} {z : Int32} {rest : List Value} (hd : decode c.code pc = .ok (.ireturn, 1)) (hc : cells ≤ K) (hn : slots ≤ N) (hws : ∀ w ∈ ws, w ∈ ws') (hQ : Q (some (.int (nar t z))) T.vm h) :
    Rn p e below s EN ws' K N Q T (mkF m pc Ls (.int z :: rest)) := by
  refine H.fin hE hlk (v := some (.int (nar t z))) (fun q => by rw [hret] at q; cases q) hc hn hws hQ fun fs hr => ?_
  obtain ⟨vm0, k0, locs, hx, X, -⟩ := H
  exact RoadKit.retN X hx hret ht hd hr
theorem Hs.retA (H : Hs p l e R s m args below meth c Z own ws V T h cells slots) (hE : Ends EN s V) (hlk : meth.locks = false) {t : FieldType} (hret : meth.sig.returnType = some t) {w : Value} (hnw : narrow t w = w) (hr1 : t.isReference = true) (hr2 : w.isRef = true) {pc : Nat} {Ls : Array Slot} {rest : List Value} (hd : decode c.code pc = .ok (.areturn, 1)) (hc : cells ≤ K) (hn : slots ≤ N) (hws : ∀ w ∈ ws, w ∈ ws') (hQ : Q (some w) T.vm h) :
    Rn p e below s EN ws' K N Q T (mkF m pc Ls (w :: rest)) := by
  refine H.fin hE hlk (v := some w) (fun q => by rw [hret] at q; cases q) hc hn hws hQ fun fs hr => ?_
  obtain ⟨vm0, k0, locs, hx, X, -⟩ := H
  exact retOut X hx hret hnw (Or.inr (Or.inr (Or.inr (Or.inr ⟨rfl, hr1, hr2⟩)))) hd hr
theorem Hs.retV (H : Hs p l e R s m args below meth c Z own ws V T h cells slots) (hE : Ends EN s V) (hlk : meth.locks = false) (hret : meth.sig.returnType = none) {pc : Nat} {Ls : Array Slot} (hd : decode c.code pc = .ok (.return_, 1)) (hc : cells ≤ K) (hn : slots ≤ N) (hws : ∀ w ∈ ws, w ∈ ws') (hQ : Q none T.vm h) :
    Rn p e below s EN ws' K N Q T (mkF m pc Ls []) := by
  refine H.fin hE hlk (v := none) (fun _ => rfl) hc hn hws hQ fun fs hr => ?_
  obtain ⟨vm0, k0, locs, hx, X, -⟩ := H
  exact X.returnOut hx hret hd hr
/-! contracts -/
def MetN (l : Launch) (Z : State) (y : MethodName) (bytes : ByteArray) (maxL : Nat) (ret : Option FieldType) (wl : List Jvm.Cond) (rm : Room) (as' : Array Value) (h : Heap) (ws : List Addr) (Q : Option Value → Heap → Prop) : Prop :=
  MetFree l y (head1 (Jvm.Cond.code y bytes maxL ret :: wl) rm) (fun a U => a = as' ∧ Z.Warmed39 U.vm ∧ U.heap = h) (fun _ _ _ _ _ => True)
    (fun _ U o U' => ∃ v L, o = .returned v ∧ (Q v U'.heap ∧ Fx ws h.size L ∧ Keep h U'.heap ws) ∧ FrameEnd U o U' L rm.cells rm.slots)
def MetW (l : Launch) (Z : State) (y : MethodName) (bytes : ByteArray) (maxL : Nat) (ret : Option FieldType) (wl : List Jvm.Cond) (rm : Room) (as' : Array Value) (h : Heap) (ws : List Addr) (J : Vm → Prop) (Q : Option Value → Vm → Heap → Prop) : Prop :=
  MetFree l y (head1 (Jvm.Cond.code y bytes maxL ret :: wl) rm) (fun a U => a = as' ∧ Z.Warmed39 U.vm ∧ U.heap = h ∧ J U.vm) (fun _ _ _ _ _ => True)
    (fun _ U o U' => ∃ v L, o = .returned v ∧ (Q v U'.vm U'.heap ∧ Fx ws h.size L ∧ Keep h U'.heap ws) ∧ ReturnedEndW U o U' L rm.cells rm.slots)
variable {y : MethodName} {bytes : ByteArray} {maxL : Nat} {ret' : Option FieldType} {wl : List Jvm.Cond} {rm : Room} {as' : Array Value} {QN : Option Value → Heap → Prop} {J : Vm → Prop}
theorem MetN.mk (hx : plainFor y = true) {Ls : Array Slot} (hef : ∀ m, entryFrame m as' maxL = mkF m 0 Ls []) (O : Ext Z.heap h) 
    (body : ∀ (p : Program) (e : Env) (s : State) (m : MethodId) (below : List Frame) (meth : Method) (c : Code) (T : State), p.tables.exec = Jvm.exec → c.code = bytes → c.maxLocals = maxL → meth.sig.returnType = ret' → meth.locks = false → meth.name = y.name → s.heap = h →
      Hs p l e rm s m as' below meth c Z y.cls [] (fun v => v = s.vm) T h 0 0 → Rn p e below s FrameEnd ws rm.cells rm.slots (fun v _ h' => QN v h') T (mkF m 0 Ls [])) :
    MetN l Z y bytes maxL ret' wl rm as' h ws QN := by
  refine MetFree.of_bodySF hx hisR ?_
  intro p e s m args below meth c s₁ Bd hml0 hP hK
  obtain ⟨rfl, hZ, hh⟩ := hP
  have X0 : Stand p l e rm s m args below meth c s₁ [] 0 0 := Stand.of_body Bd
  have e0 : s₁.heap = h := by rw [← hh, Bd.state]; rfl
  obtain ⟨s₂, o, h1, h2, h3, v, L, h4, ⟨h5, h6, h7⟩, h8⟩ := body p e s m below meth c s₁ Bd.exec Bd.bytes hml0 Bd.returns Bd.notSynchronized (name_of_methodNamed Bd.named Bd.method).1 hh
    ⟨s.vm, 0, [], Bd.exec, X0, (State.WarmedH.refl s).since _, Nat.zero_le _, hZ, findClass_of_methodNamed Bd.named, e0, (fun y hy => nomatch hy), rfl, (by rw [hh]; exact O), (fun y hy => nomatch hy)⟩
  subst hh
  exact ⟨s₂, o, castTop (hef m) h1, h2, h3, v, L, h4, ⟨h5, h6, h7⟩, h8⟩
theorem MetW.mk (hx : plainFor y = true) {Ls : Array Slot} (hef : ∀ m, entryFrame m as' maxL = mkF m 0 Ls []) (O : Ext Z.heap h) 
    (body : ∀ (p : Program) (e : Env) (s : State) (m : MethodId) (below : List Frame) (meth : Method) (c : Code) (T : State), p.tables.exec = Jvm.exec → c.code = bytes → c.maxLocals = maxL → meth.sig.returnType = ret' → meth.locks = false → meth.name = y.name → s.heap = h →
      Hs p l e rm s m as' below meth c Z y.cls [] J T h 0 0 → Rn p e below s ReturnedEndW ws rm.cells rm.slots Q T (mkF m 0 Ls [])) :
    MetW l Z y bytes maxL ret' wl rm as' h ws J Q := by
  refine MetFree.of_bodySF hx hisR ?_
  intro p e s m args below meth c s₁ Bd hml0 hP hK
  obtain ⟨rfl, hZ, hh, hJ⟩ := hP
  have X0 : Stand p l e rm s m args below meth c s₁ [] 0 0 := Stand.of_body Bd
  have e0 : s₁.heap = h := by rw [← hh, Bd.state]; rfl
  obtain ⟨s₂, o, h1, h2, h3, v, L, h4, ⟨h5, h6, h7⟩, h8⟩ := body p e s m below meth c s₁ Bd.exec Bd.bytes hml0 Bd.returns Bd.notSynchronized (name_of_methodNamed Bd.named Bd.method).1 hh
    ⟨s.vm, 0, [], Bd.exec, X0, (State.WarmedH.refl s).since _, Nat.zero_le _, hZ, findClass_of_methodNamed Bd.named, e0, (fun y hy => nomatch hy), hJ, (by rw [hh]; exact O), (fun y hy => nomatch hy)⟩
  subst hh
  exact ⟨s₂, o, castTop (hef m) h1, h2, h3, v, L, h4, ⟨h5, h6, h7⟩, h8⟩
/-- who pays a call -/
def PayN (l : Launch) (R : Room) (p : Program) (e : Env) (below : List Frame) (args : Array Value) (Z : State) (y : MethodName) (W : Nat) (as' : Array Value) (h : Heap) (kc ks : Nat) (ws : List Addr) (Q : Option Value → Heap → Prop) : Prop :=
  ∀ s : State, Z.Warmed39 s.vm → Back l R p e below s args y 3 W (fun A a => a = as' ∧ A.U.heap = h ∧ A.cells + kc ≤ R.cells ∧ A.slots + ks ≤ R.slots)
    (fun A _ v B => ∃ L, (Q v B.U.heap ∧ Fx ws h.size L ∧ Keep h B.U.heap ws) ∧ B.locs = A.locs ++ L ∧ B.cells = A.cells + kc ∧ B.slots = A.slots + ks)
def PayW (l : Launch) (R : Room) (p : Program) (e : Env) (below : List Frame) (args : Array Value) (Z : State) (y : MethodName) (W : Nat) (as' : Array Value) (h : Heap) (kc ks : Nat) (ws : List Addr) (J : Vm → Prop) (Q : Option Value → Vm → Heap → Prop) : Prop :=
  ∀ s : State, Z.Warmed39 s.vm → BackS l R p e below s args y 3 W (fun A a => a = as' ∧ A.U.heap = h ∧ A.cells + kc ≤ R.cells ∧ A.slots + ks ≤ R.slots ∧ J A.U.vm)
    (fun A _ v B => ∃ L, (Q v B.U.vm B.U.heap ∧ Fx ws h.size L ∧ Keep h B.U.heap ws) ∧ B.locs = A.locs ++ L ∧ B.cells = A.cells + kc ∧ B.slots = A.slots + ks)
theorem MetN.pay {W : Nat} (M : MetN l Z y bytes maxL ret' [] rm as' h ws QN) (wc : (Jvm.Cond.code y bytes maxL ret').before a0 Z = true) (wz : (Jvm.Cond.initialized y.cls).before a0 Z = true) (hf : rm.frames + 1 ≤ R.frames) (hl : W + (maxL + 11) + rm.locals ≤ R.locals) :
    PayN l R p e below args Z y W as' h rm.cells rm.slots ws QN := fun s hZ => backOf (Q := fun v h' L => QN v h' ∧ Fx ws h.size L ∧ Keep h h' ws) M hZ wc wz hf hl
theorem MetW.pay {W : Nat} (M : MetW l Z y bytes maxL ret' [] rm as' h ws J Q) (wc : (Jvm.Cond.code y bytes maxL ret').before a0 Z = true) (wz : (Jvm.Cond.initialized y.cls).before a0 Z = true) (hf : rm.frames + 1 ≤ R.frames) (hl : W + (maxL + 11) + rm.locals ≤ R.locals) :
    PayW l R p e below args Z y W as' h rm.cells rm.slots ws J Q := fun s hZ =>
  BackS.of_freeW (bytes := bytes) (maxL := maxL) (ret := ret') (E := fun _ _ o t L k n => k = rm.cells ∧ n = rm.slots ∧ ∃ v, o = .returned v ∧ (Q v t.vm t.heap ∧ Fx ws h.size L ∧ Keep h t.heap ws)) M hf hl
    (fun m meth c A a Y hp => have hU : Z.Warmed39 A.U.vm := wtrans hZ Y.warmed
      ⟨by show (Jvm.Cond.and _ .tt).before a A.U = true; rw [Cond.before_and, mv hU wc]; rfl, mv hU wc, mv hU wz, hp.2.2.1, hp.2.2.2.1⟩)
    (fun m meth c A a g mk Y hp => ⟨hp.1, wtrans hZ Y.warmed, hp.2.1, hp.2.2.2.2⟩) (fun _ _ _ _ _ _ _ _ _ => trivial)
    (fun _ _ _ _ ⟨v, L, h1, h2, h3⟩ => ⟨L, _, _, h3, rfl, rfl, v, h1, h2⟩)
    (fun m meth c A a g mk v t L k n Y hp _ _ ⟨e1, e2, v', e3, e4⟩ => by cases e3; subst e1 e2; exact ⟨L, e4, rfl, rfl, rfl⟩)
theorem fx_app {L L' : List Loc} {n n' : Nat} (F : Fx ws n L) (F' : Fx ws' n' L') (q : ∀ w ∈ ws', w ∈ ws ∨ n ≤ w) (r : n ≤ n') : Fx ws n (L ++ L') := fun y hy =>
  (List.mem_append.mp hy).elim (F y) fun z => (F' y z).elim (q _) fun u => Or.inr (Nat.le_trans r u)
/-- invokestatic, by its contract -/
theorem Hs.callS (H : Hs p l e R s m args below meth c Z own ws V T h cells slots) {index : Nat} (w1 : (Jvm.Cond.methodLink own index y).before a0 Z = true) (w2 : (Jvm.Cond.static y).before a0 Z = true) (w3 : (Jvm.Cond.initialized y.cls).before a0 Z = true) (w4 : (Jvm.Cond.code y bytes maxL ret').before a0 Z = true)
    (hy : y.cls ≠ "java/lang/invoke/MethodHandle" ∧ y.cls ≠ "java/lang/invoke/VarHandle") {W kc ks : Nat} (P : PayN l R p e below args Z y W as' h kc ks ws' QN) (hg : g.method = m) (hsize : g.locals.size = c.maxLocals) {argsL rest : List Value} (hlen : ∀ sig, parseMethodDescriptor y.desc = some sig → argsL.length = sig.parameters.length)
    (hst : g.stack = argsL.reverse ++ rest) (ha : argsL.toArray = as') (hW : 2 * g.monitorRoom + (rest.map fun v => v.category).sum ≤ W) (hd : decode c.code g.pc = .ok (.invokestatic index, 3)) (hc : cells + kc ≤ R.cells) (hl : slots + ks ≤ R.slots) (hws : ∀ w ∈ ws', w ∈ ws ∨ s.heap.size ≤ w) :
    ∃ v T' h', Hs p l e R s m args below meth c Z own ws V T' h' (cells + kc) (slots + ks) ∧ QN v h' ∧ Keep h h' ws' ∧ ∀ t, Steps p.tables e below (T'.setTop { g with pc := g.pc + 3, stack := v.toList ++ rest }) t → Steps p.tables e below (T.setTop g) t := by
  have ge := H.ge
  obtain ⟨vm0, k0, locs, hx, X, hS, hk, hZ, ho, eT, F, hV, O, hw⟩ := H
  obtain ⟨v, vm1, ⟨U, L', c', s'⟩, hW1, X', ⟨L, ⟨q1, q2, q3⟩, rfl, rfl, rfl⟩, st⟩ := Jvm.LawKit.callS X hx ho (mvT (s := s.setVm vm0) hZ w1) (mvT (s := s.setVm vm0) hZ w2) (mvT (s := s.setVm vm0) hZ w3) (mvT (s := s.setVm vm0) hZ w4) hy (P (s.setVm vm0) hZ) hg hsize hlen hst hW hd (fun _ _ => ⟨ha, eT, hc, hl⟩)
  exact ⟨v, U, U.heap, ⟨vm0, k0, _, hx, X', hS, Nat.le_trans hk q3.1, hZ, ho, rfl, fx_app F q2 hws ge, hV, O, hw⟩, q1, q3, st⟩
theorem Hs.callSW (H : Hs p l e R s m args below meth c Z own ws V T h cells slots) {index : Nat} (w1 : (Jvm.Cond.methodLink own index y).before a0 Z = true) (w2 : (Jvm.Cond.static y).before a0 Z = true) (w3 : (Jvm.Cond.initialized y.cls).before a0 Z = true) (w4 : (Jvm.Cond.code y bytes maxL ret').before a0 Z = true)
    (hy : y.cls ≠ "java/lang/invoke/MethodHandle" ∧ y.cls ≠ "java/lang/invoke/VarHandle") {W kc ks : Nat} (P : PayW l R p e below args Z y W as' h kc ks ws' J Q) (hg : g.method = m) (hsize : g.locals.size = c.maxLocals) {argsL rest : List Value} (hlen : ∀ sig, parseMethodDescriptor y.desc = some sig → argsL.length = sig.parameters.length)
    (hst : g.stack = argsL.reverse ++ rest) (ha : argsL.toArray = as') (hW : 2 * g.monitorRoom + (rest.map fun v => v.category).sum ≤ W) (hd : decode c.code g.pc = .ok (.invokestatic index, 3)) (hc : cells + kc ≤ R.cells) (hl : slots + ks ≤ R.slots) (hws : ∀ w ∈ ws', w ∈ ws ∨ s.heap.size ≤ w)
    (hJ : ∀ (U : State) (vm1 : Vm), V U.vm → U.WarmedH vm1 → J vm1) :
    ∃ v T' h', Hs p l e R s m args below meth c Z own ws (fun v => v = T'.vm) T' h' (cells + kc) (slots + ks) ∧ Q v T'.vm h' ∧ Keep h h' ws' ∧ ∀ t, Steps p.tables e below (T'.setTop { g with pc := g.pc + 3, stack := v.toList ++ rest }) t → Steps p.tables e below (T.setTop g) t := by
  have ge := H.ge
  obtain ⟨vm0, k0, locs, hx, X, hS, hk, hZ, ho, eT, F, hV, O, hw⟩ := H
  obtain ⟨v, vm1, ⟨U, L', c', s'⟩, hW1, X', hS', hgr, ⟨L, ⟨q1, q2, q3⟩, rfl, rfl, rfl⟩, st⟩ := callSS X hx ho (mvT (s := s.setVm vm0) hZ w1) (mvT (s := s.setVm vm0) hZ w2) (mvT (s := s.setVm vm0) hZ w3) (mvT (s := s.setVm vm0) hZ w4) hy (P (s.setVm vm0) hZ) hg hsize hlen hst hW hd (fun vm1 hw1 => ⟨ha, eT, hc, hl, hJ _ _ hV hw1⟩)
  obtain ⟨r1, r2, r3, r4⟩ := rebS hS (by rw [← eT] at hk; exact hk) X' hS' hgr hZ ho
  exact ⟨v, U, U.heap, ⟨U.vm, _, _, hx, r1, r2, Nat.le_refl _, r3, r4, rfl, fx_app F q2 hws ge, rfl, O, hw⟩, q1, q3, fun t k => st.trans k⟩
/-- invokevirtual, by its contract -/
theorem Hs.callV (H : Hs p l e R s m args below meth c Z own ws V T h cells slots) {index : Nat} {C : String} (w1 : (Jvm.Cond.methodLink own index y).before a0 Z = true) (w2 : (Jvm.Cond.declares y).before a0 Z = true) (w3 : (Jvm.Cond.selects C y y).before a0 Z = true) (w4 : (Jvm.Cond.instanceMethod y).before a0 Z = true)
    (hy : y.cls ≠ "java/lang/invoke/MethodHandle" ∧ y.cls ≠ "java/lang/invoke/VarHandle") {W kc ks : Nat} (P : PayN l R p e below args Z y W as' h kc ks ws' QN) {b : Addr} (E : Exa Z h b C) (hg : g.method = m) (hsize : g.locals.size = c.maxLocals) {argsL rest : List Value} (hlen : ∀ sig, parseMethodDescriptor y.desc = some sig → argsL.length = sig.parameters.length)
    (hst : g.stack = argsL.reverse ++ .ref b :: rest) (ha : (Value.ref b :: argsL).toArray = as') (hW : 2 * g.monitorRoom + (rest.map fun v => v.category).sum ≤ W) (hd : decode c.code g.pc = .ok (.invokevirtual index, 3)) (hc : cells + kc ≤ R.cells) (hl : slots + ks ≤ R.slots) (hws : ∀ w ∈ ws', w ∈ ws ∨ s.heap.size ≤ w) :
    ∃ v T' h', Hs p l e R s m args below meth c Z own ws V T' h' (cells + kc) (slots + ks) ∧ QN v h' ∧ Keep h h' ws' ∧ ∀ t, Steps p.tables e below (T'.setTop { g with pc := g.pc + 3, stack := v.toList ++ rest }) t → Steps p.tables e below (T.setTop g) t := by
  have ge := H.ge
  obtain ⟨vm0, k0, locs, hx, X, hS, hk, hZ, ho, eT, F, hV, O, hw⟩ := H
  obtain ⟨cB, kB, i1, i2, i3⟩ := isOf (s := s.setVm vm0) hZ eT E
  obtain ⟨v, vm1, ⟨U, L', c', s'⟩, hW1, X', ⟨L, ⟨q1, q2, q3⟩, rfl, rfl, rfl⟩, st⟩ := X.virtualBack hx ho (mvT (s := s.setVm vm0) hZ w1) (mvT (s := s.setVm vm0) hZ w2) (notFace_of_selects (args := #[]) (mvT (s := s.setVm vm0) hZ w3)) (mvT (s := s.setVm vm0) hZ w3) (mvT (s := s.setVm vm0) hZ w4) hy (P (s.setVm vm0) hZ) i1 i3 hg hsize (Steps.refl _) hlen hst hW hd (fun _ _ => ⟨ha, eT, hc, hl⟩)
  exact ⟨v, U, U.heap, ⟨vm0, k0, _, hx, X', hS, Nat.le_trans hk q3.1, hZ, ho, rfl, fx_app F q2 hws ge, hV, O, hw⟩, q1, q3, fun t k => st.trans k⟩
theorem Hs.callVW (H : Hs p l e R s m args below meth c Z own ws V T h cells slots) {index : Nat} {C : String} (w1 : (Jvm.Cond.methodLink own index y).before a0 Z = true) (w2 : (Jvm.Cond.declares y).before a0 Z = true) (w3 : (Jvm.Cond.selects C y y).before a0 Z = true) (w4 : (Jvm.Cond.instanceMethod y).before a0 Z = true)
    (hy : y.cls ≠ "java/lang/invoke/MethodHandle" ∧ y.cls ≠ "java/lang/invoke/VarHandle") {W kc ks : Nat} (P : PayW l R p e below args Z y W as' h kc ks ws' J Q) {b : Addr} (E : Exa Z h b C) (hg : g.method = m) (hsize : g.locals.size = c.maxLocals) {argsL rest : List Value} (hlen : ∀ sig, parseMethodDescriptor y.desc = some sig → argsL.length = sig.parameters.length)
    (hst : g.stack = argsL.reverse ++ .ref b :: rest) (ha : (Value.ref b :: argsL).toArray = as') (hW : 2 * g.monitorRoom + (rest.map fun v => v.category).sum ≤ W) (hd : decode c.code g.pc = .ok (.invokevirtual index, 3)) (hc : cells + kc ≤ R.cells) (hl : slots + ks ≤ R.slots) (hws : ∀ w ∈ ws', w ∈ ws ∨ s.heap.size ≤ w)
    (hJ : ∀ (U : State) (vm1 : Vm), V U.vm → U.WarmedH vm1 → J vm1) :
    ∃ v T' h', Hs p l e R s m args below meth c Z own ws (fun v => v = T'.vm) T' h' (cells + kc) (slots + ks) ∧ Q v T'.vm h' ∧ Keep h h' ws' ∧ ∀ t, Steps p.tables e below (T'.setTop { g with pc := g.pc + 3, stack := v.toList ++ rest }) t → Steps p.tables e below (T.setTop g) t := by
  have ge := H.ge
  obtain ⟨vm0, k0, locs, hx, X, hS, hk, hZ, ho, eT, F, hV, O, hw⟩ := H
  obtain ⟨cB, kB, i1, i2, i3⟩ := isOf (s := s.setVm vm0) hZ eT E
  obtain ⟨v, vm1, ⟨U, L', c', s'⟩, hW1, X', hS', hgr, ⟨L, ⟨q1, q2, q3⟩, rfl, rfl, rfl⟩, st⟩ := X.virtualBackS hx ho (mvT (s := s.setVm vm0) hZ w1) (mvT (s := s.setVm vm0) hZ w2) (notFace_of_selects (args := #[]) (mvT (s := s.setVm vm0) hZ w3)) (mvT (s := s.setVm vm0) hZ w3) (mvT (s := s.setVm vm0) hZ w4) hy (P (s.setVm vm0) hZ) i1 i3 hg hsize (Steps.refl _) hlen hst hW hd (fun vm1 hw1 => ⟨ha, eT, hc, hl, hJ _ _ hV hw1⟩)
  obtain ⟨r1, r2, r3, r4⟩ := rebS hS (by rw [← eT] at hk; exact hk) X' hS' hgr hZ ho
  exact ⟨v, U, U.heap, ⟨U.vm, _, _, hx, r1, r2, Nat.le_refl _, r3, r4, rfl, fx_app F q2 hws ge, rfl, O, hw⟩, q1, q3, fun t k => st.trans k⟩
/-- a constructor, by its contract -/
theorem Hs.callI (H : Hs p l e R s m args below meth c Z own ws V T h cells slots) {index : Nat} (hy1 : y.name = "<init>") (w1 : (Jvm.Cond.methodLink own index y).before a0 Z = true) (w2 : (Jvm.Cond.instanceMethod y).before a0 Z = true) (w3 : (Jvm.Cond.code y bytes maxL none).before a0 Z = true)
    (hy : y.cls ≠ "java/lang/invoke/MethodHandle" ∧ y.cls ≠ "java/lang/invoke/VarHandle") {W kc ks : Nat} (P : PayN l R p e below args Z y W as' h kc ks ws' QN) (hg : g.method = m) (hsize : g.locals.size = c.maxLocals) {b : Addr} {argsL rest : List Value} (hlen : ∀ sig, parseMethodDescriptor y.desc = some sig → argsL.length = sig.parameters.length)
    (hst : g.stack = argsL.reverse ++ .ref b :: rest) (ha : (Value.ref b :: argsL).toArray = as') (hW : 2 * g.monitorRoom + (rest.map fun v => v.category).sum ≤ W) (hd : decode c.code g.pc = .ok (.invokespecial index, 3)) (hc : cells + kc ≤ R.cells) (hl : slots + ks ≤ R.slots) (hws : ∀ w ∈ ws', w ∈ ws ∨ s.heap.size ≤ w) :
    ∃ v T' h', Hs p l e R s m args below meth c Z own ws V T' h' (cells + kc) (slots + ks) ∧ QN v h' ∧ Keep h h' ws' ∧ ∀ t, Steps p.tables e below (T'.setTop { g with pc := g.pc + 3, stack := v.toList ++ rest }) t → Steps p.tables e below (T.setTop g) t := by
  have ge := H.ge
  obtain ⟨vm0, k0, locs, hx, X, hS, hk, hZ, ho, eT, F, hV, O, hw⟩ := H
  obtain ⟨v, vm1, ⟨U, L', c', s'⟩, hW1, X', ⟨L, ⟨q1, q2, q3⟩, rfl, rfl, rfl⟩, st⟩ := X.specialBack hx hy1 ho (mvT (s := s.setVm vm0) hZ w1) (mvT (s := s.setVm vm0) hZ w2) (mvT (s := s.setVm vm0) hZ w3) hy (P (s.setVm vm0) hZ) hg hsize (Steps.refl _) hlen hst hW hd (fun _ _ => ⟨ha, eT, hc, hl⟩)
  exact ⟨v, U, U.heap, ⟨vm0, k0, _, hx, X', hS, Nat.le_trans hk q3.1, hZ, ho, rfl, fx_app F q2 hws ge, hV, O, hw⟩, q1, q3, fun t k => st.trans k⟩
theorem Hs.callIW (H : Hs p l e R s m args below meth c Z own ws V T h cells slots) {index : Nat} (hy1 : y.name = "<init>") (w1 : (Jvm.Cond.methodLink own index y).before a0 Z = true) (w2 : (Jvm.Cond.instanceMethod y).before a0 Z = true) (w3 : (Jvm.Cond.code y bytes maxL none).before a0 Z = true)
    (hy : y.cls ≠ "java/lang/invoke/MethodHandle" ∧ y.cls ≠ "java/lang/invoke/VarHandle") {W kc ks : Nat} (P : PayW l R p e below args Z y W as' h kc ks ws' J Q) (hg : g.method = m) (hsize : g.locals.size = c.maxLocals) {b : Addr} {argsL rest : List Value} (hlen : ∀ sig, parseMethodDescriptor y.desc = some sig → argsL.length = sig.parameters.length)
    (hst : g.stack = argsL.reverse ++ .ref b :: rest) (ha : (Value.ref b :: argsL).toArray = as') (hW : 2 * g.monitorRoom + (rest.map fun v => v.category).sum ≤ W) (hd : decode c.code g.pc = .ok (.invokespecial index, 3)) (hc : cells + kc ≤ R.cells) (hl : slots + ks ≤ R.slots) (hws : ∀ w ∈ ws', w ∈ ws ∨ s.heap.size ≤ w)
    (hJ : ∀ (U : State) (vm1 : Vm), V U.vm → U.WarmedH vm1 → J vm1) :
    ∃ v T' h', Hs p l e R s m args below meth c Z own ws (fun v => v = T'.vm) T' h' (cells + kc) (slots + ks) ∧ Q v T'.vm h' ∧ Keep h h' ws' ∧ ∀ t, Steps p.tables e below (T'.setTop { g with pc := g.pc + 3, stack := v.toList ++ rest }) t → Steps p.tables e below (T.setTop g) t := by
  have ge := H.ge
  obtain ⟨vm0, k0, locs, hx, X, hS, hk, hZ, ho, eT, F, hV, O, hw⟩ := H
  obtain ⟨v, vm1, ⟨U, L', c', s'⟩, hW1, X', hS', hgr, ⟨L, ⟨q1, q2, q3⟩, rfl, rfl, rfl⟩, st⟩ := X.specialBackS hx hy1 ho (mvT (s := s.setVm vm0) hZ w1) (mvT (s := s.setVm vm0) hZ w2) (mvT (s := s.setVm vm0) hZ w3) hy (P (s.setVm vm0) hZ) hg hsize (Steps.refl _) hlen hst hW hd (fun vm1 hw1 => ⟨ha, eT, hc, hl, hJ _ _ hV hw1⟩)
  obtain ⟨r1, r2, r3, r4⟩ := rebS hS (by rw [← eT] at hk; exact hk) X' hS' hgr hZ ho
  exact ⟨v, U, U.heap, ⟨U.vm, _, _, hx, r1, r2, Nat.le_refl _, r3, r4, rfl, fx_app F q2 hws ge, rfl, O, hw⟩, q1, q3, fun t k => st.trans k⟩
/-- a payer that books no more than kc cells and ks slots -/
def PayM (l : Launch) (R : Room) (p : Program) (e : Env) (below : List Frame) (args : Array Value) (Z : State) (y : MethodName) (W : Nat) (as' : Array Value) (h : Heap) (kc ks : Nat) (ws : List Addr) (Q : Option Value → Heap → Prop) : Prop :=
  ∃ kc' ks', kc' ≤ kc ∧ ks' ≤ ks ∧ PayN l R p e below args Z y W as' h kc' ks' ws Q
theorem Hs.callIm (H : Hs p l e R s m args below meth c Z own ws V T h cells slots) {index : Nat} (hy1 : y.name = "<init>") (w1 : (Jvm.Cond.methodLink own index y).before a0 Z = true) (w2 : (Jvm.Cond.instanceMethod y).before a0 Z = true) (w3 : (Jvm.Cond.code y bytes maxL none).before a0 Z = true)
    (hy : y.cls ≠ "java/lang/invoke/MethodHandle" ∧ y.cls ≠ "java/lang/invoke/VarHandle") {W kc ks : Nat} (P : PayM l R p e below args Z y W as' h kc ks ws' QN) (hg : g.method = m) (hsize : g.locals.size = c.maxLocals) {b : Addr} {argsL rest : List Value} (hlen : ∀ sig, parseMethodDescriptor y.desc = some sig → argsL.length = sig.parameters.length)
    (hst : g.stack = argsL.reverse ++ .ref b :: rest) (ha : (Value.ref b :: argsL).toArray = as') (hW : 2 * g.monitorRoom + (rest.map fun v => v.category).sum ≤ W) (hd : decode c.code g.pc = .ok (.invokespecial index, 3)) (hc : cells + kc ≤ R.cells) (hl : slots + ks ≤ R.slots) (hws : ∀ w ∈ ws', w ∈ ws ∨ s.heap.size ≤ w) :
    ∃ v T' h', Hs p l e R s m args below meth c Z own ws V T' h' (cells + kc) (slots + ks) ∧ QN v h' ∧ Keep h h' ws' ∧ ∀ t, Steps p.tables e below (T'.setTop { g with pc := g.pc + 3, stack := v.toList ++ rest }) t → Steps p.tables e below (T.setTop g) t := by
  obtain ⟨kc', ks', q1, q2, P'⟩ := P
  obtain ⟨v, T', h', H', r⟩ := H.callI hy1 w1 w2 w3 hy P' hg hsize hlen hst ha hW hd (by omega) (by omega) hws
  exact ⟨v, T', h', H'.more (by omega) (by omega), r⟩
/-! heap steps -/
theorem ext_keep (E : Ext h h') : Keep h h' [] := (Keep.refl h []).ext E
theorem Hs.newO (H : Hs p l e R s m args below meth c Z own ws V T h cells slots) {C : String} {index n : Nat} (w : (Jvm.Cond.classLink own index C).before a0 Z = true) (wi : (Jvm.Cond.instantiable C n).before a0 Z = true) (wz : (Jvm.Cond.initialized C).before a0 Z = true) (hg : g.method = m) (hd : decode c.code g.pc = .ok (.new index, 3)) (hc : cells + 1 ≤ R.cells) (hl : slots + n ≤ R.slots) :
    ∃ (a : Addr) (T' : State) (h' : Heap), @Eq Nat a h.size ∧ Hs p l e R s m args below meth c Z own ws V T' h' (cells + 1) (slots + n) ∧ Keep h h' [] ∧ Exa Z h' a C ∧ (∀ {O nm d : String} {ty : FieldType}, Laid Z a0 C O nm d → parseFieldDescriptor d = some ty → Fld Z h' a O nm d (defaultValue ty)) ∧
      ∀ t, Steps p.tables e below (T'.setTop { g with pc := g.pc + 3, stack := .ref a :: g.stack }) t → Steps p.tables e below (T.setTop g) t := by
  obtain ⟨vm0, k0, locs, hx, X, hS, hk, hZ, ho, eT, r⟩ := H
  obtain ⟨T', h', X', e', E, A, D, -, st⟩ := RoadKit.newO X hx (s := s.setVm vm0) hZ ho w wi wz eT hg hd hc hl
  exact ⟨_, T', h', rfl, ⟨vm0, k0, locs, hx, X', hS, Nat.le_trans hk E.1, hZ, ho, e', r⟩, ext_keep E, A, D, st⟩
theorem Hs.newP (H : Hs p l e R s m args below meth c Z own ws V T h cells slots) {aty : ArrayType} (w : (Jvm.Cond.arrayClass (newarray.typeOf aty)).before a0 Z = true) (hg : g.method = m) (hd : decode c.code g.pc = .ok (.newarray aty, 2)) {n : Int32} {rest : List Value} (hs : g.stack = .int n :: rest) (hn : ¬ n < 0) {cap : Nat} (hcap : n.toNatClampNeg ≤ cap) (hb : cap * 8 ≤ 536870912) (hc : cells + 1 ≤ R.cells) (hl : slots + cap ≤ R.slots) :
    ∃ (a : Addr) (kA : ClassId) (T' : State) (h' : Heap), @Eq Nat a h.size ∧ Hs p l e R s m args below meth c Z own ws V T' h' (cells + 1) (slots + cap) ∧ Keep h h' [] ∧ Arv Z h' a kA (newarray.typeOf aty) n [] (defaultValue (newarray.typeOf aty)) ∧
      ∀ t, Steps p.tables e below (T'.setTop { g with pc := g.pc + 2, stack := .ref a :: rest }) t → Steps p.tables e below (T.setTop g) t := by
  obtain ⟨vm0, k0, locs, hx, X, hS, hk, hZ, ho, eT, r⟩ := H
  obtain ⟨T', h', cA, X', e', E, A, st⟩ := RoadKit.newP X hx (s := s.setVm vm0) hZ w eT hg hd hs hn hcap hb hc hl
  exact ⟨_, cA, T', h', rfl, ⟨vm0, k0, locs, hx, X', hS, Nat.le_trans hk E.1, hZ, ho, e', r⟩, ext_keep E, Arv.new A hn, st⟩
theorem arv_snoc {a : Addr} {kA : ClassId} {ty : FieldType} {z j : Int32} {vs : List Value} {dv v : Value} (F : Arv Z h a kA ty z vs dv) (hi : j.toNatClampNeg = vs.length) (hv : fits ty v = true) (W : Wr h h' a j.toNatClampNeg v) : Arv Z h' a kA ty z (vs ++ [v]) dv := by
  have F2 : Arv Z h a kA ty z (vs ++ [dv]) dv := F.pad (pad_rep vs dv 1)
  obtain ⟨cl, A, q1, S, q3, HH, G⟩ := F2
  have := Arv.set A q1 S q3 HH G hv W vs.length hi (by simp)
  simpa using this
/-- castore at the next place -/
theorem Hs.stC (H : Hs p l e R s m args below meth c Z own ws V T h cells slots) {a : Addr} {kA : ClassId} {z j x : Int32} {vs : List Value} {dv : Value} (F : Arv Z h a kA .char z vs dv) (hj : ¬ j < 0 ∧ j < z) (hi : j.toNatClampNeg = vs.length) (ga : a ∈ ws ∨ s.heap.size ≤ a) (hg : g.method = m) {rest : List Value} (hs : g.stack = .int x :: .int j :: .ref a :: rest) (hd : decode c.code g.pc = .ok (.castore, 1)) :
    ∃ (T' : State) (h' : Heap), Hs p l e R s m args below meth c Z own ws V T' h' cells slots ∧ Keep h h' [a] ∧ Arv Z h' a kA .char z (vs ++ [.int (nar .char x)]) dv ∧
      ∀ t, Steps p.tables e below (T'.setTop { g with pc := g.pc + 1, stack := rest }) t → Steps p.tables e below (T.setTop g) t := by
  obtain ⟨vm0, k0, locs, hx, X, hS, hk, hZ, ho, eT, F0, r⟩ := H
  have FF := F
  obtain ⟨cl, A, q1, S, q3, HH, G⟩ := F
  obtain ⟨T', h', X', e', W, st⟩ := RoadKit.stC X hx (s := s.setVm vm0) hZ eT A (inb_of S hj) hg hs hd
  exact ⟨T', h', ⟨vm0, k0, _, hx, X', hS, by rw [W.size]; exact hk, hZ, ho, e', fun y hy => (List.mem_append.mp hy).elim (F0 y) (fun q => by cases List.mem_singleton.mp q; exact ga), r⟩, Keep.of_wr W, arv_snoc FF hi (fits_nar_char _) W, st⟩
/-- castore at a known place -/
theorem Hs.stCi (H : Hs p l e R s m args below meth c Z own ws V T h cells slots) {a : Addr} {kA : ClassId} {z j x : Int32} {vs : List Value} {dv : Value} (F : Arv Z h a kA .char z vs dv) (hj : ¬ j < 0 ∧ j < z) {i : Nat} (hi : j.toNatClampNeg = i) (hl : i < vs.length) (ga : a ∈ ws ∨ s.heap.size ≤ a) (hg : g.method = m) {rest : List Value} (hs : g.stack = .int x :: .int j :: .ref a :: rest) (hd : decode c.code g.pc = .ok (.castore, 1)) :
    ∃ (T' : State) (h' : Heap), Hs p l e R s m args below meth c Z own ws V T' h' cells slots ∧ Keep h h' [a] ∧ Arv Z h' a kA .char z (vs.set i (.int (nar .char x))) dv ∧
      ∀ t, Steps p.tables e below (T'.setTop { g with pc := g.pc + 1, stack := rest }) t → Steps p.tables e below (T.setTop g) t := by
  obtain ⟨vm0, k0, locs, hx, X, hS, hk, hZ, ho, eT, F0, r⟩ := H
  obtain ⟨cl, A, q1, S, q3, HH, G⟩ := F
  obtain ⟨T', h', X', e', W, st⟩ := RoadKit.stC X hx (s := s.setVm vm0) hZ eT A (inb_of S hj) hg hs hd
  exact ⟨T', h', ⟨vm0, k0, _, hx, X', hS, by rw [W.size]; exact hk, hZ, ho, e', fun y hy => (List.mem_append.mp hy).elim (F0 y) (fun q => by cases List.mem_singleton.mp q; exact ga), r⟩, Keep.of_wr W, Arv.set A q1 S q3 HH G (fits_nar_char _) W i hi hl, st⟩
/-- bastore at the next place -/
theorem Hs.stB (H : Hs p l e R s m args below meth c Z own ws V T h cells slots) {a : Addr} {kA : ClassId} {z j x : Int32} {vs : List Value} {dv : Value} (F : Arv Z h a kA .byte z vs dv) (hj : ¬ j < 0 ∧ j < z) (hi : j.toNatClampNeg = vs.length) (ga : a ∈ ws ∨ s.heap.size ≤ a) (hg : g.method = m) {rest : List Value} (hs : g.stack = .int x :: .int j :: .ref a :: rest) (hd : decode c.code g.pc = .ok (.bastore, 1)) :
    ∃ (T' : State) (h' : Heap), Hs p l e R s m args below meth c Z own ws V T' h' cells slots ∧ Keep h h' [a] ∧ Arv Z h' a kA .byte z (vs ++ [.int (nar .byte x)]) dv ∧
      ∀ t, Steps p.tables e below (T'.setTop { g with pc := g.pc + 1, stack := rest }) t → Steps p.tables e below (T.setTop g) t := by
  obtain ⟨vm0, k0, locs, hx, X, hS, hk, hZ, ho, eT, F0, r⟩ := H
  have FF := F
  obtain ⟨cl, A, q1, S, q3, HH, G⟩ := F
  obtain ⟨T', h', X', e', W, st⟩ := RoadKit.stB X hx (s := s.setVm vm0) hZ eT A (inb_of S hj) hg hs hd
  exact ⟨T', h', ⟨vm0, k0, _, hx, X', hS, by rw [W.size]; exact hk, hZ, ho, e', fun y hy => (List.mem_append.mp hy).elim (F0 y) (fun q => by cases List.mem_singleton.mp q; exact ga), r⟩, Keep.of_wr W, arv_snoc FF hi (fits_nar_byte _) W, st⟩
theorem Hs.getF (H : Hs p l e R s m args below meth c Z own ws V T h cells slots) {R0 O n d host : String} {index : Nat} (w : (Jvm.Cond.fieldLink own index R0 n d).before a0 Z = true ∨ (Jvm.Cond.fieldLinkNest own index R0 n d host).before a0 Z = true) (via : Via Z R0 O n d)
    {a : Addr} {v : Value} (F : Fld Z h a O n d v) (hg : g.method = m) {rest : List Value} (hs : g.stack = .ref a :: rest) (hd : decode c.code g.pc = .ok (.getfield index, 3)) :
    ∃ T', Hs p l e R s m args below meth c Z own ws V T' h cells slots ∧ ∀ t, Steps p.tables e below (T'.setTop { g with pc := g.pc + 3, stack := v :: rest }) t → Steps p.tables e below (T.setTop g) t := by
  obtain ⟨vm0, k0, locs, hx, X, hS, hk, hZ, ho, eT, r⟩ := H
  obtain ⟨T', X', e', st⟩ := RoadKit.getF X hx (s := s.setVm vm0) hZ ho w via eT F hg hs hd
  exact ⟨T', ⟨vm0, k0, locs, hx, X', hS, hk, hZ, ho, e', r⟩, st⟩
theorem Hs.getS (H : Hs p l e R s m args below meth c Z own ws V T h cells slots) {R0 O n d host : String} {index : Nat} (w : (Jvm.Cond.fieldLink own index R0 n d).before a0 Z = true ∨ (Jvm.Cond.fieldLinkNest own index R0 n d host).before a0 Z = true) (via : Via Z R0 O n d)
    {v : Value} (F : Sta Z h O n d v) (hg : g.method = m) (hd : decode c.code g.pc = .ok (.getstatic index, 3)) :
    ∃ T', Hs p l e R s m args below meth c Z own ws V T' h cells slots ∧ ∀ t, Steps p.tables e below (T'.setTop { g with pc := g.pc + 3, stack := v :: g.stack }) t → Steps p.tables e below (T.setTop g) t := by
  obtain ⟨vm0, k0, locs, hx, X, hS, hk, hZ, ho, eT, r⟩ := H
  obtain ⟨T', X', e', st⟩ := RoadKit.getS2 X hx (s := s.setVm vm0) hZ ho w via eT F hg hd
  exact ⟨T', ⟨vm0, k0, locs, hx, X', hS, hk, hZ, ho, e', r⟩, st⟩
theorem Hs.putF (H : Hs p l e R s m args below meth c Z own ws V T h cells slots) {R0 O n d host C : String} {index kk : Nat} {ty : FieldType} (w : (Jvm.Cond.fieldLink own index R0 n d).before a0 Z = true ∨ (Jvm.Cond.fieldLinkNest own index R0 n d host).before a0 Z = true) (via : Via Z R0 O n d)
    {a : Addr} {v old : Value} (F : Fld Z h a O n d old) (E : Exa Z h a C) (L : (Jvm.Cond.lays C O n d).before a0 Z = true ∨ ((Jvm.Cond.laysFinal C O n d).before a0 Z = true ∧ own = O ∧ meth.name = "<init>")) (wi : (Jvm.Cond.instantiable C kk).before a0 Z = true)
    (hty : parseFieldDescriptor d = some ty) (hn : narrow ty v = v) (hf : fits ty v = true) (ga : a ∈ ws ∨ s.heap.size ≤ a) (hg : g.method = m) {rest : List Value} (hs : g.stack = v :: .ref a :: rest) (hd : decode c.code g.pc = .ok (.putfield index, 3)) :
    ∃ (T' : State) (h' : Heap), Hs p l e R s m args below meth c Z own ws V T' h' cells slots ∧ Keep h h' [a] ∧ Wr h h' a (RoadKit.slotOf Z O n d) v ∧ ∀ t, Steps p.tables e below (T'.setTop { g with pc := g.pc + 3, stack := rest }) t → Steps p.tables e below (T.setTop g) t := by
  obtain ⟨vm0, k0, locs, hx, X, hS, hk, hZ, ho, eT, F0, r⟩ := H
  obtain ⟨T', h', X', e', W, st⟩ := RoadKit.putF X hx (s := s.setVm vm0) hZ ho w via eT F E L wi hty hn hf hg hs hd
  exact ⟨T', h', ⟨vm0, k0, _, hx, X', hS, by rw [W.size]; exact hk, hZ, ho, e', fun y hy => (List.mem_append.mp hy).elim (F0 y) (fun q => by cases List.mem_singleton.mp q; exact ga), r⟩, Keep.of_wr W, W, st⟩
theorem Hs.initO (H : Hs p l e R s m args below meth c Z own ws V T h cells slots) {idx : Nat} (w1 : (Jvm.Cond.methodLink own idx Lib.objectInit).before a0 Z = true) (w2 : (Jvm.Cond.instanceMethod Lib.objectInit).before a0 Z = true) (w3 : (Jvm.Cond.code Lib.objectInit ⟨#[0xb1]⟩ 1 none).before a0 Z = true)
    (hg : g.method = m) (hsize : g.locals.size = c.maxLocals) {a : Addr} {rest : List Value} (hs : g.stack = .ref a :: rest) (hd : decode c.code g.pc = .ok (.invokespecial idx, 3)) (hf : 1 ≤ R.frames) {W : Nat} (hW : 2 * g.monitorRoom + (rest.map fun v => v.category).sum ≤ W) (hl : W + 12 ≤ R.locals) :
    ∃ T', Hs p l e R s m args below meth c Z own ws V T' h cells slots ∧ ∀ t, Steps p.tables e below (T'.setTop { g with pc := g.pc + 3, stack := rest }) t → Steps p.tables e below (T.setTop g) t := by
  obtain ⟨vm0, k0, locs, hx, X, hS, hk, hZ, ho, eT, r⟩ := H
  obtain ⟨T', X', e', st⟩ := RoadKit.initO X hx (s := s.setVm vm0) hZ ho w1 w2 w3 eT hg hsize hs hd hf hW hl
  exact ⟨T', ⟨vm0, k0, locs, hx, X', hS, hk, hZ, ho, e', r⟩, st⟩
/-- ldc of a String whose text isn't asked -/
theorem Hs.ldcS (H : Hs p l e R s m args below meth c Z own ws (fun _ => True) T h cells slots) {text : String} {index : Nat} (w : (Jvm.Cond.stringLink own index text).before a0 Z = true) (wS : ∀ a ∈ Bundle.stringAtoms, a.before a0 Z = true) (hg : g.method = m) (hd : decode c.code g.pc = .ok (.ldc index, 2)) {n : Nat} (hn : 4 * text.toList.length ≤ n) (hbig : n ≤ 536870912) (hc : cells + 2 ≤ R.cells) (hl : slots + (n + 4) ≤ R.slots) :
    ∃ (a : Addr) (T' : State) (h' : Heap), Hs p l e R s m args below meth c Z own ws (fun _ => True) T' h' (cells + 2) (slots + (n + 4)) ∧ Keep h h' [] ∧ ∀ t, Steps p.tables e below (T'.setTop { g with pc := g.pc + 2, stack := .ref a :: g.stack }) t → Steps p.tables e below (T.setTop g) t := by
  obtain ⟨vm0, k0, locs, hx, X, hS, hk, hZ, ho, eT, F0, hV, r⟩ := H
  obtain ⟨a, T', h', k1, X', e', E, hS', hk', hZ', ho', st⟩ := RoadKit.ldcS X hx hZ ho w wS eT hS hk hg hd hn hbig hc hl
  exact ⟨a, T', h', ⟨_, k1, locs, hx, X', hS', hk', hZ', ho', e', F0, trivial, r⟩, ext_keep E, st⟩
theorem Hs.ldcI (H : Hs p l e R s m args below meth c Z own ws V T h cells slots) {index : Nat} {n : Int32} (w : (Jvm.Cond.constant own index n).before a0 Z = true) (hg : g.method = m) (hd : decode c.code g.pc = .ok (.ldc index, 2)) :
    ∀ t, Steps p.tables e below (T.setTop { g with pc := g.pc + 2, stack := .int n :: g.stack }) t → Steps p.tables e below (T.setTop g) t := by
  obtain ⟨vm0, k0, locs, hx, X, hS, hk, hZ, ho, eT, r⟩ := H
  exact X.ldcInt hx ho (mvT (s := s.setVm vm0) hZ w) hg hd
theorem Hs.castY (H : Hs p l e R s m args below meth c Z own ws V T h cells slots) {KK : String} {index : Nat} (w : (Jvm.Cond.classLink own index KK).before a0 Z = true) {a : Addr} (F : Ins Z h a KK true) (hg : g.method = m) {rest : List Value} (hs : g.stack = .ref a :: rest) (hd : decode c.code g.pc = .ok (.checkcast index, 3)) :
    ∃ T', Hs p l e R s m args below meth c Z own ws V T' h cells slots ∧ ∀ t, Steps p.tables e below (T'.setTop { g with pc := g.pc + 3 }) t → Steps p.tables e below (T.setTop g) t := by
  obtain ⟨vm0, k0, locs, hx, X, hS, hk, hZ, ho, eT, r⟩ := H
  obtain ⟨T', X', e', st⟩ := RoadKit.castY X hx (s := s.setVm vm0) hZ ho w eT F hg hs hd
  exact ⟨T', ⟨vm0, k0, locs, hx, X', hS, hk, hZ, ho, e', r⟩, st⟩
theorem Hs.instY (H : Hs p l e R s m args below meth c Z own ws V T h cells slots) {KK : String} {index : Nat} (w : (Jvm.Cond.classLink own index KK).before a0 Z = true) {a : Addr} (F : Ins Z h a KK true) (hg : g.method = m) {rest : List Value} (hs : g.stack = .ref a :: rest) (hd : decode c.code g.pc = .ok (.instanceof index, 3)) :
    ∃ T', Hs p l e R s m args below meth c Z own ws V T' h cells slots ∧ ∀ t, Steps p.tables e below (T'.setTop { g with pc := g.pc + 3, stack := .int 1 :: rest }) t → Steps p.tables e below (T.setTop g) t := by
  obtain ⟨vm0, k0, locs, hx, X, hS, hk, hZ, ho, eT, r⟩ := H
  obtain ⟨T', X', e', st⟩ := RoadKit.instY X hx (s := s.setVm vm0) hZ ho w eT F hg hs hd
  exact ⟨T', ⟨vm0, k0, locs, hx, X', hS, hk, hZ, ho, e', r⟩, st⟩
theorem Hs.instNo (H : Hs p l e R s m args below meth c Z own ws V T h cells slots) {C KK : String} {index : Nat} (w : (Jvm.Cond.classLink own index KK).before a0 Z = true) {a : Addr} (E : Exa Z h a C) (F : ∃ c t, Z.vm.findClass C = some c ∧ Z.vm.findClass KK = some t ∧ Z.vm.assignable c t = false) (hg : g.method = m) {rest : List Value} (hs : g.stack = .ref a :: rest) (hd : decode c.code g.pc = .ok (.instanceof index, 3)) :
    ∃ T', Hs p l e R s m args below meth c Z own ws V T' h cells slots ∧ ∀ t, Steps p.tables e below (T'.setTop { g with pc := g.pc + 3, stack := .int 0 :: rest }) t → Steps p.tables e below (T.setTop g) t := by
  obtain ⟨vm0, k0, locs, hx, X, hS, hk, hZ, ho, eT, r⟩ := H
  obtain ⟨T', X', e', st⟩ := RoadKit.instNo X hx (s := s.setVm vm0) hZ (a0 := a0) ho w eT E F hg hs hd
  exact ⟨T', ⟨vm0, k0, locs, hx, X', hS, hk, hZ, ho, e', r⟩, st⟩
/-! arrays read -/
theorem Hs.alen (H : Hs p l e R s m args below meth c Z own ws V T h cells slots) {a : Addr} {kA : ClassId} {ty : FieldType} {z : Int32} {vs : List Value} {dv : Value} (F : Arv Z h a kA ty z vs dv) (hg : g.method = m) {rest : List Value} (hs : g.stack = .ref a :: rest) (hd : decode c.code g.pc = .ok (.arraylength, 1)) :
    ∀ t, Steps p.tables e below (T.setTop { g with pc := g.pc + 1, stack := .int z :: rest }) t → Steps p.tables e below (T.setTop g) t := by
  obtain ⟨vm0, k0, locs, hx, X, hS, hk, hZ, ho, eT, r⟩ := H
  obtain ⟨cl, A, q1, S, q3, HH, G⟩ := F
  intro t k
  refine X.arraylength hx (by rw [eT]; exact A.1) (State.isArrayOf_alike (T := s.setVm vm0) (State.Warmed39.alike (s := Z) hZ) A.2.1) hg hs hd t ?_
  rw [len_of S q3]; exact k
theorem Hs.aald (H : Hs p l e R s m args below meth c Z own ws V T h cells slots) {a : Addr} {kA : ClassId} {ty : FieldType} {z j : Int32} {vs : List Value} {dv v : Value} (F : Arv Z h a kA ty z vs dv) (hty : ty.isReference = true) (hj : ¬ j < 0 ∧ j < z) (hv : vs.getD j.toNatClampNeg dv = v) (hg : g.method = m) {rest : List Value} (hs : g.stack = .int j :: .ref a :: rest) (hd : decode c.code g.pc = .ok (.aaload, 1)) :
    ∀ t, Steps p.tables e below (T.setTop { g with pc := g.pc + 1, stack := v :: rest }) t → Steps p.tables e below (T.setTop g) t := by
  obtain ⟨vm0, k0, locs, hx, X, hS, hk, hZ, ho, eT, r⟩ := H
  obtain ⟨cl, A, q1, S, q3, HH, G⟩ := F
  intro t k
  exact X.aaload hx (by rw [eT]; exact A.1) (State.isArrayOf_alike (T := s.setVm vm0) (State.Warmed39.alike (s := Z) hZ) A.2.1) hty A.2.2 (inb_of S hj) (HH.at (inb_of S hj) hv) hg hs hd t k
theorem Hs.cald (H : Hs p l e R s m args below meth c Z own ws V T h cells slots) {a : Addr} {kA : ClassId} {z j : Int32} {vs : List Value} {dv v : Value} (F : Arv Z h a kA .char z vs dv) (hj : ¬ j < 0 ∧ j < z) (hv : vs.getD j.toNatClampNeg dv = v) (hg : g.method = m) {rest : List Value} (hs : g.stack = .int j :: .ref a :: rest) (hd : decode c.code g.pc = .ok (.caload, 1)) :
    ∀ t, Steps p.tables e below (T.setTop { g with pc := g.pc + 1, stack := v :: rest }) t → Steps p.tables e below (T.setTop g) t := by
  obtain ⟨vm0, k0, locs, hx, X, hS, hk, hZ, ho, eT, r⟩ := H
  obtain ⟨cl, A, q1, S, q3, HH, G⟩ := F
  intro t k
  exact X.caload hx (by rw [eT]; exact A.1) (State.isArrayOf_alike (T := s.setVm vm0) (State.Warmed39.alike (s := Z) hZ) A.2.1) A.2.2 (inb_of S hj) (HH.at (inb_of S hj) hv) hg hs hd t k
theorem Hs.bald (H : Hs p l e R s m args below meth c Z own ws V T h cells slots) {a : Addr} {kA : ClassId} {z j : Int32} {vs : List Value} {dv v : Value} (F : Arv Z h a kA .byte z vs dv) (hj : ¬ j < 0 ∧ j < z) (hv : vs.getD j.toNatClampNeg dv = v) (hg : g.method = m) {rest : List Value} (hs : g.stack = .int j :: .ref a :: rest) (hd : decode c.code g.pc = .ok (.baload, 1)) :
    ∀ t, Steps p.tables e below (T.setTop { g with pc := g.pc + 1, stack := v :: rest }) t → Steps p.tables e below (T.setTop g) t := by
  obtain ⟨vm0, k0, locs, hx, X, hS, hk, hZ, ho, eT, r⟩ := H
  obtain ⟨cl, A, q1, S, q3, HH, G⟩ := F
  intro t k
  exact X.baloadBytes hx (by rw [eT]; exact A.1) (State.isArrayOf_alike (T := s.setVm vm0) (State.Warmed39.alike (s := Z) hZ) A.2.1) A.2.2 (inb_of S hj) (HH.at (inb_of S hj) hv) hg hs hd t k
/-- an array's clone() -/
theorem Hs.clone (H : Hs p l e R s m args below meth c Z own ws V T h cells slots) {ad : String} {index : Nat} (w1 : (Jvm.Cond.methodLink own index ⟨ad, "clone", "()Ljava/lang/Object;"⟩).before a0 Z = true) (w2 : (Jvm.Cond.sameMethod ad "java/lang/Object" "clone" "()Ljava/lang/Object;").before a0 Z = true) (w3 : (Jvm.Cond.native ⟨"java/lang/Object", "clone", "()Ljava/lang/Object;"⟩).before a0 Z = true)
    (w4 : (Jvm.Cond.instanceMethod ⟨"java/lang/Object", "clone", "()Ljava/lang/Object;"⟩).before a0 Z = true) (w5 : (Jvm.Cond.selects ad ⟨ad, "clone", "()Ljava/lang/Object;"⟩ ⟨"java/lang/Object", "clone", "()Ljava/lang/Object;"⟩).before a0 Z = true) (w6 : (Jvm.Cond.castable ad "java/lang/Cloneable").before a0 Z = true)
    {a : Addr} {kA : ClassId} {ty : FieldType} {z : Int32} {vs : List Value} {dv : Value} (F : Arv Z h a kA ty z vs dv) (E : Exa Z h a ad) (hg : g.method = m) (hsize : g.locals.size = c.maxLocals) {rest : List Value} (hst : g.stack = .ref a :: rest) (hd : decode c.code g.pc = .ok (.invokevirtual index, 3))
    (hf : 1 ≤ R.frames) {W cap : Nat} (hW : 2 * g.monitorRoom + (rest.map fun v => v.category).sum ≤ W) (hl : W + 14 ≤ R.locals) (hcap : z.toNatClampNeg ≤ cap) (hc : cells + 1 ≤ R.cells) (hsl : slots + cap ≤ R.slots) :
    ∃ (b : Addr) (T' : State) (h' : Heap), @Eq Nat b h.size ∧ Hs p l e R s m args below meth c Z own ws V T' h' (cells + 1) (slots + cap) ∧ Keep h h' [] ∧ Arv Z h' b kA ty z vs dv ∧ Exa Z h' b ad ∧
      ∀ t, Steps p.tables e below (T'.setTop { g with pc := g.pc + 3, stack := .ref b :: rest }) t → Steps p.tables e below (T.setTop g) t := by
  obtain ⟨vm0, k0, locs, hx, X, hS, hk, hZ, ho, eT, r⟩ := H
  obtain ⟨T', h', X', e', Ex, A, E', st⟩ := cloneH X hx (s := s.setVm vm0) hZ ho w1 w2 w3 w4 w5 w6 eT F.arh E hg hsize hst hd hf hW hl hcap hc hsl
  exact ⟨_, T', h', rfl, ⟨vm0, k0, locs, hx, X', hS, Nat.le_trans hk Ex.1, hZ, ho, e', r⟩, ext_keep Ex, A, E', st⟩
theorem iremH (H : Hs p l e R s m args below meth c Z own ws V T h cells slots) (hx : p.tables.exec = Jvm.exec) (hg : g.method = m) {x y : Int32} {rest : List Value} {target : State} (hd : decode c.code g.pc = .ok (.irem, 1)) (hs : g.stack = .int y :: .int x :: rest) (hy : y ≠ 0)
    (hr : Steps p.tables e below (T.setTop { g with pc := g.pc + 1, stack := .int (x % y) :: rest }) target) : Steps p.tables e below (T.setTop g) target := by
  obtain ⟨vm0, k0, locs, hx', X, -⟩ := H
  exact iremM X hx hg hd hs hy hr
theorem Hs.instNull (H : Hs p l e R s m args below meth c Z own ws V T h cells slots) {index : Nat} (hg : g.method = m) {rest : List Value} (hs : g.stack = .null :: rest) (hd : decode c.code g.pc = .ok (.instanceof index, 3)) :
    ∀ t, Steps p.tables e below (T.setTop { g with pc := g.pc + 3, stack := .int 0 :: rest }) t → Steps p.tables e below (T.setTop g) t := by
  obtain ⟨vm0, k0, locs, hx, X, r⟩ := H
  exact Jvm.Stand.instanceofNull X hx hg hs hd
/-- no object of the class C is one of the class K -/
theorem not_sub {C K : String} {n : Nat} (w : (Jvm.Cond.superclass C "java/lang/Object").before a0 Z = true) (w0 : (Jvm.Cond.noSuperclass "java/lang/Object").before a0 Z = true) (wk : (Jvm.Cond.instantiable K n).before a0 Z = true) (n1 : C ≠ K) (n2 : "java/lang/Object" ≠ K) :
    ∃ c t, Z.vm.findClass C = some c ∧ Z.vm.findClass K = some t ∧ Z.vm.assignable c t = false := by
  obtain ⟨c, h0⟩ := found_sup w
  obtain ⟨p, k, kp, h1, h2, h3, h4, h5, -, h7⟩ := Cond.superclass_spec h0 w
  obtain ⟨t, k', g0, g2, g5, g6, -, -⟩ := Cond.instantiable_spec wk
  obtain ⟨c', k'', r1, r2, r3, -, -⟩ := Cond.noSuperclass_spec w0
  cases h1.symm.trans r1
  have ne := ids_ne h0 g0 n1
  have ne2 := ids_ne r1 g0 n2
  have g7 : k'.isInterface = false := by cases q : k'.isInterface <;> simp [q] at g6 ⊢
  have n3 : ∀ fuel, Z.vm.isSubclassAux fuel c t = false := fun fuel => by
    cases fuel with
    | zero => rfl
    | succ f => cases f with
      | zero => simp [Vm.isSubclassAux, ne, h2, h4]
      | succ f => simp [Vm.isSubclassAux, ne, ne2, h2, h4, r2, r3]
  refine ⟨c, t, h0, g0, ?_⟩
  show Z.vm.assignableAux (255 + 1) c t = false
  simp [Vm.assignableAux, ne, h2, g2, h5, g5, g7, Vm.isSubclass, n3]
/-! branches -/
theorem z_eq_t {x : Int32} (q : x = 0) : ifCond.holds .eq x = true := (if0 _ _).trans (teq q).1
theorem z_eq_f {x : Int32} (q : ¬ x = 0) : ifCond.holds .eq x = false := (if0 _ _).trans (feq q).1
theorem z_ne_f {x : Int32} (q : x = 0) : ifCond.holds .ne x = false := (if0 _ _).trans (teq q).2
theorem z_ne_t {x : Int32} (q : ¬ x = 0) : ifCond.holds .ne x = true := (if0 _ _).trans (feq q).2
theorem z_lt_t {x : Int32} (q : x < 0) : ifCond.holds .lt x = true := (if0 _ _).trans (tlt q).1
theorem z_lt_f {x : Int32} (q : ¬ x < 0) : ifCond.holds .lt x = false := (if0 _ _).trans (flt q).1
theorem z_ge_f {x : Int32} (q : x < 0) : ifCond.holds .ge x = false := (if0 _ _).trans (tlt q).2.1
theorem z_ge_t {x : Int32} (q : ¬ x < 0) : ifCond.holds .ge x = true := (if0 _ _).trans (flt q).2.1
theorem z_gt_t {x : Int32} (q : 0 < x) : ifCond.holds .gt x = true := (if0 _ _).trans (tlt q).2.2.1
theorem z_gt_f {x : Int32} (q : ¬ 0 < x) : ifCond.holds .gt x = false := (if0 _ _).trans (flt q).2.2.1
theorem z_le_f {x : Int32} (q : 0 < x) : ifCond.holds .le x = false := (if0 _ _).trans (tlt q).2.2.2
theorem z_le_t {x : Int32} (q : ¬ 0 < x) : ifCond.holds .le x = true := (if0 _ _).trans (flt q).2.2.2
theorem c_eq_t {x y : Int32} (q : x = y) : if_icmp.holds .eq x y = true := (teq q).1
theorem c_eq_f {x y : Int32} (q : ¬ x = y) : if_icmp.holds .eq x y = false := (feq q).1
theorem c_ne_f {x y : Int32} (q : x = y) : if_icmp.holds .ne x y = false := (teq q).2
theorem c_ne_t {x y : Int32} (q : ¬ x = y) : if_icmp.holds .ne x y = true := (feq q).2
theorem c_lt_t {x y : Int32} (q : x < y) : if_icmp.holds .lt x y = true := (tlt q).1
theorem c_lt_f {x y : Int32} (q : ¬ x < y) : if_icmp.holds .lt x y = false := (flt q).1
theorem c_ge_f {x y : Int32} (q : x < y) : if_icmp.holds .ge x y = false := (tlt q).2.1
theorem c_ge_t {x y : Int32} (q : ¬ x < y) : if_icmp.holds .ge x y = true := (flt q).2.1
theorem c_gt_t {x y : Int32} (q : y < x) : if_icmp.holds .gt x y = true := (tlt q).2.2.1
theorem c_gt_f {x y : Int32} (q : ¬ y < x) : if_icmp.holds .gt x y = false := (flt q).2.2.1
theorem c_le_f {x y : Int32} (q : y < x) : if_icmp.holds .le x y = false := (tlt q).2.2.2
theorem c_le_t {x y : Int32} (q : ¬ y < x) : if_icmp.holds .le x y = true := (flt q).2.2.2
theorem ac_eq_t {x y : Value} (q : x = y) : XT.acmp .eq x y = true := decide_eq_true q
theorem ac_eq_f {x y : Value} (q : ¬ x = y) : XT.acmp .eq x y = false := decide_eq_false q
theorem ac_ne_t {x y : Value} (q : ¬ x = y) : XT.acmp .ne x y = true := decide_eq_true q
theorem ac_ne_f {x y : Value} (q : x = y) : XT.acmp .ne x y = false := decide_eq_false fun r => r q
theorem ref_ne {a b : Addr} (q : ¬ a = b) : ¬ Value.ref a = Value.ref b := fun r => q (Value.ref.inj r)
end Own
end Jvm.Pilot.@@N@@
/- laws to paste: Road.backArv, Road.lenW, Road.empW, Road.wide_lo, Road.wide_hi, Road.low_at, pair_says, shr0, shr1, lo8_mask (cut by pick.py; bodies as the Statement names them) -/
namespace Jvm.Pilot.@@N@@
namespace StrChars
open Jvm Sem ClassFile Op Lib Jvm.Stand Jvm.Free.XT Jvm.Free.ALB Jvm.Free.JM Jvm.Free
open Jvm.Lib.Cold (StaticIs)
/-- a char array whose places are chars -/
def Ch (a : Addr) (A : Cell) (U : State) : Prop := Arr .char a A U ∧ Typed .char A
theorem Ch.mv {a : Addr} {A : Cell} {U U' : State} (h : Ch a A U) (hal : U.vm.Alike U'.vm) (hh : U'.heap = U.heap) : Ch a A U' := ⟨h.1.mv hal hh, h.2⟩
theorem Ch.keep {a : Addr} {A : Cell} {U U' : State} (h : Ch a A U) (hal : U.vm.Alike U'.vm) (hk : U'.heap[a]? = some A) : Ch a A U' := ⟨h.1.keep hal hk, h.2⟩
/-- what place i of a char[]'s cell holds -/
def cv (A : Cell) (i : Nat) : Int32 := match A.slots[i]? with | some (.int x) => x | _ => 0
theorem Ch.get {a : Addr} {A : Cell} {U : State} (h : Ch a A U) {i : Nat} (hi : i < A.slots.size) : A.slots[i]? = some (.int (cv A i)) := by
  have e := Array.getElem?_eq_getElem hi
  have f := h.2 i _ e
  unfold cv; rw [e]
  generalize A.slots[i] = v at f
  cases v <;> simp [fits] at f ⊢
/-- the byte that i2b leaves of a char -/
def lo8 (x : Int32) : Int32 := x.toInt8.toInt32
theorem fits_lo8 (y : Int32) : fits .byte (.int (lo8 y)) = true := by
  have h1 := y.toInt8.le_toInt
  have h2 := y.toInt8.toInt_lt
  simp only [lo8, fits, Bool.and_eq_true, decide_eq_true_eq, Int32.le_iff_toInt_le, Int8.toInt_toInt32, show (-128 : Int32).toInt = -128 from by decide, show (127 : Int32).toInt = 127 from by decide]
  omega
/-- A' is A but that each place j of lo .. hi - 1 holds f j -/
def Laid (A A' : Cell) (lo hi : Nat) (f : Nat → Value) : Prop := A'.cls = A.cls ∧ A'.vm = A.vm ∧ A'.slots.size = A.slots.size ∧ ∀ i, A'.slots[i]? = if lo ≤ i ∧ i < hi then some (f i) else A.slots[i]?
theorem Laid.zero (A : Cell) (lo : Nat) (f : Nat → Value) : Laid A A lo (lo + 0) f := ⟨rfl, rfl, rfl, fun i => by rw [if_neg (by omega)]⟩
theorem Laid.step {A Ak : Cell} {lo k : Nat} {f : Nat → Value} {v : Value} (h : Laid A Ak lo k f) (hlo : lo ≤ k) (hk : k < Ak.slots.size) (hv : v = f k) : Laid A (Ak.setSlot k v) lo (k + 1) f := by
  refine ⟨h.1, h.2.1, by simpa [Cell.setSlot] using h.2.2.1, fun i => ?_⟩
  by_cases e : k = i
  · subst e; rw [Cell.slots_setSlot_self v hk, if_pos (by omega), hv]
  · rw [Cell.slots_setSlot_ne v e, h.2.2.2 i]
    by_cases q : lo ≤ i ∧ i < k
    · rw [if_pos q, if_pos (by omega)]
    · rw [if_neg q, if_neg (by omega)]
def U16 : String := "java/lang/StringUTF16"
namespace Cmp5
def yN : MethodName := ⟨"java/lang/StringUTF16", "compress", "([CI[BII)I"⟩
abbrev yB : ByteArray := jdk_52_method_21_code
theorem d0 : decode yB 0 = .ok (.iconst 0, 1) := by decide +kernel
theorem d1 : decode yB 1 = .ok (.istore 5, 2) := by decide +kernel
theorem d3 : decode yB 3 = .ok (.iload 5, 2) := by decide +kernel
theorem d5 : decode yB 5 = .ok (.iload 4, 2) := by decide +kernel
theorem d7 : decode yB 7 = .ok (.if_icmp (.ge) 37, 3) := by decide +kernel
theorem d10 : decode yB 10 = .ok (.aload_n 0, 1) := by decide +kernel
theorem d11 : decode yB 11 = .ok (.iload_n 1, 1) := by decide +kernel
theorem d12 : decode yB 12 = .ok (.caload, 1) := by decide +kernel
theorem d13 : decode yB 13 = .ok (.istore 6, 2) := by decide +kernel
theorem d15 : decode yB 15 = .ok (.iload 6, 2) := by decide +kernel
theorem d17 : decode yB 17 = .ok (.sipush 255, 3) := by decide +kernel
theorem d20 : decode yB 20 = .ok (.if_icmp (.le) 6, 3) := by decide +kernel
theorem d26 : decode yB 26 = .ok (.aload_n 2, 1) := by decide +kernel
theorem d27 : decode yB 27 = .ok (.iload_n 3, 1) := by decide +kernel
theorem d28 : decode yB 28 = .ok (.iload 6, 2) := by decide +kernel
theorem d30 : decode yB 30 = .ok (.i2b, 1) := by decide +kernel
theorem d31 : decode yB 31 = .ok (.bastore, 1) := by decide +kernel
theorem d32 : decode yB 32 = .ok (.iinc 1 1, 3) := by decide +kernel
theorem d35 : decode yB 35 = .ok (.iinc 3 1, 3) := by decide +kernel
theorem d38 : decode yB 38 = .ok (.iinc 5 1, 3) := by decide +kernel
theorem d41 : decode yB 41 = .ok (.goto (-38), 3) := by decide +kernel
theorem d44 : decode yB 44 = .ok (.iload 4, 2) := by decide +kernel
theorem d46 : decode yB 46 = .ok (.ireturn, 1) := by decide +kernel
def site : List Cond := []
def tab : Cond := tabOf yN yB 7 (some .int) site
def P (b : Addr) (A : Cell) (d : Addr) (B : Cell) (o q len : Nat) (args : Array Value) (s : State) : Prop := args = #[.ref b, .int (Int32.ofNat o), .ref d, .int (Int32.ofNat q), .int (Int32.ofNat len)] ∧ Ch b A s ∧ Arr .byte d B s ∧ b ≠ d ∧ o + len ≤ A.slots.size ∧ q + len ≤ B.slots.size ∧ ∀ i, i < len → ¬ 255 < cv A (o + i)
def E (b : Addr) (A : Cell) (d : Addr) (B : Cell) (o q len : Nat) (r : Option Value) (s u : State) : Prop := r = some (.int (Int32.ofNat len)) ∧ ∃ B', Put d B' s u ∧ Laid B B' q (q + len) (fun j => Value.int (lo8 (cv A (o + (j - q)))))
/-- no char of the range above 255: len; the places written hold each char's low byte -/
theorem law (l : Launch) (b : Addr) (A : Cell) (d : Addr) (B : Cell) (o q len : Nat) : Law l yN 5 5 0 0 yB 7 (some .int) site (P b A d B o q len) (E b A d B o q len) (copyLocs d q len) 0 0 := by
  refine Law.of_walk (plainFor_of_name (by decide +kernel)) (by decide +kernel) (by decide +kernel) (by decide) (fun _ _ h => by rw [h.1]; rfl) (fun _ U U' hal hh h => ⟨h.1, h.2.1.mv hal hh, h.2.2.1.mv hal hh, h.2.2.2⟩) (fun r U U' V V' h1 hal h2 h => ⟨h.1, h.2.elim fun B' q => ⟨B', q.1.mv h1 h2, q.2⟩⟩) ?_
  intro p e s m args below meth c s₁ X0 hexec hbytes hml hret hlk hnm hown hh0 W hP
  obtain ⟨rfl, hA, hB, hne, l1, l2, hp⟩ := hP
  have c1 : Steps p.tables e below (s₁.setTop (entryFrame m #[.ref b, .int (Int32.ofNat o), .ref d, .int (Int32.ofNat q), .int (Int32.ofNat len)] 7)) (s₁.setTop (mkF m 0 #[.val (.ref b), .val (.int (Int32.ofNat o)), .val (.ref d), .val (.int (Int32.ofNat q)), .val (.int (Int32.ofNat len)), .unset, .unset] [])) := entry rfl
  have hA0 := hA.1.mv X0.warmed.alike hh0
  have hB0 := hB.mv X0.warmed.alike hh0
  have a31 := hA.1.2.2.2
  have c2 : Steps p.tables e below (s₁.setTop (entryFrame m #[.ref b, .int (Int32.ofNat o), .ref d, .int (Int32.ofNat q), .int (Int32.ofNat len)] 7)) (s₁.setTop (mkF m 3 #[.val (.ref b), .val (.int (Int32.ofNat o)), .val (.ref d), .val (.int (Int32.ofNat q)), .val (.int (Int32.ofNat len)), .val (.int 0), .unset] [])) := c1.trans (by
    refine iconstV X0.here hexec rfl 0 (hb hbytes d0) (by decide) ?_
    refine XS.istore X0.here hexec rfl (hb hbytes d1) rfl rfl ?_
    exact Steps.refl _)
  have loop : ∀ (r i : Nat), i + r = len → ∀ (z : Slot), (z = .unset ∨ ∃ w, z = .val w ∧ w.category = 1) → ∀ (Tl : State) (Bk : Cell), Stand p l e { frames := 0, locals := 0, cells := 0, slots := 0 } s m #[.ref b, .int (Int32.ofNat o), .ref d, .int (Int32.ofNat q), .int (Int32.ofNat len)] below meth c Tl ([] ++ copyLocs d q i) 0 0 → Put d Bk s₁ Tl → Laid B Bk q (q + i) (fun j => Value.int (lo8 (cv A (o + (j - q))))) →
      Steps p.tables e below (s₁.setTop (entryFrame m #[.ref b, .int (Int32.ofNat o), .ref d, .int (Int32.ofNat q), .int (Int32.ofNat len)] 7)) (Tl.setTop (mkF m 3 #[.val (.ref b), .val (.int (Int32.ofNat (o + i))), .val (.ref d), .val (.int (Int32.ofNat (q + i))), .val (.int (Int32.ofNat len)), .val (.int (Int32.ofNat i)), z] [])) → ∃ (T' : State) (B' : Cell) (z' : Slot), Stand p l e { frames := 0, locals := 0, cells := 0, slots := 0 } s m #[.ref b, .int (Int32.ofNat o), .ref d, .int (Int32.ofNat q), .int (Int32.ofNat len)] below meth c T' ([] ++ copyLocs d q len) 0 0 ∧ Put d B' s₁ T' ∧ Laid B B' q (q + len) (fun j => Value.int (lo8 (cv A (o + (j - q))))) ∧
      Steps p.tables e below (s₁.setTop (entryFrame m #[.ref b, .int (Int32.ofNat o), .ref d, .int (Int32.ofNat q), .int (Int32.ofNat len)] 7)) (T'.setTop (mkF m 3 #[.val (.ref b), .val (.int (Int32.ofNat (o + len))), .val (.ref d), .val (.int (Int32.ofNat (q + len))), .val (.int (Int32.ofNat len)), .val (.int (Int32.ofNat len)), z'] [])) := by
    intro r
    induction r with
    | zero =>
      intro i hi z hz Tl Bk Xl pl fl cl
      have hil : i = len := by omega
      rw [hil] at Xl fl cl
      exact ⟨Tl, Bk, z, Xl, pl, fl, cl⟩
    | succ r ih =>
      intro i hi z hz Tl Bk Xl pl fl cl
      have all := X0.warmed.alike.symm.trans Xl.warmed.alike
      have hAl := hA0.keep all (pl.other hne hA0.1)
      have hBk := hB0.like all pl.1 fl.1 fl.2.1 fl.2.2.1
      have hlt : q + i < Bk.slots.size := by rw [fl.2.2.1]; omega
      have c3 : Steps p.tables e below (s₁.setTop (entryFrame m #[.ref b, .int (Int32.ofNat o), .ref d, .int (Int32.ofNat q), .int (Int32.ofNat len)] 7)) (Tl.setTop (mkF m 12 #[.val (.ref b), .val (.int (Int32.ofNat (o + i))), .val (.ref d), .val (.int (Int32.ofNat (q + i))), .val (.int (Int32.ofNat len)), .val (.int (Int32.ofNat i)), z] [.int (Int32.ofNat (o + i)), .ref b])) := cl.trans (by
        refine XS.iload Xl.here hexec rfl (hb hbytes d3) rfl ?_
        refine XS.iload Xl.here hexec rfl (hb hbytes d5) rfl ?_
        refine XS.icmpNo Xl.here hexec rfl (hb hbytes d7) rfl (ii_ge_f (lt32 (by omega) (by omega))) ?_
        refine XS.aloadN Xl.here hexec rfl (hb hbytes d10) rfl rfl ?_
        refine XS.iloadN Xl.here hexec rfl (hb hbytes d11) rfl ?_
        exact Steps.refl _)
      have c4 : Steps p.tables e below (s₁.setTop (entryFrame m #[.ref b, .int (Int32.ofNat o), .ref d, .int (Int32.ofNat q), .int (Int32.ofNat len)] 7)) (Tl.setTop (mkF m 13 #[.val (.ref b), .val (.int (Int32.ofNat (o + i))), .val (.ref d), .val (.int (Int32.ofNat (q + i))), .val (.int (Int32.ofNat len)), .val (.int (Int32.ofNat i)), z] [.int (cv A (o + i))])) := c3.trans (by
        refine Xl.aget hexec hAl rfl (hA.get (i := o + i) (by omega)) rfl rfl (hb hbytes d12) ?_
        exact Steps.refl _)
      have c5 : Steps p.tables e below (s₁.setTop (entryFrame m #[.ref b, .int (Int32.ofNat o), .ref d, .int (Int32.ofNat q), .int (Int32.ofNat len)] 7)) (Tl.setTop (mkF m 15 #[.val (.ref b), .val (.int (Int32.ofNat (o + i))), .val (.ref d), .val (.int (Int32.ofNat (q + i))), .val (.int (Int32.ofNat len)), .val (.int (Int32.ofNat i)), .val (.int (cv A (o + i)))] [])) := c4.trans (by
        refine XS.istoreS Xl.here hexec rfl (hb hbytes d13) rfl rfl hz ?_
        exact Steps.refl _)
      have c6 : Steps p.tables e below (s₁.setTop (entryFrame m #[.ref b, .int (Int32.ofNat o), .ref d, .int (Int32.ofNat q), .int (Int32.ofNat len)] 7)) (Tl.setTop (mkF m 31 #[.val (.ref b), .val (.int (Int32.ofNat (o + i))), .val (.ref d), .val (.int (Int32.ofNat (q + i))), .val (.int (Int32.ofNat len)), .val (.int (Int32.ofNat i)), .val (.int (cv A (o + i)))] [.int (lo8 (cv A (o + i))), .int (Int32.ofNat (q + i)), .ref d])) := c5.trans (by
        refine XS.iload Xl.here hexec rfl (hb hbytes d15) rfl ?_
        refine sipushV Xl.here hexec rfl 255 (hb hbytes d17) (by decide) ?_
        refine XS.icmpYes Xl.here hexec rfl (pc0 := 20) rfl (hb hbytes d20) rfl (ii_le_t (hp i (by omega))) (by decide) rfl ?_
        refine XS.aloadN Xl.here hexec rfl (hb hbytes d26) rfl rfl ?_
        refine XS.iloadN Xl.here hexec rfl (hb hbytes d27) rfl ?_
        refine XS.iload Xl.here hexec rfl (hb hbytes d28) rfl ?_
        refine i2b Xl.here hexec rfl (hb hbytes d30) rfl ?_
        exact Steps.refl _)
      obtain ⟨T7, X7, p7, st7⟩ := Xl.aput hexec hBk rfl hlt rfl (fits_lo8 (cv A (o + i))) (g := (mkF m 31 #[.val (.ref b), .val (.int (Int32.ofNat (o + i))), .val (.ref d), .val (.int (Int32.ofNat (q + i))), .val (.int (Int32.ofNat len)), .val (.int (Int32.ofNat i)), .val (.int (cv A (o + i)))] [.int (lo8 (cv A (o + i))), .int (Int32.ofNat (q + i)), .ref d])) rfl (rest := []) rfl (hb hbytes d31)
      have c8 : Steps p.tables e below (s₁.setTop (entryFrame m #[.ref b, .int (Int32.ofNat o), .ref d, .int (Int32.ofNat q), .int (Int32.ofNat len)] 7)) (T7.setTop (mkF m 32 #[.val (.ref b), .val (.int (Int32.ofNat (o + i))), .val (.ref d), .val (.int (Int32.ofNat (q + i))), .val (.int (Int32.ofNat len)), .val (.int (Int32.ofNat i)), .val (.int (cv A (o + i)))] [])) := c6.trans (st7 _ (Steps.refl _))
      have c9 : Steps p.tables e below (s₁.setTop (entryFrame m #[.ref b, .int (Int32.ofNat o), .ref d, .int (Int32.ofNat q), .int (Int32.ofNat len)] 7)) (T7.setTop (mkF m 3 #[.val (.ref b), .val (.int (Int32.ofNat (o + i) + 1)), .val (.ref d), .val (.int (Int32.ofNat (q + i) + 1)), .val (.int (Int32.ofNat len)), .val (.int (Int32.ofNat i + 1)), .val (.int (cv A (o + i)))] [])) := c8.trans (by
        refine iincV X7.here hexec rfl 1 (hb hbytes d32) (by decide) rfl rfl ?_
        refine iincV X7.here hexec rfl 1 (hb hbytes d35) (by decide) rfl rfl ?_
        refine iincV X7.here hexec rfl 1 (hb hbytes d38) (by decide) rfl rfl ?_
        refine XS.goto X7.here hexec rfl (pc0 := 41) rfl (hb hbytes d41) (by decide) rfl ?_
        exact Steps.refl _)
      have c10 : Steps p.tables e below (s₁.setTop (entryFrame m #[.ref b, .int (Int32.ofNat o), .ref d, .int (Int32.ofNat q), .int (Int32.ofNat len)] 7)) (T7.setTop (mkF m 3 #[.val (.ref b), .val (.int (Int32.ofNat (o + (i + 1)))), .val (.ref d), .val (.int (Int32.ofNat (q + (i + 1)))), .val (.int (Int32.ofNat len)), .val (.int (Int32.ofNat (i + 1))), .val (.int (cv A (o + i)))] [])) := by
        have := c9
        rw [succ32, succ32, succ32] at this
        exact this
      exact ih (i + 1) (by omega) _ (Or.inr ⟨_, rfl, rfl⟩) T7 _ (by rw [copyLocs_step, ← List.append_assoc]; exact X7) (pl.trans p7) (fl.step (by omega) hlt (by simp)) c10
  obtain ⟨T9, B9, z9, X9, p9, f9, g9⟩ := loop len 0 (by omega) .unset (Or.inl rfl) s₁ B (by simpa [copyLocs] using X0) ⟨hB0.1, fun _ _ => rfl, rfl⟩ (Laid.zero _ _ _) c2
  have c11 : Steps p.tables e below (s₁.setTop (entryFrame m #[.ref b, .int (Int32.ofNat o), .ref d, .int (Int32.ofNat q), .int (Int32.ofNat len)] 7)) (T9.setTop (mkF m 46 #[.val (.ref b), .val (.int (Int32.ofNat (o + len))), .val (.ref d), .val (.int (Int32.ofNat (q + len))), .val (.int (Int32.ofNat len)), .val (.int (Int32.ofNat len)), z9] [.int (Int32.ofNat len)])) := g9.trans (by
    refine XS.iload X9.here hexec rfl (hb hbytes d3) rfl ?_
    refine XS.iload X9.here hexec rfl (hb hbytes d5) rfl ?_
    refine XS.icmpYes X9.here hexec rfl (pc0 := 7) rfl (hb hbytes d7) rfl (ii_ge_t (nlt32 (by omega) (Nat.le_refl _))) (by decide) rfl ?_
    refine XS.iload X9.here hexec rfl (hb hbytes d44) rfl ?_
    exact Steps.refl _)
  exact ⟨T9, some (.int (Int32.ofNat len)), _, _, _, X9, by simp, rfl, rfl, (fun h => by cases h), ⟨rfl, B9, p9.from hh0, f9⟩, fun fs hl => c11.trans (X9.ireturnOut hexec hret rfl (Or.inl rfl) (hb hbytes d46) hl)⟩
end Cmp5
namespace Cmp3
def yN : MethodName := ⟨"java/lang/StringUTF16", "compress", "([CII)[B"⟩
abbrev yB : ByteArray := jdk_52_method_16_code
theorem d0 : decode yB 0 = .ok (.iload_n 2, 1) := by decide +kernel
theorem d1 : decode yB 1 = .ok (.newarray .byte, 2) := by decide +kernel
theorem d3 : decode yB 3 = .ok (.astore_n 3, 1) := by decide +kernel
theorem d4 : decode yB 4 = .ok (.aload_n 0, 1) := by decide +kernel
theorem d5 : decode yB 5 = .ok (.iload_n 1, 1) := by decide +kernel
theorem d6 : decode yB 6 = .ok (.aload_n 3, 1) := by decide +kernel
theorem d7 : decode yB 7 = .ok (.iconst 0, 1) := by decide +kernel
theorem d8 : decode yB 8 = .ok (.iload_n 2, 1) := by decide +kernel
theorem d9 : decode yB 9 = .ok (.invokestatic 115, 3) := by decide +kernel
theorem d12 : decode yB 12 = .ok (.istore 4, 2) := by decide +kernel
theorem d14 : decode yB 14 = .ok (.iload 4, 2) := by decide +kernel
theorem d16 : decode yB 16 = .ok (.iload_n 2, 1) := by decide +kernel
theorem d17 : decode yB 17 = .ok (.if_icmp (.eq) 40, 3) := by decide +kernel
theorem d57 : decode yB 57 = .ok (.aload_n 3, 1) := by decide +kernel
theorem d58 : decode yB 58 = .ok (.areturn, 1) := by decide +kernel
def site : List Cond := [.arrayClass .byte, Cmp5.tab] ++ staticW U16 115 Cmp5.yN
def tab : Cond := tabOf yN yB 6 (some (.array .byte)) site
def P (b : Addr) (A : Cell) (o len : Nat) (args : Array Value) (s : State) : Prop := args = #[.ref b, .int (Int32.ofNat o), .int (Int32.ofNat len)] ∧ Ch b A s ∧ o + len ≤ A.slots.size ∧ len ≤ 536870912 ∧ ∀ i, i < len → ¬ 255 < cv A (o + i)
def E (b : Addr) (A : Cell) (o len : Nat) (r : Option Value) (s u : State) : Prop := NewArr .byte "[B" len (fun j => .int (lo8 (cv A (o + j)))) r s u ∧ u.heap.size = s.heap.size + 1
/-- no char of the range above 255: a new byte[] of their low bytes -/
theorem law (l : Launch) (b : Addr) (A : Cell) (o len : Nat) : Law l yN 3 3 1 18 yB 6 (some (.array .byte)) site (P b A o len) (E b A o len) [] 1 len := by
  refine Law.of_walk (plainFor_of_name (by decide +kernel)) (by decide +kernel) (by decide +kernel) (by decide) (fun _ _ h => by rw [h.1]; rfl) (fun _ U U' hal hh h => ⟨h.1, h.2.1.mv hal hh, h.2.2⟩) (fun r U U' V V' h1 hal h2 h => ⟨NewArr.mv r U U' V V' h1 hal h2 h.1, by rw [h1, h2]; exact h.2⟩) ?_
  intro p e s m args below meth c s₁ X0 hexec hbytes hml hret hlk hnm hown hh0 W hP
  obtain ⟨rfl, hA, l1, l2, hp⟩ := hP
  have a31 := hA.1.2.2.2
  have c1 : Steps p.tables e below (s₁.setTop (entryFrame m #[.ref b, .int (Int32.ofNat o), .int (Int32.ofNat len)] 6)) (s₁.setTop (mkF m 0 #[.val (.ref b), .val (.int (Int32.ofNat o)), .val (.int (Int32.ofNat len)), .unset, .unset, .unset] [])) := entry rfl
  have c2 : Steps p.tables e below (s₁.setTop (entryFrame m #[.ref b, .int (Int32.ofNat o), .int (Int32.ofNat len)] 6)) (s₁.setTop (mkF m 1 #[.val (.ref b), .val (.int (Int32.ofNat o)), .val (.int (Int32.ofNat len)), .unset, .unset, .unset] [.int (Int32.ofNat len)])) := c1.trans (by
    refine XS.iloadN X0.here hexec rfl (hb hbytes d0) rfl ?_
    exact Steps.refl _)
  obtain ⟨T3, B3, X3, ba3, bs3, bv3, bh3, bf3, st3⟩ := X0.anew hexec (atype := .byte) (wk W (.arrayClass .byte)) rfl (by show len * 1 ≤ _; omega) (by omega) (g := (mkF m 1 #[.val (.ref b), .val (.int (Int32.ofNat o)), .val (.int (Int32.ofNat len)), .unset, .unset, .unset] [.int (Int32.ofNat len)])) rfl (hb hbytes d1) (rest := []) rfl (Nat.le_refl _) (by show 0 + len ≤ len; omega)
  rw [hh0] at ba3 st3
  have kp3 : XT.Kept s T3 := (XT.Kept.of_eq hh0).push bh3
  have hA3 := hA.keep X3.warmed.alike (kp3 _ _ hA.1.1)
  have hne : b ≠ s.heap.size := hA.1.ne
  have c4 : Steps p.tables e below (s₁.setTop (entryFrame m #[.ref b, .int (Int32.ofNat o), .int (Int32.ofNat len)] 6)) (T3.setTop (mkF m 3 #[.val (.ref b), .val (.int (Int32.ofNat o)), .val (.int (Int32.ofNat len)), .unset, .unset, .unset] [.ref s.heap.size])) := c2.trans (st3 _ (Steps.refl _))
  have c5 : Steps p.tables e below (s₁.setTop (entryFrame m #[.ref b, .int (Int32.ofNat o), .int (Int32.ofNat len)] 6)) (T3.setTop (mkF m 9 #[.val (.ref b), .val (.int (Int32.ofNat o)), .val (.int (Int32.ofNat len)), .val (.ref s.heap.size), .unset, .unset] [.int (Int32.ofNat len), .int 0, .ref s.heap.size, .int (Int32.ofNat o), .ref b])) := c4.trans (by
    refine XS.astoreN X3.here hexec rfl (hb hbytes d3) rfl rfl rfl ?_
    refine XS.aloadN X3.here hexec rfl (hb hbytes d4) rfl rfl ?_
    refine XS.iloadN X3.here hexec rfl (hb hbytes d5) rfl ?_
    refine XS.aloadN X3.here hexec rfl (hb hbytes d6) rfl rfl ?_
    refine iconstV X3.here hexec rfl 0 (hb hbytes d7) (by decide) ?_
    refine XS.iloadN X3.here hexec rfl (hb hbytes d8) rfl ?_
    exact Steps.refl _)
  obtain ⟨v6, T6, X6, E6, g6⟩ := X3.callS hexec (Cmp5.law l b A s.heap.size B3 o 0 len) hown (wks W (staticW U16 115 Cmp5.yN)) (wk W Cmp5.tab) (W := 0) (Nat.le_of_ble_eq_true rfl) (Nat.le_of_ble_eq_true rfl) (Nat.le_refl _) (by show 0 + len + 0 ≤ len; omega) (g := (mkF m 9 #[.val (.ref b), .val (.int (Int32.ofNat o)), .val (.int (Int32.ofNat len)), .val (.ref s.heap.size), .unset, .unset] [.int (Int32.ofNat len), .int (Int32.ofNat 0), .ref s.heap.size, .int (Int32.ofNat o), .ref b])) rfl (by rw [hml]; rfl) c5 (argsL := [.ref b, .int (Int32.ofNat o), .ref s.heap.size, .int (Int32.ofNat 0), .int (Int32.ofNat len)]) (rest := []) rfl rfl (by show 2 * 0 + 0 ≤ _; decide) (hb hbytes d9) (⟨rfl, hA3, ba3, hne, l1, by rw [bs3]; simp, hp⟩)
  obtain ⟨rfl, B6, p6, f6⟩ := E6
  have c7 : Steps p.tables e below (s₁.setTop (entryFrame m #[.ref b, .int (Int32.ofNat o), .int (Int32.ofNat len)] 6)) (T6.setTop (mkF m 12 #[.val (.ref b), .val (.int (Int32.ofNat o)), .val (.int (Int32.ofNat len)), .val (.ref s.heap.size), .unset, .unset] [.int (Int32.ofNat len)])) := g6
  have c8 : Steps p.tables e below (s₁.setTop (entryFrame m #[.ref b, .int (Int32.ofNat o), .int (Int32.ofNat len)] 6)) (T6.setTop (mkF m 58 #[.val (.ref b), .val (.int (Int32.ofNat o)), .val (.int (Int32.ofNat len)), .val (.ref s.heap.size), .val (.int (Int32.ofNat len)), .unset] [.ref s.heap.size])) := c7.trans (by
    refine XS.istore X6.here hexec rfl (hb hbytes d12) rfl rfl ?_
    refine XS.iload X6.here hexec rfl (hb hbytes d14) rfl ?_
    refine XS.iloadN X6.here hexec rfl (hb hbytes d16) rfl ?_
    refine XS.icmpYes X6.here hexec rfl (pc0 := 17) rfl (hb hbytes d17) rfl (ii_eq_t rfl) (by decide) rfl ?_
    refine XS.aloadN X6.here hexec rfl (hb hbytes d57) rfl rfl ?_
    exact Steps.refl _)
  have X8 := X6.wide (L' := []) (cells' := 1) (slots' := len) (fun x hx hlt => by
    simp only [List.nil_append, copyLocs, List.mem_map, List.mem_range] at hx
    obtain ⟨i, -, rfl⟩ := hx
    exact absurd hlt (Nat.lt_irrefl _)) (Nat.le_refl _) (by omega)
  exact ⟨T6, some (.ref s.heap.size), _, _, _, X8, rfl, rfl, rfl, (fun h => by cases h), ⟨⟨rfl, B6, ba3.like (X3.warmed.alike.symm.trans X6.warmed.alike) p6.1 f6.1 f6.2.1 f6.2.2.1, f6.2.1.trans bv3, by rw [X6.warmed.alike.findClass, f6.1]; exact bf3, by rw [f6.2.2.1, bs3]; simp, fun j hj => by rw [f6.2.2.2 j, if_pos (by omega)]; rfl, kp3.put p6 (Nat.le_refl _)⟩, by rw [p6.2.2, bh3, hh0]; simp⟩, fun fs hl => c8.trans (X8.areturnOut hexec rfl hret rfl (hb hbytes d58) hl)⟩
end Cmp3
namespace CodL
def yN : MethodName := ⟨"java/lang/StringUTF16", "coderFromArrayLen", "([BI)B"⟩
abbrev yB : ByteArray := jdk_52_method_15_code
theorem d0 : decode yB 0 = .ok (.iload_n 1, 1) := by decide +kernel
theorem d1 : decode yB 1 = .ok (.aload_n 0, 1) := by decide +kernel
theorem d2 : decode yB 2 = .ok (.arraylength, 1) := by decide +kernel
theorem d3 : decode yB 3 = .ok (.isub, 1) := by decide +kernel
theorem d4 : decode yB 4 = .ok (.bipush 31, 2) := by decide +kernel
theorem d6 : decode yB 6 = .ok (.iushr, 1) := by decide +kernel
theorem d7 : decode yB 7 = .ok (.i2b, 1) := by decide +kernel
theorem d8 : decode yB 8 = .ok (.ireturn, 1) := by decide +kernel
def site : List Cond := []
def tab : Cond := tabOf yN yB 2 (some .byte) site
def P (d : Addr) (B : Cell) (args : Array Value) (s : State) : Prop := args = #[.ref d, .int (Int32.ofNat B.slots.size)] ∧ Arr .byte d B s
def E (r : Option Value) (s u : State) : Prop := XT.PureE (some (.int 0)) r s u
/-- an array as long as the number of chars: LATIN1 -/
theorem law (l : Launch) (d : Addr) (B : Cell) : Law l yN 2 2 0 0 yB 2 (some .byte) site (P d B) E [] 0 0 := by
  refine Law.of_walk (plainFor_of_name (by decide +kernel)) (by decide +kernel) (by decide +kernel) (by decide) (fun _ _ h => by rw [h.1]; rfl) (fun _ U U' hal hh h => ⟨h.1, h.2.mv hal hh⟩) (fun r U U' V V' h1 hal h2 h => XT.PureE.mv r U U' V V' h1 hal h2 h) ?_
  intro p e s m args below meth c s₁ X0 hexec hbytes hml hret hlk hnm hown hh0 W hP
  obtain ⟨rfl, hB⟩ := hP
  have hB0 := hB.mv X0.warmed.alike hh0
  have c1 : Steps p.tables e below (s₁.setTop (entryFrame m #[.ref d, .int (Int32.ofNat B.slots.size)] 2)) (s₁.setTop (mkF m 0 #[.val (.ref d), .val (.int (Int32.ofNat B.slots.size))] [])) := entry rfl
  have c2 : Steps p.tables e below (s₁.setTop (entryFrame m #[.ref d, .int (Int32.ofNat B.slots.size)] 2)) (s₁.setTop (mkF m 2 #[.val (.ref d), .val (.int (Int32.ofNat B.slots.size))] [.ref d, .int (Int32.ofNat B.slots.size)])) := c1.trans (by
    refine XS.iloadN X0.here hexec rfl (hb hbytes d0) rfl ?_
    refine XS.aloadN X0.here hexec rfl (hb hbytes d1) rfl rfl ?_
    exact Steps.refl _)
  have c3 : Steps p.tables e below (s₁.setTop (entryFrame m #[.ref d, .int (Int32.ofNat B.slots.size)] 2)) (s₁.setTop (mkF m 8 #[.val (.ref d), .val (.int (Int32.ofNat B.slots.size))] [.int (lo8 (ushr (Int32.ofNat B.slots.size - Int32.ofNat B.slots.size) 31))])) := c2.trans (by
    refine X0.alen hexec hB0 rfl rfl (hb hbytes d2) ?_
    refine XS.isub X0.here hexec rfl (hb hbytes d3) rfl ?_
    refine bipushV X0.here hexec rfl 31 (hb hbytes d4) (by decide) ?_
    refine iushr X0.here hexec rfl (hb hbytes d6) rfl ?_
    refine i2b X0.here hexec rfl (hb hbytes d7) rfl ?_
    exact Steps.refl _)
  have e0 : lo8 (ushr (Int32.ofNat B.slots.size - Int32.ofNat B.slots.size) 31) = 0 := by rw [Int32.sub_self]; decide
  rw [e0] at c3
  exact ⟨s₁, some (.int 0), _, _, _, X0, rfl, rfl, rfl, (fun h => by cases h), ⟨rfl, hh0⟩, fun fs hl => c3.trans (X0.ireturnOut hexec hret rfl (Or.inr (Or.inr (Or.inl rfl))) (hb hbytes d8) hl)⟩
end CodL
/-- the String at a is Latin-1 over a new byte[] (the heap's one new cell): the low bytes of the len chars of A from o on; every cell but a is kept -/
def Got (a : Addr) (D : Cell) (fV fC : Field) (A : Cell) (o len : Nat) (r : Option Value) (s u : State) : Prop := r = none ∧ ∃ D' V : Cell, Blank "java/lang/String" a D' u ∧ Same D D' [fV.slot, fC.slot] ∧ D'.slots[fV.slot]? = some (.ref s.heap.size) ∧ D'.slots[fC.slot]? = some (.int 0) ∧ Arr .byte s.heap.size V u ∧ V.vm = .none ∧ u.vm.findClass "[B" = some V.cls ∧ V.slots.size = len ∧ (∀ j, j < len → V.slots[j]? = some (.int (lo8 (cv A (o + j))))) ∧ (∀ (y : Addr) (c : Cell), y ≠ a → s.heap[y]? = some c → u.heap[y]? = some c) ∧ u.heap.size = s.heap.size + 1
theorem Got.mv {a : Addr} {D A : Cell} {fV fC : Field} {o len : Nat} : ∀ r (U U' V V' : State), U'.heap = U.heap → V.vm.Alike V'.vm → V'.heap = V.heap → Got a D fV fC A o len r U V → Got a D fV fC A o len r U' V' :=
  fun r U U' V V' h1 hal h2 ⟨e0, D', X, a1, a2, a3, a4, a5, a6, a7, a8, a9, a10, a11⟩ => ⟨e0, D', X, a1.mv hal h2, a2, by rw [h1]; exact a3, a4, by rw [h1]; exact a5.mv hal h2, a6, by rw [hal.findClass]; exact a7, a8, a9, by rw [h1, h2]; exact a10, by rw [h1, h2]; exact a11⟩
namespace New4
def yN : MethodName := ⟨"java/lang/String", "<init>", "([CIILjava/lang/Void;)V"⟩
abbrev yB : ByteArray := jdk_42_method_149_code
theorem d0 : decode yB 0 = .ok (.aload_n 0, 1) := by decide +kernel
theorem d1 : decode yB 1 = .ok (.invokespecial 1, 3) := by decide +kernel
theorem d4 : decode yB 4 = .ok (.iload_n 3, 1) := by decide +kernel
theorem d5 : decode yB 5 = .ok (.ifCond (.ne) 22, 3) := by decide +kernel
theorem d27 : decode yB 27 = .ok (.getstatic 38, 3) := by decide +kernel
theorem d30 : decode yB 30 = .ok (.ifCond (.eq) 28, 3) := by decide +kernel
theorem d33 : decode yB 33 = .ok (.aload_n 1, 1) := by decide +kernel
theorem d34 : decode yB 34 = .ok (.iload_n 2, 1) := by decide +kernel
theorem d35 : decode yB 35 = .ok (.iload_n 3, 1) := by decide +kernel
theorem d36 : decode yB 36 = .ok (.invokestatic 177, 3) := by decide +kernel
theorem d39 : decode yB 39 = .ok (.astore 5, 2) := by decide +kernel
theorem d41 : decode yB 41 = .ok (.aload_n 0, 1) := by decide +kernel
theorem d42 : decode yB 42 = .ok (.aload 5, 2) := by decide +kernel
theorem d44 : decode yB 44 = .ok (.iload_n 3, 1) := by decide +kernel
theorem d45 : decode yB 45 = .ok (.invokestatic 47, 3) := by decide +kernel
theorem d48 : decode yB 48 = .ok (.putfield 15, 3) := by decide +kernel
theorem d51 : decode yB 51 = .ok (.aload_n 0, 1) := by decide +kernel
theorem d52 : decode yB 52 = .ok (.aload 5, 2) := by decide +kernel
theorem d54 : decode yB 54 = .ok (.putfield 9, 3) := by decide +kernel
theorem d57 : decode yB 57 = .ok (.return_, 1) := by decide +kernel
def site : List Cond := [.fieldLink "java/lang/String" 38 "java/lang/String" "COMPACT_STRINGS" "Z", Cmp3.tab, CodL.tab, .laysFinal "java/lang/String" "java/lang/String" "value" "[B", .fieldLink "java/lang/String" 9 "java/lang/String" "value" "[B", .laysFinal "java/lang/String" "java/lang/String" "coder" "B", .fieldLink "java/lang/String" 15 "java/lang/String" "coder" "B"] ++ objW "java/lang/String" 1 ++ staticW "java/lang/String" 177 Cmp3.yN ++ staticW "java/lang/String" 47 CodL.yN
def tab : Cond := tabOf yN yB 6 none site
def P (a : Addr) (D : Cell) (fV fC : Field) (b : Addr) (A : Cell) (z : Int32) (o len : Nat) (args : Array Value) (s : State) : Prop := args = #[.ref a, .ref b, .int (Int32.ofNat o), .int (Int32.ofNat len), .null] ∧ Blank "java/lang/String" a D s ∧ Found "java/lang/String" "value" "[B" fV s ∧ Found "java/lang/String" "coder" "B" fC s ∧ Ch b A s ∧ StaticIs s "java/lang/String" "COMPACT_STRINGS" "Z" (.int z) ∧ ¬ z = 0 ∧ 0 < len ∧ o + len ≤ A.slots.size ∧ len ≤ 536870912 ∧ ∀ i, i < len → ¬ 255 < cv A (o + i)
def E (a : Addr) (D : Cell) (fV fC : Field) (A : Cell) (o len : Nat) (r : Option Value) (s u : State) : Prop := Got a D fV fC A o len r s u
/-- len > 0, no char of the range above 255: a Latin-1 String of their low bytes -/
theorem law (l : Launch) (a : Addr) (D : Cell) (fV fC : Field) (b : Addr) (A : Cell) (z : Int32) (o len : Nat) : Law l yN 5 4 2 35 yB 6 none site (P a D fV fC b A z o len) (E a D fV fC A o len) [⟨a, fC.slot⟩, ⟨a, fV.slot⟩] 1 len := by
  refine Law.of_walk (plainFor_of_name (by decide +kernel)) (by decide +kernel) (by decide +kernel) (by decide) (fun _ _ h => by rw [h.1]; rfl) (fun _ U U' hal hh h => ⟨h.1, h.2.1.mv hal hh, h.2.2.1.al hal, h.2.2.2.1.al hal, h.2.2.2.2.1.mv hal hh, h.2.2.2.2.2.1.there hal hh, h.2.2.2.2.2.2⟩) (fun r U U' V V' h1 hal h2 h => Got.mv r U U' V V' h1 hal h2 h) ?_
  intro p e s m args below meth c s₁ X0 hexec hbytes hml hret hlk hnm hown hh0 W hP
  obtain ⟨rfl, hB, f1, f2, hA, s1, hz, l0, l1, l2, hp⟩ := hP
  have a31 := hA.1.2.2.2
  have c1 : Steps p.tables e below (s₁.setTop (entryFrame m #[.ref a, .ref b, .int (Int32.ofNat o), .int (Int32.ofNat len), .null] 6)) (s₁.setTop (mkF m 0 #[.val (.ref a), .val (.ref b), .val (.int (Int32.ofNat o)), .val (.int (Int32.ofNat len)), .val .null, .unset] [])) := entry rfl
  have c2 : Steps p.tables e below (s₁.setTop (entryFrame m #[.ref a, .ref b, .int (Int32.ofNat o), .int (Int32.ofNat len), .null] 6)) (s₁.setTop (mkF m 1 #[.val (.ref a), .val (.ref b), .val (.int (Int32.ofNat o)), .val (.int (Int32.ofNat len)), .val .null, .unset] [.ref a])) := c1.trans (by
    refine XS.aloadN X0.here hexec rfl (hb hbytes d0) rfl rfl ?_
    exact Steps.refl _)
  obtain ⟨T3, X3, q3, st3⟩ := X0.oinit hexec hown (wks W (objW "java/lang/String" 1)) (g := (mkF m 1 #[.val (.ref a), .val (.ref b), .val (.int (Int32.ofNat o)), .val (.int (Int32.ofNat len)), .val .null, .unset] [.ref a])) rfl (by rw [hml]; rfl) (rest := []) rfl (hb hbytes d1) (W := 0) (by show 2 * 0 + 0 ≤ _; decide) (Nat.le_of_ble_eq_true rfl) (Nat.le_of_ble_eq_true rfl)
  have hh3 := q3.trans hh0
  have c4 : Steps p.tables e below (s₁.setTop (entryFrame m #[.ref a, .ref b, .int (Int32.ofNat o), .int (Int32.ofNat len), .null] 6)) (T3.setTop (mkF m 27 #[.val (.ref a), .val (.ref b), .val (.int (Int32.ofNat o)), .val (.int (Int32.ofNat len)), .val .null, .unset] [])) := (c2.trans (st3 _ (Steps.refl _))).trans (by
    refine XS.iloadN X3.here hexec rfl (hb hbytes d4) rfl ?_
    refine XS.ifYes X3.here hexec rfl (pc0 := 5) rfl (hb hbytes d5) rfl (i0_ne_t (nz32 (by omega) l0)) (by decide) rfl ?_
    exact Steps.refl _)
  obtain ⟨T5, X5, q5, st5⟩ := X3.sget hexec hown (wk W (.fieldLink "java/lang/String" 38 "java/lang/String" "COMPACT_STRINGS" "Z")) s1 (fun _ _ h => by rw [hh3]; exact h) (g := (mkF m 27 #[.val (.ref a), .val (.ref b), .val (.int (Int32.ofNat o)), .val (.int (Int32.ofNat len)), .val .null, .unset] [])) rfl (hb hbytes d27)
  have hh5 := q5.trans hh3
  have c6 : Steps p.tables e below (s₁.setTop (entryFrame m #[.ref a, .ref b, .int (Int32.ofNat o), .int (Int32.ofNat len), .null] 6)) (T5.setTop (mkF m 30 #[.val (.ref a), .val (.ref b), .val (.int (Int32.ofNat o)), .val (.int (Int32.ofNat len)), .val .null, .unset] [.int z])) := c4.trans (st5 _ (Steps.refl _))
  have c7 : Steps p.tables e below (s₁.setTop (entryFrame m #[.ref a, .ref b, .int (Int32.ofNat o), .int (Int32.ofNat len), .null] 6)) (T5.setTop (mkF m 36 #[.val (.ref a), .val (.ref b), .val (.int (Int32.ofNat o)), .val (.int (Int32.ofNat len)), .val .null, .unset] [.int (Int32.ofNat len), .int (Int32.ofNat o), .ref b])) := c6.trans (by
    refine XS.ifNo X5.here hexec rfl (hb hbytes d30) rfl (i0_eq_f hz) ?_
    refine XS.aloadN X5.here hexec rfl (hb hbytes d33) rfl rfl ?_
    refine XS.iloadN X5.here hexec rfl (hb hbytes d34) rfl ?_
    refine XS.iloadN X5.here hexec rfl (hb hbytes d35) rfl ?_
    exact Steps.refl _)
  obtain ⟨v8, T8, X8, E8, g8⟩ := X5.callS hexec (Cmp3.law l b A o len) hown (wks W (staticW "java/lang/String" 177 Cmp3.yN)) (wk W Cmp3.tab) (W := 0) (Nat.le_of_ble_eq_true rfl) (Nat.le_of_ble_eq_true rfl) (Nat.le_refl _) (by show 0 + len ≤ len; omega) (g := (mkF m 36 #[.val (.ref a), .val (.ref b), .val (.int (Int32.ofNat o)), .val (.int (Int32.ofNat len)), .val .null, .unset] [.int (Int32.ofNat len), .int (Int32.ofNat o), .ref b])) rfl (by rw [hml]; rfl) c7 (argsL := [.ref b, .int (Int32.ofNat o), .int (Int32.ofNat len)]) (rest := []) rfl rfl (by show 2 * 0 + 0 ≤ _; decide) (hb hbytes d36) (⟨rfl, hA.mv X5.warmed.alike hh5, l1, l2, hp⟩)
  obtain ⟨e8, z8⟩ := E8
  obtain ⟨rfl, N, n1, n2, n3, n4, n5, n6⟩ := NewArr.mv _ T5 s _ _ hh5.symm (Vm.Alike.refl _) rfl e8
  rw [hh5] at z8
  have hB1 := hB.keep X8.warmed.alike (n6 _ _ hB.1)
  have hne : s.heap.size ≠ a := (Nat.ne_of_lt (Array.getElem?_eq_some_iff.mp hB.1).1).symm
  have c9 : Steps p.tables e below (s₁.setTop (entryFrame m #[.ref a, .ref b, .int (Int32.ofNat o), .int (Int32.ofNat len), .null] 6)) (T8.setTop (mkF m 39 #[.val (.ref a), .val (.ref b), .val (.int (Int32.ofNat o)), .val (.int (Int32.ofNat len)), .val .null, .unset] [.ref s.heap.size])) := g8
  have c10 : Steps p.tables e below (s₁.setTop (entryFrame m #[.ref a, .ref b, .int (Int32.ofNat o), .int (Int32.ofNat len), .null] 6)) (T8.setTop (mkF m 45 #[.val (.ref a), .val (.ref b), .val (.int (Int32.ofNat o)), .val (.int (Int32.ofNat len)), .val .null, .val (.ref s.heap.size)] [.int (Int32.ofNat N.slots.size), .ref s.heap.size, .ref a])) := by
    have hc : Steps p.tables e below (s₁.setTop (entryFrame m #[.ref a, .ref b, .int (Int32.ofNat o), .int (Int32.ofNat len), .null] 6)) (T8.setTop (mkF m 45 #[.val (.ref a), .val (.ref b), .val (.int (Int32.ofNat o)), .val (.int (Int32.ofNat len)), .val .null, .val (.ref s.heap.size)] [.int (Int32.ofNat len), .ref s.heap.size, .ref a])) := c9.trans (by
      refine XS.astore X8.here hexec rfl (hb hbytes d39) rfl rfl rfl ?_
      refine XS.aloadN X8.here hexec rfl (hb hbytes d41) rfl rfl ?_
      refine XS.aload X8.here hexec rfl (hb hbytes d42) rfl rfl ?_
      refine XS.iloadN X8.here hexec rfl (hb hbytes d44) rfl ?_
      exact Steps.refl _)
    rw [n4]; exact hc
  obtain ⟨v11, T11, X11, E11, g11⟩ := X8.callS hexec (CodL.law l s.heap.size N) hown (wks W (staticW "java/lang/String" 47 CodL.yN)) (wk W CodL.tab) (W := 1) (Nat.le_of_ble_eq_true rfl) (Nat.le_of_ble_eq_true rfl) (Nat.le_refl _) (by show 0 + len + 0 ≤ len; omega) (g := (mkF m 45 #[.val (.ref a), .val (.ref b), .val (.int (Int32.ofNat o)), .val (.int (Int32.ofNat len)), .val .null, .val (.ref s.heap.size)] [.int (Int32.ofNat N.slots.size), .ref s.heap.size, .ref a])) rfl (by rw [hml]; rfl) c10 (argsL := [.ref s.heap.size, .int (Int32.ofNat N.slots.size)]) (rest := [.ref a]) rfl rfl (by show 2 * 0 + (1 + 0) ≤ _; decide) (hb hbytes d45) (⟨rfl, n1⟩)
  obtain ⟨rfl, q11⟩ := E11
  have hB11 := hB1.mv (X8.warmed.alike.symm.trans X11.warmed.alike) q11
  have c12 : Steps p.tables e below (s₁.setTop (entryFrame m #[.ref a, .ref b, .int (Int32.ofNat o), .int (Int32.ofNat len), .null] 6)) (T11.setTop (mkF m 48 #[.val (.ref a), .val (.ref b), .val (.int (Int32.ofNat o)), .val (.int (Int32.ofNat len)), .val .null, .val (.ref s.heap.size)] [.int 0, .ref a])) := g11
  obtain ⟨T13, X13, p13, bl13, sl13, st13⟩ := X11.finit hexec hown (wk W (.fieldLink "java/lang/String" 15 "java/lang/String" "coder" "B")) (Or.inr ⟨_, (wk W (.laysFinal "java/lang/String" "java/lang/String" "coder" "B"))⟩) (Or.inl ⟨rfl, hnm⟩) f2 (Or.inl rfl) hB11 (t := .byte) (by decide +kernel) rfl (g := (mkF m 48 #[.val (.ref a), .val (.ref b), .val (.int (Int32.ofNat o)), .val (.int (Int32.ofNat len)), .val .null, .val (.ref s.heap.size)] [.int 0, .ref a])) rfl (rest := []) rfl (hb hbytes d48)
  have c14 : Steps p.tables e below (s₁.setTop (entryFrame m #[.ref a, .ref b, .int (Int32.ofNat o), .int (Int32.ofNat len), .null] 6)) (T13.setTop (mkF m 54 #[.val (.ref a), .val (.ref b), .val (.int (Int32.ofNat o)), .val (.int (Int32.ofNat len)), .val .null, .val (.ref s.heap.size)] [.ref s.heap.size, .ref a])) := (c12.trans (st13 _ (Steps.refl _))).trans (by
    refine XS.aloadN X13.here hexec rfl (hb hbytes d51) rfl rfl ?_
    refine XS.aload X13.here hexec rfl (hb hbytes d52) rfl rfl ?_
    exact Steps.refl _)
  obtain ⟨T15, X15, p15, bl15, sl15, st15⟩ := X13.finit hexec hown (wk W (.fieldLink "java/lang/String" 9 "java/lang/String" "value" "[B")) (Or.inr ⟨_, (wk W (.laysFinal "java/lang/String" "java/lang/String" "value" "[B"))⟩) (Or.inl ⟨rfl, hnm⟩) f1 (Or.inl rfl) bl13 (t := (.array .byte)) (by decide +kernel) rfl (g := (mkF m 54 #[.val (.ref a), .val (.ref b), .val (.int (Int32.ofNat o)), .val (.int (Int32.ofNat len)), .val .null, .val (.ref s.heap.size)] [.ref s.heap.size, .ref a])) rfl (rest := []) rfl (hb hbytes d54)
  have c16 : Steps p.tables e below (s₁.setTop (entryFrame m #[.ref a, .ref b, .int (Int32.ofNat o), .int (Int32.ofNat len), .null] 6)) (T15.setTop (mkF m 57 #[.val (.ref a), .val (.ref b), .val (.int (Int32.ofNat o)), .val (.int (Int32.ofNat len)), .val .null, .val (.ref s.heap.size)] [])) := c14.trans (st15 _ (Steps.refl _))
  have ap := apart (Or.inr ⟨_, (wk W (.laysFinal "java/lang/String" "java/lang/String" "value" "[B"))⟩) (Or.inr ⟨_, (wk W (.laysFinal "java/lang/String" "java/lang/String" "coder" "B"))⟩) f1 f2 (t₁ := .array .byte) (t₂ := .byte) (by decide +kernel) (by decide +kernel) (by decide)
  have al := X8.warmed.alike.symm.trans X15.warmed.alike
  have n7 : T11.heap[s.heap.size]? = some N := by rw [q11]; exact n1.1
  exact ⟨T15, none, _, _, _, X15, by simp, rfl, by omega, (fun _ => rfl), ⟨rfl, _, N, bl15, ((Same.refl D _).set _ (by simp)).set _ (by simp), sl15, (Cell.slots_setSlot_ne _ ap).trans sl13, n1.keep al (p15.other hne (p13.other hne n7)), n2, by rw [al.findClass]; exact n3, n4, n5, fun y c h1 h2 => p15.other h1 (p13.other h1 (by rw [q11]; exact n6 y c h2)), by rw [p15.2.2, p13.2.2, q11]; exact z8⟩, fun fs hl => c16.trans (X15.returnOut hexec hret (hb hbytes d57) hl)⟩
end New4
namespace New1
def yN : MethodName := ⟨"java/lang/String", "<init>", "([C)V"⟩
abbrev yB : ByteArray := jdk_42_method_3_code
theorem d0 : decode yB 0 = .ok (.aload_n 0, 1) := by decide +kernel
theorem d1 : decode yB 1 = .ok (.aload_n 1, 1) := by decide +kernel
theorem d2 : decode yB 2 = .ok (.iconst 0, 1) := by decide +kernel
theorem d3 : decode yB 3 = .ok (.aload_n 1, 1) := by decide +kernel
theorem d4 : decode yB 4 = .ok (.arraylength, 1) := by decide +kernel
theorem d5 : decode yB 5 = .ok (.aconst_null, 1) := by decide +kernel
theorem d6 : decode yB 6 = .ok (.invokespecial 27, 3) := by decide +kernel
theorem d9 : decode yB 9 = .ok (.return_, 1) := by decide +kernel
def site : List Cond := [New4.tab] ++ initW "java/lang/String" 27 New4.yN
def tab : Cond := tabOf yN yB 2 none site
def P (a : Addr) (D : Cell) (fV fC : Field) (b : Addr) (A : Cell) (z : Int32) (args : Array Value) (s : State) : Prop := args = #[.ref a, .ref b] ∧ Blank "java/lang/String" a D s ∧ Found "java/lang/String" "value" "[B" fV s ∧ Found "java/lang/String" "coder" "B" fC s ∧ Ch b A s ∧ StaticIs s "java/lang/String" "COMPACT_STRINGS" "Z" (.int z) ∧ ¬ z = 0 ∧ 0 < A.slots.size ∧ A.slots.size ≤ 536870912 ∧ ∀ i, i < A.slots.size → ¬ 255 < cv A i
def E (a : Addr) (D : Cell) (fV fC : Field) (A : Cell) (r : Option Value) (s u : State) : Prop := Got a D fV fC A 0 A.slots.size r s u
/-- new String(chars), not empty, no char above 255: a Latin-1 String of their low bytes -/
theorem law (l : Launch) (a : Addr) (D : Cell) (fV fC : Field) (b : Addr) (A : Cell) (z : Int32) : Law l yN 2 1 3 52 yB 2 none site (P a D fV fC b A z) (E a D fV fC A) [⟨a, fC.slot⟩, ⟨a, fV.slot⟩] 1 A.slots.size := by
  refine Law.of_walk (plainFor_of_name (by decide +kernel)) (by decide +kernel) (by decide +kernel) (by decide) (fun _ _ h => by rw [h.1]; rfl) (fun _ U U' hal hh h => ⟨h.1, h.2.1.mv hal hh, h.2.2.1.al hal, h.2.2.2.1.al hal, h.2.2.2.2.1.mv hal hh, h.2.2.2.2.2.1.there hal hh, h.2.2.2.2.2.2⟩) (fun r U U' V V' h1 hal h2 h => Got.mv r U U' V V' h1 hal h2 h) ?_
  intro p e s m args below meth c s₁ X0 hexec hbytes hml hret hlk hnm hown hh0 W hP
  obtain ⟨rfl, hB, f1, f2, hA, s1, hz, l0, l2, hp⟩ := hP
  have c1 : Steps p.tables e below (s₁.setTop (entryFrame m #[.ref a, .ref b] 2)) (s₁.setTop (mkF m 0 #[.val (.ref a), .val (.ref b)] [])) := entry rfl
  have c2 : Steps p.tables e below (s₁.setTop (entryFrame m #[.ref a, .ref b] 2)) (s₁.setTop (mkF m 6 #[.val (.ref a), .val (.ref b)] [.null, .int (Int32.ofNat A.slots.size), .int 0, .ref b, .ref a])) := c1.trans (by
    refine XS.aloadN X0.here hexec rfl (hb hbytes d0) rfl rfl ?_
    refine XS.aloadN X0.here hexec rfl (hb hbytes d1) rfl rfl ?_
    refine iconstV X0.here hexec rfl 0 (hb hbytes d2) (by decide) ?_
    refine XS.aloadN X0.here hexec rfl (hb hbytes d3) rfl rfl ?_
    refine X0.alen hexec (hA.1.mv X0.warmed.alike hh0) rfl rfl (hb hbytes d4) ?_
    refine XS.aconstNull X0.here hexec rfl (hb hbytes d5) ?_
    exact Steps.refl _)
  obtain ⟨v3, T3, X3, E3, g3⟩ := X0.callN hexec (New4.law l a D fV fC b A z 0 A.slots.size) rfl hown (wks W (initW "java/lang/String" 27 New4.yN)) (W New4.tab (by simp only [site, List.mem_cons, List.mem_append, true_or, or_true])) (W := 0) (Nat.le_of_ble_eq_true rfl) (Nat.le_of_ble_eq_true rfl) (Nat.le_refl _) (by show 0 + A.slots.size ≤ A.slots.size; omega) (g := (mkF m 6 #[.val (.ref a), .val (.ref b)] [.null, .int (Int32.ofNat A.slots.size), .int (Int32.ofNat 0), .ref b, .ref a])) rfl (by rw [hml]; rfl) c2 (argsL := [.ref b, .int (Int32.ofNat 0), .int (Int32.ofNat A.slots.size), .null]) (rest := []) rfl rfl (by show 2 * 0 + 0 ≤ _; decide) (hb hbytes d6) (⟨rfl, hB.mv X0.warmed.alike hh0, f1.al X0.warmed.alike, f2.al X0.warmed.alike, hA.mv X0.warmed.alike hh0, s1.there X0.warmed.alike hh0, hz, l0, by omega, l2, fun i hi => by rw [Nat.zero_add]; exact hp i hi⟩)
  have e0 := Got.mv _ s₁ s _ _ hh0.symm (Vm.Alike.refl _) rfl E3
  obtain rfl := e0.1
  have c4 : Steps p.tables e below (s₁.setTop (entryFrame m #[.ref a, .ref b] 2)) (T3.setTop (mkF m 9 #[.val (.ref a), .val (.ref b)] [])) := g3
  exact ⟨T3, none, _, _, _, X3, by simp, rfl, by omega, (fun _ => rfl), e0, fun fs hl => c4.trans (X3.returnOut hexec hret (hb hbytes d9) hl)⟩
theorem pays {l : Launch} {R : Room} {p : Program} {e : Env} {below : List Frame} {s : State} {sargs : Array Value} {len W : Nat} (a : Addr) (D : Cell) (fV fC : Field) (b : Addr) (A : Cell) (z : Int32) (htab : tab.before sargs s = true) (hfr : 4 ≤ R.frames) (hlo : W + 65 ≤ R.locals) :
    Back l R p e below s sargs yN len W (fun A₁ a₁ => A₁.cells + 1 ≤ R.cells ∧ A₁.slots + A.slots.size ≤ R.slots ∧ P a D fV fC b A z a₁ A₁.U) (fun A₁ _ v₁ B₁ => E a D fV fC A v₁ A₁.U B₁.U ∧ B₁.locs = A₁.locs ++ [⟨a, fC.slot⟩, ⟨a, fV.slot⟩] ∧ B₁.cells = A₁.cells + 1 ∧ B₁.slots = A₁.slots + A.slots.size) :=
  (law l a D fV fC b A z).pays htab hfr (by omega)
end New1
/-- the byte, read back as charAt reads it, is the char -/
theorem lo8_mask {x : Int32} (h0 : ¬ x < 0) (h1 : ¬ 255 < x) : lo8 x &&& 255 = x := by
  have t : ∀ k : Fin 256, lo8 (Int32.ofNat k.val) &&& 255 = Int32.ofNat k.val := by decide +kernel
  rw [Int32.lt_iff_toInt_lt] at h0 h1
  have e0 : (0 : Int32).toInt = 0 := rfl
  have e1 : (255 : Int32).toInt = 255 := rfl
  obtain ⟨k, hk⟩ : ∃ k : Nat, x.toInt = k := ⟨x.toInt.toNat, by omega⟩
  have hx : x = Int32.ofNat k := Int32.toInt_inj.mp (by rw [hk, Int32.toInt_ofNat_small (by omega)])
  rw [hx]
  exact t ⟨k, by omega⟩
end StrChars
namespace StrChars.Road
open Jvm Sem ClassFile Op Lib Jvm.Stand Jvm.Free Jvm.Free.XT
open Jvm.Lib.Cold (StaticIs)
abbrev ST : String := "java/lang/String"
/-- every table word that New1's law asks, flat -/
abbrev words : List Jvm.Cond := [.code New1.yN New1.yB 2 none, .initialized ST, .methodLink ST 27 New4.yN, .instanceMethod New4.yN,
  .code New4.yN New4.yB 6 none, .fieldLink ST 38 ST "COMPACT_STRINGS" "Z", .laysFinal ST ST "value" "[B", .fieldLink ST 9 ST "value" "[B", .laysFinal ST ST "coder" "B", .fieldLink ST 15 ST "coder" "B",
  .methodLink ST 1 Lib.objectInit, .instanceMethod Lib.objectInit, .code Lib.objectInit ⟨#[0xb1]⟩ 1 none, .methodLink ST 177 Cmp3.yN, .static Cmp3.yN, .methodLink ST 47 CodL.yN, .static CodL.yN,
  .code Cmp3.yN Cmp3.yB 6 (some (.array .byte)), .initialized U16, .arrayClass .byte, .methodLink U16 115 Cmp5.yN, .static Cmp5.yN, .code Cmp5.yN Cmp5.yB 7 (some .int), .code CodL.yN CodL.yB 2 (some .byte)]
theorem tab_of {a : Array Value} {s : State} (h : ∀ w ∈ words, w.before a s = true) : New1.tab.before a s = true := by
  have h5 : Cmp5.tab.before a s = true := unparts (wk h (.code Cmp5.yN Cmp5.yB 7 (some .int))) (wks h (.initialized Cmp5.yN.cls :: Cmp5.site))
  have hc : CodL.tab.before a s = true := unparts (wk h (.code CodL.yN CodL.yB 2 (some .byte))) (wks h (.initialized CodL.yN.cls :: CodL.site))
  have q5 : ∀ w ∈ Cmp5.tab :: words, w.before a s = true := fun w hw => (List.mem_cons.mp hw).elim (fun e => e ▸ h5) (h w)
  have h3 : Cmp3.tab.before a s = true := unparts (wk q5 (.code Cmp3.yN Cmp3.yB 6 (some (.array .byte)))) (wks q5 (.initialized Cmp3.yN.cls :: Cmp3.site))
  have q3 : ∀ w ∈ Cmp3.tab :: CodL.tab :: words, w.before a s = true := fun w hw => (List.mem_cons.mp hw).elim (fun e => e ▸ h3) fun hw => (List.mem_cons.mp hw).elim (fun e => e ▸ hc) (h w)
  have h4 : New4.tab.before a s = true := unparts (wk q3 (.code New4.yN New4.yB 6 none)) (wks q3 (.initialized New4.yN.cls :: New4.site))
  have q4 : ∀ w ∈ New4.tab :: words, w.before a s = true := fun w hw => (List.mem_cons.mp hw).elim (fun e => e ▸ h4) (h w)
  exact unparts (wk q4 (.code New1.yN New1.yB 2 none)) (wks q4 (.initialized New1.yN.cls :: New1.site))
/-- the words ride from the start Z to the walk's own state -/
theorem moved {Z s : State} {a0 args : Array Value} (hZ : Z.Warmed39 s.vm) (hw : ∀ d ∈ words, d.before a0 Z = true) : ∀ d ∈ words, d.before args s = true := fun d hd => by
  have q := hw d hd
  have t : ∀ d ∈ words, d = .arrayClass .byte ∨ (d.onTables && d.keepsFace) = true := by decide +kernel
  rcases t d hd with rfl | t
  · exact RoadKit.mvA hZ q
  · exact RoadKit.mv hZ q t
/-- WHAT COMES BACK, over the tables of the start Z: h the heap at the call, h' behind it -/
def Q (Z : State) (x : Addr) (A : Cell) (h : Heap) (v : Option Value) (h' : Heap) (L : List Loc) : Prop := v = none ∧ (∀ y ∈ L, y.base = x) ∧ RoadKit.Keep h h' [x] ∧ h'.size = h.size + 1 ∧ RoadKit.Exa Z h' x ST ∧ RoadKit.Fld Z h' x ST "value" "[B" (.ref h.size) ∧ RoadKit.Fld Z h' x ST "coder" "B" (.int 0) ∧
  (∃ V : Cell, RoadKit.Arr Z h' h.size V .byte ∧ V.vm = .none ∧ Z.vm.findClass "[B" = some V.cls ∧ V.slots.size = A.slots.size ∧ ∀ j, j < A.slots.size → V.slots[j]? = some (.int (lo8 (cv A j)))) ∧
  ∀ (O n d : String) (w : Value), RoadKit.Fld Z h x O n d w → RoadKit.slotOf Z O n d ≠ RoadKit.slotOf Z ST "value" "[B" → RoadKit.slotOf Z O n d ≠ RoadKit.slotOf Z ST "coder" "B" → RoadKit.Fld Z h' x O n d w
/-- **new String(chars) AT A CALL, IN THE ROAD'S FORM**: for specialBack behind newO: x the fresh String, b the char[] with the cell A -/
theorem back {p : Program} {l : Launch} {e : Env} {R : Room} {s : State} {args : Array Value} {below : List Frame} {len W : Nat} {Z : State} {a0 : Array Value} {h : Heap} (hZ : Z.Warmed39 s.vm) (hw : ∀ d ∈ words, d.before a0 Z = true) {kI : Nat} (wi : (Jvm.Cond.instantiable ST kI).before a0 Z = true)
    {x b : Addr} {A : Cell} {z : Int32} {v0 c0 : Value} (E : RoadKit.Exa Z h x ST) (V : RoadKit.Fld Z h x ST "value" "[B" v0) (C : RoadKit.Fld Z h x ST "coder" "B" c0) (K : RoadKit.Arr Z h b A .char) (hty : Typed .char A) (S : RoadKit.Sta Z h ST "COMPACT_STRINGS" "Z" (.int z)) (hz : ¬ z = 0)
    (l0 : 0 < A.slots.size) (l2 : A.slots.size ≤ 536870912) (hp : ∀ i, i < A.slots.size → ¬ 255 < cv A i) (hfr : 4 ≤ R.frames) (hlo : W + 65 ≤ R.locals) :
    Back l R p e below s args New1.yN len W (fun P a => a = #[.ref x, .ref b] ∧ P.U.heap = h ∧ P.cells + 1 ≤ R.cells ∧ P.slots + A.slots.size ≤ R.slots)
      (fun P _ v B => ∃ L, Q Z x A h v B.U.heap L ∧ B.locs = P.locs ++ L ∧ B.cells = P.cells + 1 ∧ B.slots = P.slots + A.slots.size) := by
  intro m meth c P g ig mk a X hg hsize hdg hW hn hp'
  obtain ⟨rfl, rfl, r1, r2⟩ := hp'
  have al : Z.vm.Alike P.U.vm := hZ.alike.trans X.warmed.alike
  obtain ⟨D, cfV, kV, iV, fV, hD, gV, stV, knV, obV, asV, slV⟩ := id V
  obtain ⟨D', cfC, kC, iC, fC, hD', gC, stC, -, -, asC, slC⟩ := id C
  cases hD.symm.trans hD'
  obtain ⟨D2, kD, e1, e2, e3, e4, e5⟩ := id E
  cases hD.symm.trans e1
  obtain ⟨c2, k2, i1, i2, i3, -⟩ := Cond.instantiable_spec wi
  cases e2.symm.trans i1
  cases e3.symm.trans i2
  obtain ⟨kU, u1, u2⟩ := al.2.2 _ _ e3
  have hB : Blank ST x D P.U := ⟨hD, ⟨knV, fun q hq => by rw [hq] at obV; cases obV⟩, by rw [al.findClass]; exact e2, kU, u1, by rw [u2]; exact i3, by rw [u2]; exact e5 i3⟩
  have F1 : Found ST "value" "[B" fV P.U := ⟨SBG.found_only al ⟨cfV, kV, iV, gV⟩, stV⟩
  have F2 : Found ST "coder" "B" fC P.U := ⟨SBG.found_only al ⟨cfC, kC, iC, gC⟩, stC⟩
  have hA : Ch b A P.U := ⟨⟨K.1, State.isArrayOf_alike al K.2.1, K.2.2, by omega⟩, hty⟩
  have hS : StaticIs P.U ST "COMPACT_STRINGS" "Z" (.int z) := by
    obtain ⟨cfS, iS, kS, fS, st, cS, t1, t2, t3, t4, t5, t6, t7⟩ := S
    exact StaticIs.there (s := { Z with heap := P.U.heap }) ⟨cfS, iS, kS, fS, st, cS, t1, t2, t3, t4, t5, (fun q => by rw [q] at t6; cases t6), t7⟩ al rfl
  obtain ⟨v, B, X', ⟨⟨hv, E', V', q1, q2, q3, q4, q5, q6, q7, q8, q9, q10, q11⟩, hl, hc, hs⟩, st⟩ := New1.pays x D fV fC b A z (tab_of (moved hZ hw)) hfr hlo m meth c P g ig mk _ X hg hsize hdg hW hn ⟨r1, r2, rfl, hB, F1, F2, hA, hS, hz, l0, l2, hp⟩
  have al' : Z.vm.Alike B.U.vm := hZ.alike.trans X'.warmed.alike
  have hsz : E'.slots.size = D.slots.size := by
    obtain ⟨-, -, -, kB, w1, w2, w3⟩ := q1
    obtain ⟨kB', y1, y2⟩ := al'.2.2 _ _ e3
    rw [q2.2.1] at w1
    cases w1.symm.trans y1
    rw [w3, e5 i3, y2]
  refine ⟨v, B, X', ⟨_, ⟨hv, ?_, ⟨by omega, fun y cy hy hn' => q10 y cy (by simpa using hn') hy, fun y cy hy => ?_⟩, q11, ⟨E', _, q1.1, by rw [q2.2.1]; exact e2, by rw [q2.2.1]; exact e3, by rw [q2.1]; exact obV, fun _ => by rw [hsz]; exact e5 i3⟩,
    ⟨E', cfV, kV, iV, fV, q1.1, gV, stV, by rw [q2.1]; exact knV, by rw [q2.1]; exact obV, by rw [q2.2.1]; exact asV, q3⟩, ⟨E', cfC, kC, iC, fC, q1.1, gC, stC, by rw [q2.1]; exact knV, by rw [q2.1]; exact obV, by rw [q2.2.1]; exact asC, q4⟩,
    ⟨V', ⟨q5.1, State.isArrayOf_alike al'.symm q5.2.1, q5.2.2.1⟩, q6, by rw [← al'.findClass]; exact q7, q8, fun j hj => by have := q9 j hj; rwa [Nat.zero_add] at this⟩, fun O n d w F n1 n2 => ?_⟩, hl, hc, hs⟩, st⟩
  · intro y hy
    simp only [List.mem_cons, List.not_mem_nil, or_false] at hy
    rcases hy with rfl | rfl <;> rfl
  · by_cases q : y = x
    · subst q
      cases hD.symm.trans hy
      exact ⟨E', q1.1, q2.2.1, q2.1, hsz⟩
    · exact ⟨cy, q10 y cy q hy, rfl, rfl, rfl⟩
  · obtain ⟨D3, cf, k, i, f, g1, g2, g3, g4, g5, g6, g7⟩ := F
    cases hD.symm.trans g1
    simp only [RoadKit.slotOf, g2, gV, gC, Option.map_some, Option.getD_some] at n1 n2
    exact ⟨E', cf, k, i, f, q1.1, g2, g3, by rw [q2.1]; exact g4, by rw [q2.1]; exact g5, by rw [q2.2.1]; exact g6, by rw [q2.2.2 f.slot (by simp [n1, n2])]; exact g7⟩
end StrChars.Road
namespace StrChars.Road
open Jvm Sem ClassFile Op Lib Jvm.Stand Jvm.Free Jvm.Free.XT
/-- WHAT COMES BACK, the byte[] as a list of values -/
def QA (Z : State) (x : Addr) (zn : Int32) (cs : List Int32) (h : Heap) (v : Option Value) (h' : Heap) (L : List Loc) : Prop := v = none ∧ (∀ y ∈ L, y.base = x) ∧ RoadKit.Keep h h' [x] ∧ h'.size = h.size + 1 ∧ RoadKit.Exa Z h' x ST ∧ RoadKit.Fld Z h' x ST "value" "[B" (.ref h.size) ∧ RoadKit.Fld Z h' x ST "coder" "B" (.int 0) ∧
  (∃ kb, Z.vm.findClass "[B" = some kb ∧ RoadKit.Arv Z h' h.size kb .byte zn (cs.map fun c => .int (lo8 c)) (.int 0)) ∧
  ∀ (O n d : String) (w : Value), RoadKit.Fld Z h x O n d w → RoadKit.slotOf Z O n d ≠ RoadKit.slotOf Z ST "value" "[B" → RoadKit.slotOf Z O n d ≠ RoadKit.slotOf Z ST "coder" "B" → RoadKit.Fld Z h' x O n d w
/-- **new String(chars) AT A CALL, THE ARRAYS AS LISTS**: the char[] at b holds cs, not empty, no char above 255 -/
theorem backArv {p : Program} {l : Launch} {e : Env} {R : Room} {s : State} {args : Array Value} {below : List Frame} {len W : Nat} {Z : State} {a0 : Array Value} {h : Heap} (hZ : Z.Warmed39 s.vm) (hw : ∀ d ∈ words, d.before a0 Z = true) {kI : Nat} (wi : (Jvm.Cond.instantiable ST kI).before a0 Z = true)
    {x b : Addr} {k : ClassId} {zn z : Int32} {cs : List Int32} {dv v0 c0 : Value} (E : RoadKit.Exa Z h x ST) (V : RoadKit.Fld Z h x ST "value" "[B" v0) (C : RoadKit.Fld Z h x ST "coder" "B" c0) (K : RoadKit.Arv Z h b k .char zn (cs.map Value.int) dv) (S : RoadKit.Sta Z h ST "COMPACT_STRINGS" "Z" (.int z)) (hz : ¬ z = 0)
    (hlen : zn.toNatClampNeg = cs.length) (h0 : 0 < cs.length) (hbig : cs.length ≤ 536870912) (hall : ∀ c ∈ cs, ¬ 255 < c) (hfr : 4 ≤ R.frames) (hlo : W + 65 ≤ R.locals) :
    Back l R p e below s args New1.yN len W (fun P a => a = #[.ref x, .ref b] ∧ P.U.heap = h ∧ P.cells + 1 ≤ R.cells ∧ P.slots + cs.length ≤ R.slots)
      (fun P _ v B => ∃ L, QA Z x zn cs h v B.U.heap L ∧ B.locs = P.locs ++ L ∧ B.cells = P.cells + 1 ∧ B.slots = P.slots + cs.length) := by
  obtain ⟨A, K1, K2, K3, K4, K5, K6⟩ := K
  have e : A.slots.size = cs.length := K3.trans hlen
  have hat : ∀ (i : Nat) (hi : i < cs.length), A.slots[i]? = some (.int cs[i]) := fun i hi => by rw [K5 i (by omega)]; simp [List.getD_eq_getElem?_getD, hi]
  have hcv : ∀ (i : Nat) (hi : i < cs.length), cv A i = cs[i] := fun i hi => by unfold cv; rw [hat i hi]
  have hty : Typed .char A := fun i v hv => by
    have hi : i < A.slots.size := (Array.getElem?_eq_some_iff.mp hv).1
    have q := K5 i hi
    rw [hv] at q
    rw [Option.some.inj q]
    exact K6 i hi
  refine Back.mono (back hZ hw wi E V C K1 hty S hz (by omega) (by omega) (fun i hi => by rw [hcv i (by omega)]; exact hall _ (List.getElem_mem _)) hfr hlo) (fun P a hp => ⟨hp.1, hp.2.1, hp.2.2.1, by rw [e]; exact hp.2.2.2⟩) (fun P a v B hp hq => ?_)
  obtain ⟨L, ⟨q1, q2, q3, q4, q5, q6, q7, ⟨V', v1, v2, v3, v4, v5⟩, q9⟩, hl, hc, hs⟩ := hq
  refine ⟨L, ⟨q1, q2, q3, q4, q5, q6, q7, ⟨V'.cls, v3, V', v1, rfl, by rw [v4, e, hlen], K4, fun i hi => ?_, fun i hi => ?_⟩, q9⟩, hl, hc, by rw [hs, e]⟩
  · have hi' : i < cs.length := by omega
    rw [v5 i (by omega), hcv i hi']; simp [List.getD_eq_getElem?_getD, hi']
  · have hi' : i < cs.length := by omega
    simp only [List.getD_eq_getElem?_getD, List.getElem?_map, List.getElem?_eq_getElem hi', Option.map_some, Option.getD_some]
    exact fits_lo8 _
end StrChars.Road
namespace StrChars
open Jvm Sem ClassFile Op Lib Jvm.Stand Jvm.Free.XT Jvm.Free.ALB Jvm.Free.JM Jvm.Free
open Jvm.Lib.Cold (StaticIs)
def hi8 (x : Int32) : Int32 := lo8 (x >>> ((8 : Int32) &&& 31))
/-- what StringUTF16.getChar makes of two bytes -/
def pairCh (u v : Int32) : Int32 := (((u &&& 255) <<< ((0 : Int32) &&& 31)) ||| ((v &&& 255) <<< ((8 : Int32) &&& 31))).toUInt32.toUInt16.toUInt32.toInt32
theorem shr0 (c : Int32) : c >>> ((0 : Int32) &&& 31) = c := by
  have e : ((0 : Int32) &&& 31) = 0 := by decide
  rw [e]
  apply Int32.toBitVec_inj.mp
  rw [Int32.toBitVec_shiftRight]
  have e1 : ((0 : Int32).toBitVec.smod 32) = 0#32 := by decide
  rw [e1, BitVec.sshiftRight_eq']
  exact BitVec.sshiftRight_zero
theorem lo8_and (x : Int32) : (lo8 x &&& 255).toBitVec.toNat = x.toBitVec.toNat % 256 := by
  have h : (lo8 x).toBitVec = (x.toBitVec.signExtend 8).signExtend 32 := by rw [lo8, Int8.toBitVec_toInt32, Int32.toBitVec_toInt8]
  rw [Int32.toBitVec_and, BitVec.toNat_and, h]
  have e : ((x.toBitVec.signExtend 8).signExtend 32).toNat % 256 = x.toBitVec.toNat % 256 := by
    rw [BitVec.toNat_signExtend]
    have hlt := x.toBitVec.isLt
    simp only [BitVec.toNat_setWidth, BitVec.toNat_signExtend]
    split <;> split <;> omega
  rw [← e]
  exact Nat.and_two_pow_sub_one_eq_mod _ 8
theorem pair_says {c : Int32} (h0 : ¬ c < 0) (h1 : ¬ 65535 < c) : pairCh (lo8 c) (hi8 c) = c := by
  rw [Int32.lt_iff_toInt_lt] at h0 h1
  have e0 : (0 : Int32).toInt = 0 := rfl
  have e1 : (65535 : Int32).toInt = 65535 := rfl
  have hc : c.toInt = c.toBitVec.toNat := by
    have := c.toBitVec.isLt
    have e : c.toInt = c.toBitVec.toInt := rfl
    rw [e] at h0 h1
    rw [e]
    rw [BitVec.toInt_eq_toNat_cond] at h0 h1 ⊢
    split at h0 <;> split <;> omega
  have hn : c.toBitVec.toNat < 65536 := by omega
  have a1 := lo8_and c
  have a2 : (hi8 c &&& 255).toBitVec.toNat = c.toBitVec.toNat / 256 := by
    rw [hi8, lo8_and]
    have e : ((8 : Int32) &&& 31) = 8 := by decide
    rw [e, Int32.toBitVec_shiftRight]
    have e2 : ((8 : Int32).toBitVec.smod 32) = 8#32 := by decide
    rw [e2, BitVec.sshiftRight_eq', BitVec.toNat_sshiftRight_of_msb_false (by rw [BitVec.msb_eq_false_iff_two_mul_lt]; omega)]
    show c.toBitVec.toNat >>> 8 % 256 = _
    rw [Nat.shiftRight_eq_div_pow]
    omega
  unfold pairCh
  apply Int32.toBitVec_inj.mp
  apply BitVec.eq_of_toNat_eq
  have f0 : ((0 : Int32) &&& 31) = 0 := by decide
  have f8 : ((8 : Int32) &&& 31) = 8 := by decide
  rw [f0, f8]
  have g : (((lo8 c &&& 255) <<< (0 : Int32)) ||| ((hi8 c &&& 255) <<< (8 : Int32))).toBitVec.toNat = c.toBitVec.toNat := by
    rw [Int32.toBitVec_or, Int32.toBitVec_shiftLeft, Int32.toBitVec_shiftLeft]
    have s0 : ((0 : Int32).toBitVec.smod 32) = 0#32 := by decide
    have s8 : ((8 : Int32).toBitVec.smod 32) = 8#32 := by decide
    rw [s0, s8, BitVec.toNat_or]
    simp only [BitVec.shiftLeft_eq', BitVec.toNat_shiftLeft, a1, a2]
    show (c.toBitVec.toNat % 256) <<< 0 % 2 ^ 32 ||| (c.toBitVec.toNat / 256) <<< 8 % 2 ^ 32 = _
    rw [Nat.shiftLeft_zero, Nat.mod_eq_of_lt (show c.toBitVec.toNat % 256 < 2 ^ 32 by omega), Nat.mod_eq_of_lt (show (c.toBitVec.toNat / 256) <<< 8 < 2 ^ 32 by rw [Nat.shiftLeft_eq]; omega), Nat.or_comm, ← Nat.shiftLeft_add_eq_or_of_lt (by omega), Nat.shiftLeft_eq]
    omega
  show BitVec.toNat (((((lo8 c &&& 255) <<< (0 : Int32)) ||| ((hi8 c &&& 255) <<< (8 : Int32))).toBitVec.setWidth 16).setWidth 32) = _
  rw [BitVec.toNat_setWidth, BitVec.toNat_setWidth, g]
  omega
end StrChars
namespace StrChars
open Jvm Sem ClassFile Op Lib Jvm.Stand Jvm.Free.XT Jvm.Free.ALB Jvm.Free.JM Jvm.Free
open Jvm.Lib.Cold (StaticIs)
theorem shr1 {n : Nat} (h : 2 * n < 2 ^ 31) : Int32.ofNat (2 * n) >>> ((1 : Int32) &&& 31) = Int32.ofNat n := by
  have e : ((1 : Int32) &&& 31) = 1 := by decide
  rw [e]
  apply Int32.toBitVec_inj.mp
  rw [Int32.toBitVec_shiftRight]
  have e1 : ((1 : Int32).toBitVec.smod 32) = 1#32 := by decide
  have hm : (BitVec.ofNat 32 (2 * n)).toNat = 2 * n := by rw [BitVec.toNat_ofNat, Nat.mod_eq_of_lt (by omega)]
  rw [e1, BitVec.sshiftRight_eq']
  apply BitVec.eq_of_toNat_eq
  show ((BitVec.ofNat 32 (2 * n)).sshiftRight 1).toNat = (BitVec.ofNat 32 n).toNat
  rw [BitVec.toNat_sshiftRight_of_msb_false (by rw [BitVec.msb_eq_false_iff_two_mul_lt, hm]; omega), hm, BitVec.toNat_ofNat, Nat.shiftRight_eq_div_pow]
  omega
/-- the array's cell V codes the n chars f 0 .. f (n - 1) by the coder cd, as the JDK does: coder 1 just where some char is above 255 -/
def Cod (cd : Int32) (n : Nat) (f : Nat → Int32) (V : Cell) : Prop := (cd = 0 ∧ V.slots.size = n ∧ ∀ j, j < n → V.slots[j]? = some (.int (lo8 (f j))) ∧ ¬ 255 < f j) ∨ (cd = 1 ∧ V.slots.size = 2 * n ∧ (∀ j, j < n → V.slots[2 * j]? = some (.int (lo8 (f j))) ∧ V.slots[2 * j + 1]? = some (.int (hi8 (f j)))) ∧ ∃ j, j < n ∧ 255 < f j)
theorem Cod.cd {cd : Int32} {n : Nat} {f : Nat → Int32} {V : Cell} (h : Cod cd n f V) : cd = 0 ∨ cd = 1 := h.imp (fun q => q.1) fun q => q.1
theorem Cod.len {cd : Int32} {n : Nat} {f : Nat → Int32} {V : Cell} (h : Cod cd n f V) (hs : V.slots.size < 2 ^ 31) : Int32.ofNat V.slots.size >>> (cd &&& 31) = Int32.ofNat n := by
  rcases h with ⟨rfl, h, -⟩ | ⟨rfl, h, -⟩
  · rw [shr0, h]
  · rw [h, shr1 (by omega)]
/-- **x is a String of the n chars f 0 .. f (n - 1)**, Latin-1 or UTF-16; its array at t has the cell V -/
def Txt (x t : Addr) (V : Cell) (cd : Int32) (n : Nat) (f : Nat → Int32) (U : State) : Prop := Exact "java/lang/String" x U ∧ Has x "java/lang/String" "value" "[B" (.ref t) U ∧ Has x "java/lang/String" "coder" "B" (.int cd) U ∧ XT.Arr .byte t V U ∧ Cod cd n f V ∧ ∀ j, j < n → ¬ f j < 0 ∧ ¬ 65535 < f j
theorem Txt.mv {x t : Addr} {V : Cell} {cd : Int32} {n : Nat} {f : Nat → Int32} {U U' : State} (h : Txt x t V cd n f U) (hal : U.vm.Alike U'.vm) (hh : U'.heap = U.heap) : Txt x t V cd n f U' := ⟨h.1.mv hal hh, h.2.1.mv hal hh, h.2.2.1.mv hal hh, h.2.2.2.1.mv hal hh, h.2.2.2.2⟩
namespace Cdr
def yN : MethodName := ⟨"java/lang/String", "coder", "()B"⟩
abbrev yB : ByteArray := jdk_42_method_152_code
theorem d0 : decode yB 0 = .ok (.getstatic 38, 3) := by decide +kernel
theorem d3 : decode yB 3 = .ok (.ifCond (.eq) 10, 3) := by decide +kernel
theorem d6 : decode yB 6 = .ok (.aload_n 0, 1) := by decide +kernel
theorem d7 : decode yB 7 = .ok (.getfield 15, 3) := by decide +kernel
theorem d10 : decode yB 10 = .ok (.goto 4, 3) := by decide +kernel
theorem d14 : decode yB 14 = .ok (.ireturn, 1) := by decide +kernel
def site : List Cond := [.fieldLink "java/lang/String" 38 "java/lang/String" "COMPACT_STRINGS" "Z", .fieldLink "java/lang/String" 15 "java/lang/String" "coder" "B"]
def tab : Cond := tabOf yN yB 1 (some .byte) site
def P (x : Addr) (cd z : Int32) (args : Array Value) (s : State) : Prop := args = #[.ref x] ∧ Has x "java/lang/String" "coder" "B" (.int cd) s ∧ (cd = 0 ∨ cd = 1) ∧ StaticIs s "java/lang/String" "COMPACT_STRINGS" "Z" (.int z) ∧ ¬ z = 0
def E (cd : Int32) (r : Option Value) (s u : State) : Prop := XT.PureE (some (.int cd)) r s u
theorem law (l : Launch) (x : Addr) (cd z : Int32) : Law l yN 1 0 0 0 yB 1 (some .byte) site (P x cd z) (E cd) [] 0 0 := by
  refine Law.of_walk (plainFor_of_name (by decide +kernel)) (by decide +kernel) (by decide +kernel) (by decide) (fun _ _ h => by rw [h.1]; rfl) (fun _ U U' hal hh h => ⟨h.1, h.2.1.mv hal hh, h.2.2.1, h.2.2.2.1.there hal hh, h.2.2.2.2⟩) (fun r U U' V V' h1 hal h2 h => XT.PureE.mv r U U' V V' h1 hal h2 h) ?_
  intro p e s m args below meth c s₁ X0 hexec hbytes hml hret hlk hnm hown hh0 W hP
  obtain ⟨rfl, hx, hc, s1, hz⟩ := hP
  have c1 : Steps p.tables e below (s₁.setTop (entryFrame m #[.ref x] 1)) (s₁.setTop (mkF m 0 #[.val (.ref x)] [])) := entry rfl
  obtain ⟨T2, X2, q2, st2⟩ := X0.sget hexec hown (wk W (.fieldLink "java/lang/String" 38 "java/lang/String" "COMPACT_STRINGS" "Z")) s1 (fun _ _ h => by rw [hh0]; exact h) (g := (mkF m 0 #[.val (.ref x)] [])) rfl (hb hbytes d0)
  have hh2 := q2.trans hh0
  have c3 : Steps p.tables e below (s₁.setTop (entryFrame m #[.ref x] 1)) (T2.setTop (mkF m 7 #[.val (.ref x)] [.ref x])) := (c1.trans (st2 _ (Steps.refl _))).trans (by
    refine XS.ifNo X2.here hexec rfl (hb hbytes d3) rfl (i0_eq_f hz) ?_
    refine XS.aloadN X2.here hexec rfl (hb hbytes d6) rfl rfl ?_
    exact Steps.refl _)
  obtain ⟨T4, X4, q4, st4⟩ := X2.hget hexec hown (wk W (.fieldLink "java/lang/String" 15 "java/lang/String" "coder" "B")) (hx.mv X2.warmed.alike hh2) (g := (mkF m 7 #[.val (.ref x)] [.ref x])) rfl (rest := []) rfl (hb hbytes d7)
  have c5 : Steps p.tables e below (s₁.setTop (entryFrame m #[.ref x] 1)) (T4.setTop (mkF m 14 #[.val (.ref x)] [.int cd])) := (c3.trans (st4 _ (Steps.refl _))).trans (by
    refine XS.goto X4.here hexec rfl (pc0 := 10) rfl (hb hbytes d10) (by decide) rfl ?_
    exact Steps.refl _)
  exact ⟨T4, some (.int cd), _, _, _, X4, rfl, rfl, rfl, (fun h => by cases h), ⟨rfl, q4.trans hh2⟩, fun fs hl => c5.trans (X4.ireturnOut hexec hret (by rcases hc with rfl | rfl <;> rfl) (Or.inr (Or.inr (Or.inl rfl))) (hb hbytes d14) hl)⟩
end Cdr
namespace Len
def yN : MethodName := ⟨"java/lang/String", "length", "()I"⟩
abbrev yB : ByteArray := jdk_42_method_54_code
theorem d0 : decode yB 0 = .ok (.aload_n 0, 1) := by decide +kernel
theorem d1 : decode yB 1 = .ok (.getfield 9, 3) := by decide +kernel
theorem d4 : decode yB 4 = .ok (.arraylength, 1) := by decide +kernel
theorem d5 : decode yB 5 = .ok (.aload_n 0, 1) := by decide +kernel
theorem d6 : decode yB 6 = .ok (.invokevirtual 335, 3) := by decide +kernel
theorem d9 : decode yB 9 = .ok (.ishr, 1) := by decide +kernel
theorem d10 : decode yB 10 = .ok (.ireturn, 1) := by decide +kernel
def site : List Cond := [.fieldLink "java/lang/String" 9 "java/lang/String" "value" "[B", Cdr.tab] ++ virtW "java/lang/String" 335 "java/lang/String" Cdr.yN Cdr.yN
def tab : Cond := tabOf yN yB 1 (some .int) site
def P (x t : Addr) (V : Cell) (cd : Int32) (n : Nat) (f : Nat → Int32) (z : Int32) (args : Array Value) (s : State) : Prop := args = #[.ref x] ∧ Txt x t V cd n f s ∧ StaticIs s "java/lang/String" "COMPACT_STRINGS" "Z" (.int z) ∧ ¬ z = 0
def E (n : Nat) (r : Option Value) (s u : State) : Prop := XT.PureE (some (.int (Int32.ofNat n))) r s u
/-- length() of a String of n chars, in either coding -/
theorem law (l : Launch) (x t : Addr) (V : Cell) (cd : Int32) (n : Nat) (f : Nat → Int32) (z : Int32) : Law l yN 1 0 1 13 yB 1 (some .int) site (P x t V cd n f z) (E n) [] 0 0 := by
  refine Law.of_walk (plainFor_of_name (by decide +kernel)) (by decide +kernel) (by decide +kernel) (by decide) (fun _ _ h => by rw [h.1]; rfl) (fun _ U U' hal hh h => ⟨h.1, h.2.1.mv hal hh, h.2.2.1.there hal hh, h.2.2.2⟩) (fun r U U' V V' h1 hal h2 h => XT.PureE.mv r U U' V V' h1 hal h2 h) ?_
  intro p e s m args below meth c s₁ X0 hexec hbytes hml hret hlk hnm hown hh0 W hP
  obtain ⟨rfl, hx, s1, hz⟩ := hP
  have v31 := hx.2.2.2.1.2.2.2
  have c1 : Steps p.tables e below (s₁.setTop (entryFrame m #[.ref x] 1)) (s₁.setTop (mkF m 1 #[.val (.ref x)] [.ref x])) := Steps.trans (entry rfl) (by
    show Steps p.tables e below (s₁.setTop (mkF m 0 #[.val (.ref x)] [])) _
    refine XS.aloadN X0.here hexec rfl (hb hbytes d0) rfl rfl ?_
    exact Steps.refl _)
  obtain ⟨T2, X2, q2, st2⟩ := X0.hget hexec hown (wk W (.fieldLink "java/lang/String" 9 "java/lang/String" "value" "[B")) (hx.mv X0.warmed.alike hh0).2.1 (g := (mkF m 1 #[.val (.ref x)] [.ref x])) rfl (rest := []) rfl (hb hbytes d1)
  have hh2 := q2.trans hh0
  have hx2 := hx.mv X2.warmed.alike hh2
  have c3 : Steps p.tables e below (s₁.setTop (entryFrame m #[.ref x] 1)) (T2.setTop (mkF m 6 #[.val (.ref x)] [.ref x, .int (Int32.ofNat V.slots.size)])) := (c1.trans (st2 _ (Steps.refl _))).trans (by
    refine X2.alen hexec hx2.2.2.2.1 rfl rfl (hb hbytes d4) ?_
    refine XS.aloadN X2.here hexec rfl (hb hbytes d5) rfl rfl ?_
    exact Steps.refl _)
  obtain ⟨v4, T4, X4, E4, g4⟩ := X2.callV hexec (Cdr.law l x cd z) hown (wks W (virtW "java/lang/String" 335 "java/lang/String" Cdr.yN Cdr.yN)) rfl (by decide) (wk W Cdr.tab) (W := 1) (Nat.le_of_ble_eq_true rfl) (Nat.le_of_ble_eq_true rfl) (Nat.le_refl _) (Nat.le_refl _) (hx2.1.fc X2.warmed.alike) hx2.1.is (g := (mkF m 6 #[.val (.ref x)] [.ref x, .int (Int32.ofNat V.slots.size)])) rfl (by rw [hml]; rfl) c3 (argsL := []) (rest := [.int (Int32.ofNat V.slots.size)]) rfl rfl (by show 2 * 0 + (1 + 0) ≤ _; decide) (hb hbytes d6) (⟨rfl, hx2.2.2.1, hx.2.2.2.2.1.cd, s1.there X2.warmed.alike hh2, hz⟩)
  obtain ⟨rfl, q4⟩ := E4
  have c5 : Steps p.tables e below (s₁.setTop (entryFrame m #[.ref x] 1)) (T4.setTop (mkF m 10 #[.val (.ref x)] [.int (Int32.ofNat V.slots.size >>> (cd &&& 31))])) := Steps.trans g4 (by
    refine ishr X4.here hexec rfl (hb hbytes d9) rfl ?_
    exact Steps.refl _)
  rw [hx.2.2.2.2.1.len v31] at c5
  exact ⟨T4, some (.int (Int32.ofNat n)), _, _, _, X4, rfl, rfl, rfl, (fun h => by cases h), ⟨rfl, q4.trans hh2⟩, fun fs hl => c5.trans (X4.ireturnOut hexec hret rfl (Or.inl rfl) (hb hbytes d10) hl)⟩
theorem pays {l : Launch} {R : Room} {p : Program} {e : Env} {below : List Frame} {s : State} {sargs : Array Value} {len W : Nat} (x t : Addr) (V : Cell) (cd : Int32) (n : Nat) (f : Nat → Int32) (z : Int32) (htab : tab.before sargs s = true) (hfr : 2 ≤ R.frames) (hlo : W + 25 ≤ R.locals) :
    Back l R p e below s sargs yN len W (fun A₁ a₁ => A₁.cells + 0 ≤ R.cells ∧ A₁.slots + 0 ≤ R.slots ∧ P x t V cd n f z a₁ A₁.U) (fun A₁ _ v₁ B₁ => E n v₁ A₁.U B₁.U ∧ B₁.locs = A₁.locs ++ [] ∧ B₁.cells = A₁.cells + 0 ∧ B₁.slots = A₁.slots + 0) :=
  (law l x t V cd n f z).pays htab hfr (by omega)
end Len
end StrChars
namespace StrChars.Road
open Jvm Sem ClassFile Op Lib Jvm.Stand Jvm.Free Jvm.Free.XT
open Jvm.Lib.Cold (StaticIs)
theorem consq {a : Array Value} {s : State} {c : Jvm.Cond} {L : List Jvm.Cond} (h0 : c.before a s = true) (h : ∀ w ∈ L, w.before a s = true) : ∀ w ∈ c :: L, w.before a s = true := fun w hw => (List.mem_cons.mp hw).elim (fun e => e ▸ h0) (h w)
/-- the words of String.length(), either coding -/
abbrev wordsLen : List Jvm.Cond := [.code Len.yN Len.yB 1 (some .int), .initialized ST, .fieldLink ST 9 ST "value" "[B", .fieldLink ST 38 ST "COMPACT_STRINGS" "Z", .fieldLink ST 15 ST "coder" "B", .code Cdr.yN Cdr.yB 1 (some .byte), .methodLink ST 335 Cdr.yN, .declares Cdr.yN, .selects ST Cdr.yN Cdr.yN, .instanceMethod Cdr.yN]
theorem tabLen_of {a : Array Value} {s : State} (h : ∀ w ∈ wordsLen, w.before a s = true) : Len.tab.before a s = true := by
  have hc : Cdr.tab.before a s = true := unparts (wk h (.code Cdr.yN Cdr.yB 1 (some .byte))) (wks h (.initialized Cdr.yN.cls :: Cdr.site))
  have q := consq hc h
  exact unparts (wk q (.code Len.yN Len.yB 1 (some .int))) (wks q (.initialized Len.yN.cls :: Len.site))
theorem movedLen {Z s : State} {a0 args : Array Value} (hZ : Z.Warmed39 s.vm) (hw : ∀ d ∈ wordsLen, d.before a0 Z = true) : ∀ d ∈ wordsLen, d.before args s = true := fun d hd => by
  have q := hw d hd
  have t : ∀ d ∈ wordsLen, d = .arrayClass .byte ∨ (d.onTables && d.keepsFace) = true := by decide +kernel
  rcases t d hd with rfl | t
  · exact RoadKit.mvA hZ q
  · exact RoadKit.mv hZ q t
/-- the bytes of the chars cs, low before high -/
def wideBytes : List Int32 → List Value
  | [] => []
  | c :: cs => .int (lo8 c) :: .int (hi8 c) :: wideBytes cs
theorem wide_lo (d : Value) : ∀ (cs : List Int32) (j : Nat), j < cs.length → (wideBytes cs).getD (2 * j) d = .int (lo8 (cs.getD j 0))
  | [], j, h => absurd h (Nat.not_lt_zero j)
  | c :: cs, 0, _ => rfl
  | c :: cs, j + 1, h => by
    have q := wide_lo d cs j (by simpa using h)
    rw [show 2 * (j + 1) = 2 * j + 1 + 1 from by omega]
    simpa [wideBytes] using q
theorem wide_hi (d : Value) : ∀ (cs : List Int32) (j : Nat), j < cs.length → (wideBytes cs).getD (2 * j + 1) d = .int (hi8 (cs.getD j 0))
  | [], j, h => absurd h (Nat.not_lt_zero j)
  | c :: cs, 0, _ => rfl
  | c :: cs, j + 1, h => by
    have q := wide_hi d cs j (by simpa using h)
    rw [show 2 * (j + 1) + 1 = 2 * j + 1 + 1 + 1 from by omega]
    simpa [wideBytes] using q
theorem low_at (d : Value) (cs : List Int32) (j : Nat) (h : j < cs.length) : (cs.map fun c => Value.int (lo8 c)).getD j d = .int (lo8 (cs.getD j 0)) := by
  simp [List.getD_eq_getElem?_getD, h]
/-- an array of N2 bytes vs codes the chars cs by the coder cd -/
def CodA (cs : List Int32) (cd N2 : Int32) (vs : List Value) : Prop := (cd = 0 ∧ N2 = Int32.ofNat cs.length ∧ vs = (cs.map fun c => Value.int (lo8 c)) ∧ ∀ c ∈ cs, ¬ 255 < c) ∨ (cd = 1 ∧ N2 = Int32.ofNat (2 * cs.length) ∧ vs = wideBytes cs ∧ ∃ c ∈ cs, 255 < c)
theorem CodA.cod {cs : List Int32} {cd N2 : Int32} {vs : List Value} {V : Cell} (h : CodA cs cd N2 vs) (hn : 2 * cs.length < 2 ^ 31) (hs : V.slots.size = N2.toNatClampNeg) (hv : RoadKit.Has V vs (.int 0)) : Cod cd cs.length (fun j => cs.getD j 0) V := by
  rcases h with ⟨rfl, rfl, rfl, h⟩ | ⟨rfl, rfl, rfl, c, hc, hw⟩
  · rw [n32 (by omega)] at hs
    exact Or.inl ⟨rfl, hs, fun j hj => ⟨by rw [hv j (by omega), low_at _ _ _ hj], by
      have e : cs.getD j 0 = cs[j] := by simp [List.getD_eq_getElem?_getD, hj]
      show ¬ 255 < cs.getD j 0
      rw [e]; exact h _ (List.getElem_mem _)⟩⟩
  · rw [n32 (by omega)] at hs
    obtain ⟨j, hj, rfl⟩ := List.getElem_of_mem hc
    exact Or.inr ⟨rfl, hs, fun j hj => ⟨by rw [hv _ (by omega), wide_lo _ _ _ hj], by rw [hv _ (by omega), wide_hi _ _ _ hj]⟩, j, hj, by
      have e : cs.getD j 0 = cs[j] := by simp [List.getD_eq_getElem?_getD, hj]
      show 255 < cs.getD j 0
      rw [e]; exact hw⟩
/-- an object of exactly java/lang/String, its two fields found: as the laws ask it -/
theorem strObj {Z U : State} {a0 : Array Value} {kI : Nat} (wi : (Jvm.Cond.instantiable ST kI).before a0 Z = true) (al : Z.vm.Alike U.vm) {x : Addr} {v0 c0 : Value} (E : RoadKit.Exa Z U.heap x ST) (V : RoadKit.Fld Z U.heap x ST "value" "[B" v0) (C : RoadKit.Fld Z U.heap x ST "coder" "B" c0) :
    ∃ (D : Cell) (fV fC : Field), Blank ST x D U ∧ Found ST "value" "[B" fV U ∧ Found ST "coder" "B" fC U ∧ D.slots[fV.slot]? = some v0 ∧ D.slots[fC.slot]? = some c0 ∧ RoadKit.slotOf Z ST "value" "[B" = fV.slot ∧ RoadKit.slotOf Z ST "coder" "B" = fC.slot := by
  obtain ⟨D, cfV, kV, iV, fV, hD, gV, stV, knV, obV, asV, slV⟩ := V
  obtain ⟨D', cfC, kC, iC, fC, hD', gC, stC, -, -, asC, slC⟩ := C
  cases hD.symm.trans hD'
  obtain ⟨D2, kD, e1, e2, e3, e4, e5⟩ := E
  cases hD.symm.trans e1
  obtain ⟨c2, k2, i1, i2, i3, -⟩ := Cond.instantiable_spec wi
  cases e2.symm.trans i1
  cases e3.symm.trans i2
  obtain ⟨kU, u1, u2⟩ := al.2.2 _ _ e3
  exact ⟨D, fV, fC, ⟨hD, ⟨knV, fun q hq => by rw [hq] at obV; cases obV⟩, by rw [al.findClass]; exact e2, kU, u1, by rw [u2]; exact i3, by rw [u2]; exact e5 i3⟩, ⟨SBG.found_only al ⟨cfV, kV, iV, gV⟩, stV⟩, ⟨SBG.found_only al ⟨cfC, kC, iC, gC⟩, stC⟩, slV, slC, by simp [RoadKit.slotOf, gV], by simp [RoadKit.slotOf, gC]⟩
theorem sta_is {Z U : State} (al : Z.vm.Alike U.vm) {C n d : String} {v : Value} (S : RoadKit.Sta Z U.heap C n d v) : StaticIs U C n d v := by
  obtain ⟨cfS, iS, kS, fS, st, cS, t1, t2, t3, t4, t5, t6, t7⟩ := S
  exact StaticIs.there (s := { Z with heap := U.heap }) ⟨cfS, iS, kS, fS, st, cS, t1, t2, t3, t4, t5, (fun q => by rw [q] at t6; cases t6), t7⟩ al rfl
/-- **length() OF SUCH A STRING** -/
theorem lenW {p : Program} {l : Launch} {e : Env} {R : Room} {s : State} {args : Array Value} {below : List Frame} {len W : Nat} {Z : State} {a0 : Array Value} {h : Heap} (hZ : Z.Warmed39 s.vm) (hw : ∀ d ∈ wordsLen, d.before a0 Z = true) {kI : Nat} (wi : (Jvm.Cond.instantiable ST kI).before a0 Z = true)
    {x t : Addr} {kb : ClassId} {cs : List Int32} {cd N2 z : Int32} {vs : List Value} (E : RoadKit.Exa Z h x ST) (V : RoadKit.Fld Z h x ST "value" "[B" (.ref t)) (C : RoadKit.Fld Z h x ST "coder" "B" (.int cd)) (K : RoadKit.Arv Z h t kb .byte N2 vs (.int 0)) (hc : CodA cs cd N2 vs) (hb : ∀ c ∈ cs, ¬ c < 0 ∧ ¬ (65535 : Int32) < c)
    (S : RoadKit.Sta Z h ST "COMPACT_STRINGS" "Z" (.int z)) (hz : ¬ z = 0) (l2 : cs.length ≤ 4000) (hfr : 2 ≤ R.frames) (hlo : W + 25 ≤ R.locals) :
    Back l R p e below s args (⟨"java/lang/String", "length", "()I"⟩ : MethodName) len W (fun P a => a = #[.ref x] ∧ P.U.heap = h ∧ P.cells + 0 ≤ R.cells ∧ P.slots + 0 ≤ R.slots)
      (fun P _ v B => ∃ L, (v = some (.int (Int32.ofNat cs.length)) ∧ L = [] ∧ B.U.heap = h) ∧ B.locs = P.locs ++ L ∧ B.cells = P.cells + 0 ∧ B.slots = P.slots + 0) := by
  obtain ⟨A, K1, K2, K3, K4, K5, K6⟩ := K
  have hcod := hc.cod (by omega) K3 K5
  intro m meth c P g ig mk a X hg hsize hdg hW hn hp'
  obtain ⟨rfl, rfl, r1, r2⟩ := hp'
  have al : Z.vm.Alike P.U.vm := hZ.alike.trans X.warmed.alike
  obtain ⟨D, fV, fC, hB, F1, F2, g1, g2, -, -⟩ := strObj wi al E V C
  have hx : Txt x t A cd cs.length (fun j => cs.getD j 0) P.U := ⟨⟨_, hB.2.2.1, D, hB.1, rfl, by cases q : D.vm <;> first | rfl | exact absurd q (hB.2.1.2 _)⟩, Has.of hB F1 g1, Has.of hB F2 g2, ⟨K1.1, State.isArrayOf_alike al K1.2.1, K1.2.2, by rcases hcod with ⟨-, q, -⟩ | ⟨-, q, -⟩ <;> omega⟩, hcod, fun j hj => by
    have e : cs.getD j 0 = cs[j] := by simp [List.getD_eq_getElem?_getD, hj]
    show ¬ cs.getD j 0 < 0 ∧ ¬ 65535 < cs.getD j 0
    rw [e]; exact hb _ (List.getElem_mem _)⟩
  obtain ⟨v, B, X', ⟨⟨hv, hh⟩, hl, hk, hs⟩, st⟩ := Len.pays x t A cd cs.length (fun j => cs.getD j 0) z (tabLen_of (movedLen hZ hw)) hfr hlo m meth c P g ig mk _ X hg hsize hdg hW hn ⟨r1, r2, rfl, hx, sta_is al S, hz⟩
  exact ⟨v, B, X', ⟨[], ⟨hv, rfl, hh⟩, hl, hk, hs⟩, st⟩
end StrChars.Road
namespace StrChars
open Jvm Sem ClassFile Op Lib Jvm.Stand Jvm.Free.XT Jvm.Free.ALB Jvm.Free.JM Jvm.Free
open Jvm.Lib.Cold (StaticIs)
namespace Emp
def yN : MethodName := ⟨"java/lang/String", "isEmpty", "()Z"⟩
abbrev yB : ByteArray := jdk_42_method_55_code
theorem d0 : decode yB 0 = .ok (.aload_n 0, 1) := by decide +kernel
theorem d1 : decode yB 1 = .ok (.getfield 9, 3) := by decide +kernel
theorem d4 : decode yB 4 = .ok (.arraylength, 1) := by decide +kernel
theorem d5 : decode yB 5 = .ok (.ifCond (.ne) 7, 3) := by decide +kernel
theorem d8 : decode yB 8 = .ok (.iconst 1, 1) := by decide +kernel
theorem d9 : decode yB 9 = .ok (.goto 4, 3) := by decide +kernel
theorem d12 : decode yB 12 = .ok (.iconst 0, 1) := by decide +kernel
theorem d13 : decode yB 13 = .ok (.ireturn, 1) := by decide +kernel
def site : List Cond := [.fieldLink "java/lang/String" 9 "java/lang/String" "value" "[B"]
def tab : Cond := tabOf yN yB 1 (some .boolean) site
def P (x t : Addr) (V : Cell) (cd : Int32) (n : Nat) (f : Nat → Int32) (args : Array Value) (s : State) : Prop := args = #[.ref x] ∧ Txt x t V cd n f s
def E (n : Nat) (r : Option Value) (s u : State) : Prop := XT.PureE (some (.int (if n = 0 then 1 else 0))) r s u
/-- isEmpty() of a String of n chars -/
theorem law (l : Launch) (x t : Addr) (V : Cell) (cd : Int32) (n : Nat) (f : Nat → Int32) : Law l yN 1 0 0 0 yB 1 (some .boolean) site (P x t V cd n f) (E n) [] 0 0 := by
  refine Law.of_walk (plainFor_of_name (by decide +kernel)) (by decide +kernel) (by decide +kernel) (by decide) (fun _ _ h => by rw [h.1]; rfl) (fun _ U U' hal hh h => ⟨h.1, h.2.mv hal hh⟩) (fun r U U' V V' h1 hal h2 h => XT.PureE.mv r U U' V V' h1 hal h2 h) ?_
  intro p e s m args below meth c s₁ X0 hexec hbytes hml hret hlk hnm hown hh0 W hP
  obtain ⟨rfl, hx⟩ := hP
  have v31 := hx.2.2.2.1.2.2.2
  have c1 : Steps p.tables e below (s₁.setTop (entryFrame m #[.ref x] 1)) (s₁.setTop (mkF m 1 #[.val (.ref x)] [.ref x])) := Steps.trans (entry rfl) (by
    show Steps p.tables e below (s₁.setTop (mkF m 0 #[.val (.ref x)] [])) _
    refine XS.aloadN X0.here hexec rfl (hb hbytes d0) rfl rfl ?_
    exact Steps.refl _)
  obtain ⟨T2, X2, q2, st2⟩ := X0.hget hexec hown (wk W (.fieldLink "java/lang/String" 9 "java/lang/String" "value" "[B")) (hx.mv X0.warmed.alike hh0).2.1 (g := (mkF m 1 #[.val (.ref x)] [.ref x])) rfl (rest := []) rfl (hb hbytes d1)
  have hh2 := q2.trans hh0
  have hx2 := hx.mv X2.warmed.alike hh2
  have c3 : Steps p.tables e below (s₁.setTop (entryFrame m #[.ref x] 1)) (T2.setTop (mkF m 5 #[.val (.ref x)] [.int (Int32.ofNat V.slots.size)])) := (c1.trans (st2 _ (Steps.refl _))).trans (by
    refine X2.alen hexec hx2.2.2.2.1 rfl rfl (hb hbytes d4) ?_
    exact Steps.refl _)
  have hz : V.slots.size = 0 ↔ n = 0 := by
    rcases hx.2.2.2.2.1 with ⟨-, q, -⟩ | ⟨-, q, -⟩ <;> omega
  by_cases h0 : n = 0
  · have c4 : Steps p.tables e below (s₁.setTop (entryFrame m #[.ref x] 1)) (T2.setTop (mkF m 13 #[.val (.ref x)] [.int 1])) := c3.trans (by
      refine XS.ifNo X2.here hexec rfl (hb hbytes d5) rfl (i0_ne_f (by rw [hz.mpr h0]; rfl)) ?_
      refine iconstV X2.here hexec rfl 1 (hb hbytes d8) (by decide) ?_
      refine XS.goto X2.here hexec rfl (pc0 := 9) rfl (hb hbytes d9) (by decide) rfl ?_
      exact Steps.refl _)
    exact ⟨T2, some (.int 1), _, _, _, X2, rfl, rfl, rfl, (fun h => by cases h), ⟨by rw [if_pos h0], hh2⟩, fun fs hl => c4.trans (X2.ireturnOut hexec hret rfl (Or.inr (Or.inl rfl)) (hb hbytes d13) hl)⟩
  · have c4 : Steps p.tables e below (s₁.setTop (entryFrame m #[.ref x] 1)) (T2.setTop (mkF m 13 #[.val (.ref x)] [.int 0])) := c3.trans (by
      refine XS.ifYes X2.here hexec rfl (pc0 := 5) rfl (hb hbytes d5) rfl (i0_ne_t (nz32 v31 (by omega))) (by decide) rfl ?_
      refine iconstV X2.here hexec rfl 0 (hb hbytes d12) (by decide) ?_
      exact Steps.refl _)
    exact ⟨T2, some (.int 0), _, _, _, X2, rfl, rfl, rfl, (fun h => by cases h), ⟨by rw [if_neg h0], hh2⟩, fun fs hl => c4.trans (X2.ireturnOut hexec hret rfl (Or.inr (Or.inl rfl)) (hb hbytes d13) hl)⟩
theorem pays {l : Launch} {R : Room} {p : Program} {e : Env} {below : List Frame} {s : State} {sargs : Array Value} {len W : Nat} (x t : Addr) (V : Cell) (cd : Int32) (n : Nat) (f : Nat → Int32) (htab : tab.before sargs s = true) (hfr : 1 ≤ R.frames) (hlo : W + 12 ≤ R.locals) :
    Back l R p e below s sargs yN len W (fun A₁ a₁ => A₁.cells + 0 ≤ R.cells ∧ A₁.slots + 0 ≤ R.slots ∧ P x t V cd n f a₁ A₁.U) (fun A₁ _ v₁ B₁ => E n v₁ A₁.U B₁.U ∧ B₁.locs = A₁.locs ++ [] ∧ B₁.cells = A₁.cells + 0 ∧ B₁.slots = A₁.slots + 0) :=
  (law l x t V cd n f).pays htab hfr (by omega)
end Emp
end StrChars
namespace StrChars.Road
open Jvm Sem ClassFile Op Lib Jvm.Stand Jvm.Free Jvm.Free.XT
open Jvm.Lib.Cold (StaticIs)
/-- the words of String.isEmpty() -/
abbrev wordsEmp : List Jvm.Cond := [.code Emp.yN Emp.yB 1 (some .boolean), .initialized ST, .fieldLink ST 9 ST "value" "[B"]
theorem tabEmp_of {a : Array Value} {s : State} (h : ∀ w ∈ wordsEmp, w.before a s = true) : Emp.tab.before a s = true := unparts (wk h (.code Emp.yN Emp.yB 1 (some .boolean))) (wks h (.initialized Emp.yN.cls :: Emp.site))
theorem movedEmp {Z s : State} {a0 args : Array Value} (hZ : Z.Warmed39 s.vm) (hw : ∀ d ∈ wordsEmp, d.before a0 Z = true) : ∀ d ∈ wordsEmp, d.before args s = true := fun d hd => by
  have t : ∀ d ∈ wordsEmp, (d.onTables && d.keepsFace) = true := by decide +kernel
  exact RoadKit.mv hZ (hw d hd) (t d hd)
/-- the road's facts of a String, as the laws ask it -/
theorem txt_of {Z U : State} {a0 : Array Value} {kI : Nat} (wi : (Jvm.Cond.instantiable ST kI).before a0 Z = true) (al : Z.vm.Alike U.vm) {x t : Addr} {kb : ClassId} {cs : List Int32} {cd N2 : Int32} {vs : List Value} (E : RoadKit.Exa Z U.heap x ST) (V : RoadKit.Fld Z U.heap x ST "value" "[B" (.ref t)) (C : RoadKit.Fld Z U.heap x ST "coder" "B" (.int cd)) (K : RoadKit.Arv Z U.heap t kb .byte N2 vs (.int 0)) (hc : CodA cs cd N2 vs) (hb : ∀ c ∈ cs, ¬ c < 0 ∧ ¬ (65535 : Int32) < c) (l2 : cs.length ≤ 4000) :
    ∃ A, Txt x t A cd cs.length (fun j => cs.getD j 0) U := by
  obtain ⟨A, K1, K2, K3, K4, K5, K6⟩ := K
  have hcod := hc.cod (by omega) K3 K5
  obtain ⟨D, fV, fC, hB, F1, F2, g1, g2, -, -⟩ := strObj wi al E V C
  exact ⟨A, ⟨_, hB.2.2.1, D, hB.1, rfl, by cases q : D.vm <;> first | rfl | exact absurd q (hB.2.1.2 _)⟩, Has.of hB F1 g1, Has.of hB F2 g2, ⟨K1.1, State.isArrayOf_alike al K1.2.1, K1.2.2, by rcases hcod with ⟨-, q, -⟩ | ⟨-, q, -⟩ <;> omega⟩, hcod, fun j hj => by
    have e : cs.getD j 0 = cs[j] := by simp [List.getD_eq_getElem?_getD, hj]
    show ¬ cs.getD j 0 < 0 ∧ ¬ 65535 < cs.getD j 0
    rw [e]; exact hb _ (List.getElem_mem _)⟩
/-- **isEmpty() OF SUCH A STRING** -/
theorem empW {p : Program} {l : Launch} {e : Env} {R : Room} {s : State} {args : Array Value} {below : List Frame} {len W : Nat} {Z : State} {a0 : Array Value} {h : Heap} (hZ : Z.Warmed39 s.vm) (hw : ∀ d ∈ wordsEmp, d.before a0 Z = true) {kI : Nat} (wi : (Jvm.Cond.instantiable ST kI).before a0 Z = true)
    {x t : Addr} {kb : ClassId} {cs : List Int32} {cd N2 : Int32} {vs : List Value} (E : RoadKit.Exa Z h x ST) (V : RoadKit.Fld Z h x ST "value" "[B" (.ref t)) (C : RoadKit.Fld Z h x ST "coder" "B" (.int cd)) (K : RoadKit.Arv Z h t kb .byte N2 vs (.int 0)) (hc : CodA cs cd N2 vs) (hb : ∀ c ∈ cs, ¬ c < 0 ∧ ¬ (65535 : Int32) < c) (l2 : cs.length ≤ 4000) (hfr : 1 ≤ R.frames) (hlo : W + 12 ≤ R.locals) :
    Back l R p e below s args (⟨"java/lang/String", "isEmpty", "()Z"⟩ : MethodName) len W (fun P a => a = #[.ref x] ∧ P.U.heap = h ∧ P.cells + 0 ≤ R.cells ∧ P.slots + 0 ≤ R.slots)
      (fun P _ v B => ∃ L, (v = some (.int (if cs.length = 0 then 1 else 0)) ∧ L = [] ∧ B.U.heap = h) ∧ B.locs = P.locs ++ L ∧ B.cells = P.cells + 0 ∧ B.slots = P.slots + 0) := by
  intro m meth c P g ig mk a X hg hsize hdg hW hn hp'
  obtain ⟨rfl, rfl, r1, r2⟩ := hp'
  have al : Z.vm.Alike P.U.vm := hZ.alike.trans X.warmed.alike
  obtain ⟨A, hx⟩ := txt_of wi al E V C K hc hb l2
  obtain ⟨v, B, X', ⟨⟨hv, hh⟩, hl, hk, hs⟩, st⟩ := Emp.pays x t A cd cs.length (fun j => cs.getD j 0) (tabEmp_of (movedEmp hZ hw)) hfr hlo m meth c P g ig mk _ X hg hsize hdg hW hn ⟨r1, r2, rfl, hx⟩
  exact ⟨v, B, X', ⟨[], ⟨hv, rfl, hh⟩, hl, hk, hs⟩, st⟩
end StrChars.Road
end Jvm.Pilot.@@N@@
namespace Jvm.Pilot.@@N@@
open Jvm Jvm.ClassFile Sem Op Lib Jvm.Free Jvm.Stand Jvm.LawKit Jvm.RoadKit Bundle Jvm.Pilot.@@N@@.Jvm.D
section OwnStr
variable {p : Program} {l : Launch} {e : Env} {R : Room} {args : Array Value} {below : List Frame} {Z : State} {a0 : Array Value} {h h' : Heap} {ws : List Addr} {a t : Addr} {cs ds : List Int32}
/-- the object at a is a String of the chars cs; its bytes lie at t -/
def Str (Z : State) (h : Heap) (a t : Addr) (cs : List Int32) : Prop := (∀ c ∈ cs, ¬ c < 0 ∧ ¬ (65535 : Int32) < c) ∧ cs.length ≤ 4000 ∧ Exa Z h a "java/lang/String" ∧ Fld Z h a "java/lang/String" "value" "[B" (.ref t) ∧
  ∃ (cd N2 : Int32) (vs : List Value) (kb : ClassId), Fld Z h a "java/lang/String" "coder" "B" (.int cd) ∧ Arv Z h t kb .byte N2 vs (.int 0) ∧ StrChars.Road.CodA cs cd N2 vs
theorem Str.exa (F : Str Z h a t cs) : Exa Z h a "java/lang/String" := F.2.2.1
theorem Str.lt (F : Str Z h a t cs) : a < h.size := F.2.2.1.lt
theorem Str.ltt (F : Str Z h a t cs) : t < h.size := by obtain ⟨_, _, _, _, _, _, _, _, _, A, _⟩ := F; exact A.lt
theorem Str.keep (F : Str Z h a t cs) (K : Keep h h' ws) (q : a ∉ ws) (r : t ∉ ws) : Str Z h' a t cs := by
  obtain ⟨h1, h2, h3, h4, cd, N2, vs, kb, h5, h6, h7⟩ := F
  exact ⟨h1, h2, h3.keep K, h4.keep K q, cd, N2, vs, kb, h5.keep K q, h6.keep K r, h7⟩
theorem Str.ext (F : Str Z h a t cs) (E : Ext h h') : Str Z h' a t cs := by
  obtain ⟨h1, h2, h3, h4, cd, N2, vs, kb, h5, h6, h7⟩ := F
  exact ⟨h1, h2, h3.ext E, h4.ext E, cd, N2, vs, kb, h5.ext E, h6.ext E, h7⟩
theorem up255 (h : ∀ c ∈ cs, ¬ c < 0 ∧ ¬ (255 : Int32) < c) : ∀ c ∈ cs, ¬ c < 0 ∧ ¬ (65535 : Int32) < c := fun c hc => ⟨(h c hc).1, fun q => (h c hc).2 (by rw [Int32.lt_iff_toInt_lt] at q ⊢; have e1 : (65535 : Int32).toInt = 65535 := rfl; have e2 : (255 : Int32).toInt = 255 := rfl; omega)⟩
/-- what backArv leaves is such a String -/
theorem str_of {kb : ClassId} (hp : ∀ c ∈ cs, ¬ c < 0 ∧ ¬ (255 : Int32) < c) (l2 : cs.length ≤ 4000) (E : Exa Z h a "java/lang/String") (F : Fld Z h a "java/lang/String" "value" "[B" (.ref t)) (C : Fld Z h a "java/lang/String" "coder" "B" (.int 0)) {zn : Int32} (hz : zn = Int32.ofNat cs.length) {vs : List Value} (hv : vs = cs.map fun c => Value.int (StrChars.lo8 c)) (A : Arv Z h t kb .byte zn vs (.int 0)) : Str Z h a t cs :=
  ⟨up255 hp, l2, E, F, 0, zn, vs, kb, C, A, Or.inl ⟨rfl, hz, hv, fun c hc => (hp c hc).2⟩⟩
theorem lat_and (x : Int32) : ¬ (x &&& (255 : Int32)) < 0 ∧ ¬ (255 : Int32) < (x &&& (255 : Int32)) := by
  have q := c_and x 255 (by decide)
  have e : (255 : Int32).toInt = 255 := rfl
  have z : (0 : Int32).toInt = 0 := rfl
  rw [Int32.lt_iff_toInt_lt, Int32.lt_iff_toInt_lt]; omega
theorem nar_id {c : Int32} (h0 : ¬ c < 0) (h1 : ¬ (65535 : Int32) < c) : nar .char c = c := by
  have q := c_i2c c
  have e1 : (65535 : Int32).toInt = 65535 := rfl
  have e2 : (0 : Int32).toInt = 0 := rfl
  rw [Int32.lt_iff_toInt_lt] at h0 h1
  apply Int32.toInt_inj.mp
  show c.toUInt32.toUInt16.toUInt32.toInt32.toInt = c.toInt
  omega
theorem lat_nar {c : Int32} (q : ¬ c < 0 ∧ ¬ (255 : Int32) < c) : ¬ nar .char c < 0 ∧ ¬ (255 : Int32) < nar .char c := by
  rw [nar_id q.1 (fun r => q.2 (by rw [Int32.lt_iff_toInt_lt] at r ⊢; have e1 : (65535 : Int32).toInt = 65535 := rfl; have e2 : (255 : Int32).toInt = 255 := rfl; omega))]; exact q
theorem mem2 {P : Int32 → Prop} {x : Int32} {L : List Int32} (q : P x) (r : ∀ c ∈ L, P c) : ∀ c ∈ x :: L, P c := fun c hc => (List.mem_cons.mp hc).elim (fun u => u ▸ q) (r c)
theorem mem0 {P : Int32 → Prop} : ∀ c ∈ ([] : List Int32), P c := fun _ q => nomatch q
/-- new String(char[]), 1 to 4,000 chars, each 0 to 255 -/
theorem payNew {W n : Nat} (hws : ∀ d ∈ StrChars.Road.words, d.before a0 Z = true) (wi : (Jvm.Cond.instantiable "java/lang/String" 4).before a0 Z = true) {x b : Addr} {kC : ClassId} {dv v0 c0 : Value} {z N : Int32} (E : Exa Z h x "java/lang/String") (V : Fld Z h x "java/lang/String" "value" "[B" v0) (C : Fld Z h x "java/lang/String" "coder" "B" c0) (K : Arv Z h b kC .char N (cs.map Value.int) dv)
    (S : Sta Z h "java/lang/String" "COMPACT_STRINGS" "Z" (.int z)) (hz : ¬ z = 0) (hn : cs.length = n) (hN : N = Int32.ofNat n) (l0 : 0 < n) (l2 : n ≤ 4000) (hp : ∀ c ∈ cs, ¬ c < 0 ∧ ¬ (255 : Int32) < c) (hfr : 4 ≤ R.frames) (hlo : W + 65 ≤ R.locals) :
    PayN l R p e below args Z (⟨"java/lang/String", "<init>", "([C)V"⟩ : MethodName) W #[.ref x, .ref b] h 1 n [x] (fun v h' => v = none ∧ ∃ t, @Eq Nat t h.size ∧ h'.size > t ∧ Str Z h' x t cs) := fun s hZ => by
  subst hn hN
  refine Back.mono (StrChars.Road.backArv hZ hws wi E V C K S hz (Int32.toNatClampNeg_ofNat_of_lt (by omega)) l0 (by omega) (fun c hc => (hp c hc).2) hfr hlo) (fun P a hp => hp) (fun P a v B hp' hq => ?_)
  obtain ⟨L, ⟨q1, q2, q3, q4, q5, q6, q7, ⟨kb, v1, v2⟩, q9⟩, hl, hc, hs⟩ := hq
  exact ⟨L, ⟨⟨q1, h.size, rfl, (by show h.size < _; omega), str_of hp l2 q5 q6 q7 rfl rfl v2⟩, fun y hy => Or.inl (by rw [q2 y hy]; exact List.mem_singleton.mpr rfl), q3⟩, hl, hc, hs⟩
theorem payLen {W : Nat} (hws : ∀ d ∈ StrChars.Road.wordsLen, d.before a0 Z = true) (wi : (Jvm.Cond.instantiable "java/lang/String" 4).before a0 Z = true) {x : Addr} {z : Int32} (F : Str Z h x t cs) (S : Sta Z h "java/lang/String" "COMPACT_STRINGS" "Z" (.int z)) (hz : ¬ z = 0) (hfr : 2 ≤ R.frames) (hlo : W + 25 ≤ R.locals) :
    PayN l R p e below args Z (⟨"java/lang/String", "length", "()I"⟩ : MethodName) W #[.ref x] h 0 0 [] (fun v h' => v = some (.int (Int32.ofNat cs.length)) ∧ h = h') := fun s hZ => by
  obtain ⟨h1, h2, h3, h4, cd, N2, vs, kb, h5, h6, h7⟩ := F
  refine Back.mono (StrChars.Road.lenW hZ hws wi h3 h4 h5 h6 h7 h1 S hz h2 hfr hlo) (fun P a hp => hp) (fun P a v B hp' hq => ?_)
  obtain ⟨L, ⟨q1, rfl, q3⟩, hl, hc, hs⟩ := hq
  exact ⟨[], ⟨⟨q1, q3.symm⟩, (fun y hy => nomatch hy), by rw [q3]; exact Keep.refl _ _⟩, hl, hc, hs⟩
theorem payEmp {W : Nat} (hws : ∀ d ∈ StrChars.Road.wordsEmp, d.before a0 Z = true) (wi : (Jvm.Cond.instantiable "java/lang/String" 4).before a0 Z = true) {x : Addr} (F : Str Z h x t cs) (hfr : 1 ≤ R.frames) (hlo : W + 12 ≤ R.locals) :
    PayN l R p e below args Z (⟨"java/lang/String", "isEmpty", "()Z"⟩ : MethodName) W #[.ref x] h 0 0 [] (fun v h' => v = some (.int (if cs.length = 0 then 1 else 0)) ∧ h = h') := fun s hZ => by
  obtain ⟨h1, h2, h3, h4, cd, N2, vs, kb, h5, h6, h7⟩ := F
  refine Back.mono (StrChars.Road.empW hZ hws wi h3 h4 h5 h6 h7 h1 h2 hfr hlo) (fun P a hp => hp) (fun P a v B hp' hq => ?_)
  obtain ⟨L, ⟨q1, rfl, q3⟩, hl, hc, hs⟩ := hq
  exact ⟨[], ⟨⟨q1, q3.symm⟩, (fun y hy => nomatch hy), by rw [q3]; exact Keep.refl _ _⟩, hl, hc, hs⟩
end OwnStr
end Jvm.Pilot.@@N@@
namespace Jvm.Pilot.@@N@@
open Jvm Jvm.ClassFile Sem Op Lib Jvm.Free Jvm.Stand Jvm.LawKit Jvm.RoadKit Bundle Jvm.Pilot.@@N@@.Jvm.D
section OwnStart
variable {args : Array Value} {s : State} {t u : Term} {a : Addr}
theorem ev_int {n : Int32} (q : (Jvm.Cond.eq t (.int n)).value args s none s [] = some true) : t.eval args s none [] s = some (.int n) := by
  obtain ⟨x, y, h1, h2, k1, k2⟩ := cmp_v (Or.inl q)
  cases h2.symm.trans (Term.int_eval n)
  obtain ⟨z, rfl⟩ := k2
  have := gotT (Cond.eq_ints h1 (Term.int_eval n)) q
  rw [h1, this]
theorem ev_ref {y : Addr} (q : (Jvm.Cond.eq t u).value args s none s [] = some true) (hu : u.eval args s none [] s = some (.ref y)) : t.eval args s none [] s = some (.ref y) := by
  obtain ⟨x, y', h1, h2, k1, k2⟩ := cmp_v (Or.inl q)
  cases hu.symm.trans h2
  have hx : x.isRef = true := k2.2
  have := gotT (eq_R h1 hu hx rfl) q
  rw [h1, this]
theorem fld_start {C n d : String} {v : Value} (ev : t.eval args s none [] s = some (.ref a)) (q : (Term.field t C n d).eval args s none [] s = some v) : Fld s s.heap a C n d v := Fld.start ((fld_at ev).symm.trans q)
theorem hasL_of {cl : Cell} {dv : Value} : ∀ (vs : List Value) (i : Nat), (∀ j, j < vs.length → cl.slots[i + j]? = some (vs.getD j dv)) → HasL cl i vs
  | [], _, _ => trivial
  | v :: r, i, H => ⟨by have := H 0 (by simp); simpa using this, hasL_of r (i + 1) fun j hj => by
      have := H (j + 1) (by simpa using hj)
      rw [show i + 1 + j = i + (j + 1) by omega]; simpa using this⟩
theorem arr_start {ty : FieldType} {n : Int32} {vs : List Value} {dv : Value} (hfit : Fit s) (ev : t.eval args s none [] s = some (.ref a)) (q1 : (Jvm.Cond.arrayOf t ty).value args s none s [] = some true) (q2 : (Jvm.Cond.eq (.length t) (.int n)).value args s none s [] = some true) (hn : ¬ n < 0) (hl : n.toNatClampNeg = vs.length)
    (q3 : ∀ j, j < vs.length → (Term.elem t (.int (Int32.ofNat j))).eval args s none [] s = some (vs.getD j dv)) : ∃ k, Arv s s.heap a k ty n vs dv := by
  obtain ⟨cl, A⟩ := Arr.start ev q1
  have hat : s.arrayAt? a = some cl := A.fin (Vm.Alike.refl _)
  have hlen := ev_int q2
  have h31 := Jvm.Free.SBG.length_lt ev hat hlen
  have e := len_f ev hat h31
  have e2 : cl.slots.size.toInt32 = n := by
    have q := Option.some.inj (e.symm.trans hlen)
    injection q
  have hsz : vs.length < 2 ^ 31 := by
    rw [← hl]; have := Int32.toInt_lt n; simp only [Int32.toNatClampNeg]; omega
  refine ⟨cl.cls, Arv.start hfit A h31 e2 hn hl (hasL_of (dv := dv) vs 0 fun j hj => ?_)⟩
  have q := (elem_in (q3 j hj) ev (Term.int_eval _) A.1).2
  rw [Int32.toNatClampNeg_ofNat_of_lt (Nat.lt_trans hj hsz)] at q
  rw [Nat.zero_add]; exact q
theorem str_start {cs : List Int32} (hfit : Fit s) (ev : t.eval args s none [] s = some (.ref a)) (q1 : (Jvm.Cond.exactly t "java/lang/String").value args s none s [] = some true) (q2 : (Jvm.Cond.eq (.field t "java/lang/String" "coder" "B") (.int 0)).value args s none s [] = some true) (q3 : (Jvm.Cond.arrayOf (.field t "java/lang/String" "value" "[B") .byte).value args s none s [] = some true)
    (q4 : (Jvm.Cond.eq (.length (.field t "java/lang/String" "value" "[B")) (.int (Int32.ofNat cs.length))).value args s none s [] = some true) (hp : ∀ c ∈ cs, ¬ c < 0 ∧ ¬ (255 : Int32) < c) (l2 : cs.length ≤ 4000)
    (q5 : ∀ j, j < cs.length → (Term.elem (.field t "java/lang/String" "value" "[B") (.int (Int32.ofNat j))).eval args s none [] s = some ((cs.map fun c => Value.int (StrChars.lo8 c)).getD j (.int 0))) : ∃ b, Str s s.heap a b cs := by
  obtain ⟨b, eb⟩ := arr_v q3
  have hz : ¬ (Int32.ofNat cs.length) < 0 := by
    rw [Int32.lt_iff_toInt_lt, len_toInt (n := cs.length) (by omega)]; show ¬ ((cs.length : Int) < 0); omega
  obtain ⟨k, A⟩ := arr_start (dv := .int 0) hfit eb q3 q4 hz (by rw [List.length_map]; exact Int32.toNatClampNeg_ofNat_of_lt (by omega)) (fun j hj => q5 j (by simpa using hj))
  exact ⟨b, str_of hp l2 (Exa.start ev q1) (fld_start ev eb) (fld_start ev (ev_int q2)) rfl rfl A⟩
end OwnStart
end Jvm.Pilot.@@N@@
namespace Jvm.Pilot.@@N@@
open Jvm Jvm.ClassFile Sem Op Lib Jvm.Free Jvm.Stand Jvm.LawKit Jvm.RoadKit Bundle Jvm.Pilot.@@N@@.Jvm.D
theorem hws_new {Z : State} {a0 : Array Value} (hw : ∀ d ∈ tables_1, d.before a0 Z = true) : ∀ d ∈ StrChars.Road.words, d.before a0 Z = true := fun d hd => hw d ((by decide +kernel : ∀ d ∈ StrChars.Road.words, d ∈ tables_1) d hd)
theorem hws_len {Z : State} {a0 : Array Value} (hw : ∀ d ∈ tables_1, d.before a0 Z = true) : ∀ d ∈ StrChars.Road.wordsLen, d.before a0 Z = true := fun d hd => hw d ((by decide +kernel : ∀ d ∈ StrChars.Road.wordsLen, d ∈ tables_1) d hd)
theorem hws_emp {Z : State} {a0 : Array Value} (hw : ∀ d ∈ tables_1, d.before a0 Z = true) : ∀ d ∈ StrChars.Road.wordsEmp, d.before a0 Z = true := fun d hd => hw d ((by decide +kernel : ∀ d ∈ StrChars.Road.wordsEmp, d ∈ tables_1) d hd)
theorem hws_sa {Z : State} {a0 : Array Value} (hw : ∀ d ∈ tables_1, d.before a0 Z = true) : ∀ d ∈ Bundle.stringAtoms, d.before a0 Z = true := fun d hd => hw d ((by decide +kernel : ∀ d ∈ Bundle.stringAtoms, d ∈ tables_1) d hd)
theorem u_all {P : Nat → Prop} {M : Nat} (h : ∀ k : Fin (M + 1), P k.val) {n : Nat} (hn : n ≤ M) : P n := h ⟨n, by omega⟩
theorem u_shl {n : Nat} (hn : n ≤ 2) : (Int32.ofNat n) <<< ((1 : Int32) &&& 31) = Int32.ofNat (2 * n) := u_all (P := fun n => (Int32.ofNat n) <<< ((1 : Int32) &&& 31) = Int32.ofNat (2 * n)) (M := 2) (by decide +kernel) hn
theorem u_cod {n : Nat} (hn : n ≤ 2) (h0 : 0 < n) : XT.ushr (Int32.ofNat n - Int32.ofNat (2 * n)) (31 : Int32) = 1 := u_all (P := fun n => 0 < n → XT.ushr (Int32.ofNat n - Int32.ofNat (2 * n)) (31 : Int32) = 1) (M := 2) (by decide +kernel) hn h0
theorem u_big {n : Nat} (hn : n ≤ 2) : Int32.ofNat n < (1073741823 : Int32) := u_all (P := fun n => Int32.ofNat n < (1073741823 : Int32)) (M := 2) (by decide +kernel) hn
theorem u_nn {n : Nat} (hn : n ≤ 8000) : ¬ Int32.ofNat n < 0 := by
  rw [Int32.lt_iff_toInt_lt, len_toInt (n := n) (by omega)]; show ¬ ((n : Int) < 0); omega
theorem u_cl {n : Nat} (hn : n ≤ 8000) : (Int32.ofNat n).toNatClampNeg = n := Int32.toNatClampNeg_ofNat_of_lt (by omega)
theorem u_lt {i n : Nat} (h : i < n) (hn : n ≤ 8000) : Int32.ofNat i < Int32.ofNat n := by
  rw [Int32.lt_iff_toInt_lt, len_toInt (n := i) (by omega), len_toInt (n := n) (by omega)]; omega
theorem u_nlt {n : Nat} : ¬ Int32.ofNat n < Int32.ofNat n := by rw [Int32.lt_iff_toInt_lt]; omega
theorem u_ne {i n : Nat} (h : i ≠ n) (hi : i ≤ 8000) (hn : n ≤ 8000) : ¬ Int32.ofNat i = Int32.ofNat n := fun r => h (by
  have e := congrArg Int32.toInt r
  rw [len_toInt (n := i) (by omega), len_toInt (n := n) (by omega)] at e; omega)
theorem u_ne0 {n : Nat} (h : 0 < n) (hn : n ≤ 8000) : ¬ Int32.ofNat n = 0 := u_ne (n := 0) (by omega) hn (by omega)
theorem u_succ (i : Nat) : Int32.ofNat i + (1 : Int32) = Int32.ofNat (i + 1) := (Int32.ofNat_add i 1).symm
theorem u_lo (x : Int32) : nar .byte (nar .byte x) = StrChars.lo8 x := by
  show x.toInt8.toInt32.toInt8.toInt32 = x.toInt8.toInt32
  simp
theorem u_put (vs : List Value) (c : Int32) : (vs ++ [Value.int (nar .byte (nar .byte (c >>> ((0 : Int32) &&& 31))))]) ++ [Value.int (nar .byte (nar .byte (c >>> ((8 : Int32) &&& 31))))] = vs ++ [Value.int (StrChars.lo8 c), Value.int (StrChars.hi8 c)] := by
  rw [u_lo, u_lo, StrChars.shr0, List.append_assoc]; rfl
theorem u_wide (cs : List Int32) : (StrChars.Road.wideBytes cs).length = 2 * cs.length := by
  induction cs with
  | nil => rfl
  | cons c cs ih => show (StrChars.Road.wideBytes cs).length + 1 + 1 = 2 * (cs.length + 1); omega
theorem u_wapp (cs ds : List Int32) : StrChars.Road.wideBytes (cs ++ ds) = StrChars.Road.wideBytes cs ++ StrChars.Road.wideBytes ds := by
  induction cs with
  | nil => rfl
  | cons c cs ih => show _ :: _ :: StrChars.Road.wideBytes (cs ++ ds) = _ :: _ :: (StrChars.Road.wideBytes cs ++ StrChars.Road.wideBytes ds); rw [ih]
theorem u_take {cs : List Int32} {i : Nat} (hi : i < cs.length) : StrChars.Road.wideBytes (cs.take i) ++ [Value.int (StrChars.lo8 (cs.getD i 0)), Value.int (StrChars.hi8 (cs.getD i 0))] = StrChars.Road.wideBytes (cs.take (i + 1)) := by
  have e : cs.getD i 0 = cs[i] := by simp [List.getD_eq_getElem?_getD, hi]
  rw [List.take_succ_eq_append_getElem hi, u_wapp, e]; rfl
theorem u_mem {cs : List Int32} {i : Nat} (hi : i < cs.length) {P : Int32 → Prop} (h : ∀ c ∈ cs, P c) : P (cs.getD i 0) := by
  have e : cs.getD i 0 = cs[i] := by simp [List.getD_eq_getElem?_getD, hi]
  rw [e]; exact h _ (List.getElem_mem _)
theorem u_map {cs : List Int32} {i : Nat} (hi : i < cs.length) (d : Value) : (cs.map Value.int).getD i d = .int (cs.getD i 0) := by
  simp [List.getD_eq_getElem?_getD, hi]
theorem u_none {cs : List Int32} (h : ∀ j, j < cs.length → ¬ (255 : Int32) < cs.getD j 0) : ¬ ∃ c ∈ cs, (255 : Int32) < c := by
  rintro ⟨c, hc, hbig⟩
  obtain ⟨j, hj, rfl⟩ := List.getElem_of_mem hc
  have e : cs.getD j 0 = cs[j] := by simp [List.getD_eq_getElem?_getD, hj]
  have := h j hj
  rw [e] at this; exact this hbig
theorem u_pair {c : Int32} (h : ¬ c < 0 ∧ ¬ (65535 : Int32) < c) : nar .char (nar .char (((StrChars.lo8 c &&& (255 : Int32)) <<< ((0 : Int32) &&& 31)) ||| ((StrChars.hi8 c &&& (255 : Int32)) <<< ((8 : Int32) &&& 31)))) = c := by
  show nar .char (StrChars.pairCh (StrChars.lo8 c) (StrChars.hi8 c)) = c
  rw [StrChars.pair_says h.1 h.2]; exact nar_id h.1 h.2
theorem u_ref {v : Value} (h : v.isRef = true) : v = .null ∨ ∃ a, v = .ref a := by
  cases v <;> simp_all [Value.isRef]
theorem u_char (x : Int32) : ¬ nar .char x < 0 ∧ ¬ (65535 : Int32) < nar .char x := by
  have q := c_i2c x
  have e1 : (65535 : Int32).toInt = 65535 := rfl
  have e2 : (0 : Int32).toInt = 0 := rfl
  have e : (nar .char x).toInt = x.toUInt32.toUInt16.toUInt32.toInt32.toInt := rfl
  rw [Int32.lt_iff_toInt_lt, Int32.lt_iff_toInt_lt, e]; omega
theorem own_id16 {y : Int32} (q : ¬ y < 0 ∧ ¬ (255 : Int32) < y) : nar .char y = y := nar_id q.1 (fun r => q.2 (by rw [Int32.lt_iff_toInt_lt] at r ⊢; have e1 : (65535 : Int32).toInt = 65535 := rfl; have e2 : (255 : Int32).toInt = 255 := rfl; omega))
theorem own_lo47 {c : Int32} (q : ¬ c < 0 ∧ ¬ (255 : Int32) < c) (h : ¬ c = 47) : ¬ StrChars.lo8 c = nar .byte (47 : Int32) := fun r => h (by
  have e := StrChars.lo8_mask q.1 q.2
  rw [r] at e; rw [← e]; decide)
def Base (Z : State) (a0 : Array Value) (zc : Int32) (fm : Value) (aP : Addr) (aN : Addr) : Prop := (∀ d ∈ tables_1, d.before a0 Z = true) ∧ (Sta Z Z.heap "java/lang/String" "COMPACT_STRINGS" "Z" (.int zc)) ∧ (¬ zc = 0) ∧ (Sta Z Z.heap "jdk/internal/util/Preconditions" "SIOOBE_FORMATTER" "Ljava/util/function/BiFunction;" fm) ∧ (fm.isRef = true) ∧ (Sta Z Z.heap "java/lang/StringUTF16" "$assertionsDisabled" "Z" (.int 1)) ∧ (Sta Z Z.heap "java/lang/StringUTF16" "HI_BYTE_SHIFT" "I" (.int 0)) ∧ (Sta Z Z.heap "java/lang/StringUTF16" "LO_BYTE_SHIFT" "I" (.int 8)) ∧ (Sta Z Z.heap "com/example/veer32/veer32/bundle/TopicName$Domain" "PERSISTENT" "Lcom/example/veer32/veer32/bundle/TopicName$Domain;" (.ref aP)) ∧ (Sta Z Z.heap "com/example/veer32/veer32/bundle/TopicName$Domain" "NON_PERSISTENT" "Lcom/example/veer32/veer32/bundle/TopicName$Domain;" (.ref aN)) ∧ (Exa Z Z.heap aP "com/example/veer32/veer32/bundle/TopicName$Domain") ∧ (Exa Z Z.heap aN "com/example/veer32/veer32/bundle/TopicName$Domain")
theorem ef_c_ch (m : MethodId) (x0 : Int32) : entryFrame m #[(.int x0)] 2 = mkF m 0 #[.val (.int x0), .unset] [] := by first | (simp [entryFrame, mkF, argsToLocals, Value.category]; done) | rfl
theorem pn_com_example_veer32_veer32_bundle_TopicNameNamespaceNamePinLaw : plainName "com/example/veer32/veer32/bundle/TopicNameNamespaceNamePinLaw" = true := by first | (simp [plainName, overriddenIn]; done) | decide +kernel
theorem d_m2_0 : decode method_2_code 0 = .ok (.iload_n 0, 1) := by decide +kernel
theorem d_m2_1 : decode method_2_code 1 = .ok (.sipush 255, 3) := by decide +kernel
theorem d_m2_4 : decode method_2_code 4 = .ok (.iand, 1) := by decide +kernel
theorem d_m2_5 : decode method_2_code 5 = .ok (.istore_n 1, 1) := by decide +kernel
theorem d_m2_6 : decode method_2_code 6 = .ok (.iload_n 1, 1) := by decide +kernel
theorem d_m2_7 : decode method_2_code 7 = .ok (.bipush 47, 2) := by decide +kernel
theorem d_m2_9 : decode method_2_code 9 = .ok (.if_icmp .ne 7, 3) := by decide +kernel
theorem d_m2_12 : decode method_2_code 12 = .ok (.sipush 256, 3) := by decide +kernel
theorem d_m2_15 : decode method_2_code 15 = .ok (.istore_n 1, 1) := by decide +kernel
theorem d_m2_16 : decode method_2_code 16 = .ok (.iload_n 1, 1) := by decide +kernel
theorem d_m2_17 : decode method_2_code 17 = .ok (.i2c, 1) := by decide +kernel
theorem d_m2_18 : decode method_2_code 18 = .ok (.ireturn, 1) := by decide +kernel
theorem ef_c_put (m : MethodId) (x0 : Addr) (x1 : Int32) (x2 : Int32) : entryFrame m #[(.ref x0), (.int x1), (.int x2)] 3 = mkF m 0 #[.val (.ref x0), .val (.int x1), .val (.int x2)] [] := by first | (simp [entryFrame, mkF, argsToLocals, Value.category]; done) | rfl
theorem pn_java_lang_StringUTF16 : plainName "java/lang/StringUTF16" = true := by first | (simp [plainName, overriddenIn]; done) | decide +kernel
theorem d_jdk_52_m4_0 : decode jdk_52_method_4_code 0 = .ok (.getstatic 44, 3) := by decide +kernel
theorem d_jdk_52_m4_3 : decode jdk_52_method_4_code 3 = .ok (.ifCond .ne 25, 3) := by decide +kernel
theorem d_jdk_52_m4_28 : decode jdk_52_method_4_code 28 = .ok (.iload_n 1, 1) := by decide +kernel
theorem d_jdk_52_m4_29 : decode jdk_52_method_4_code 29 = .ok (.iconst 1, 1) := by decide +kernel
theorem d_jdk_52_m4_30 : decode jdk_52_method_4_code 30 = .ok (.ishl, 1) := by decide +kernel
theorem d_jdk_52_m4_31 : decode jdk_52_method_4_code 31 = .ok (.istore_n 1, 1) := by decide +kernel
theorem d_jdk_52_m4_32 : decode jdk_52_method_4_code 32 = .ok (.aload_n 0, 1) := by decide +kernel
theorem d_jdk_52_m4_33 : decode jdk_52_method_4_code 33 = .ok (.iload_n 1, 1) := by decide +kernel
theorem d_jdk_52_m4_34 : decode jdk_52_method_4_code 34 = .ok (.iinc 1 1, 3) := by decide +kernel
theorem d_jdk_52_m4_37 : decode jdk_52_method_4_code 37 = .ok (.iload_n 2, 1) := by decide +kernel
theorem d_jdk_52_m4_38 : decode jdk_52_method_4_code 38 = .ok (.getstatic 59, 3) := by decide +kernel
theorem d_jdk_52_m4_41 : decode jdk_52_method_4_code 41 = .ok (.ishr, 1) := by decide +kernel
theorem d_jdk_52_m4_42 : decode jdk_52_method_4_code 42 = .ok (.i2b, 1) := by decide +kernel
theorem d_jdk_52_m4_43 : decode jdk_52_method_4_code 43 = .ok (.bastore, 1) := by decide +kernel
theorem d_jdk_52_m4_44 : decode jdk_52_method_4_code 44 = .ok (.aload_n 0, 1) := by decide +kernel
theorem d_jdk_52_m4_45 : decode jdk_52_method_4_code 45 = .ok (.iload_n 1, 1) := by decide +kernel
theorem d_jdk_52_m4_46 : decode jdk_52_method_4_code 46 = .ok (.iload_n 2, 1) := by decide +kernel
theorem d_jdk_52_m4_47 : decode jdk_52_method_4_code 47 = .ok (.getstatic 63, 3) := by decide +kernel
theorem d_jdk_52_m4_50 : decode jdk_52_method_4_code 50 = .ok (.ishr, 1) := by decide +kernel
theorem d_jdk_52_m4_51 : decode jdk_52_method_4_code 51 = .ok (.i2b, 1) := by decide +kernel
theorem d_jdk_52_m4_52 : decode jdk_52_method_4_code 52 = .ok (.bastore, 1) := by decide +kernel
theorem d_jdk_52_m4_53 : decode jdk_52_method_4_code 53 = .ok (.return_, 1) := by decide +kernel
theorem ef_c_getc (m : MethodId) (x0 : Addr) (x1 : Int32) : entryFrame m #[(.ref x0), (.int x1)] 2 = mkF m 0 #[.val (.ref x0), .val (.int x1)] [] := by first | (simp [entryFrame, mkF, argsToLocals, Value.category]; done) | rfl
theorem d_jdk_52_m5_0 : decode jdk_52_method_5_code 0 = .ok (.getstatic 44, 3) := by decide +kernel
theorem d_jdk_52_m5_3 : decode jdk_52_method_5_code 3 = .ok (.ifCond .ne 25, 3) := by decide +kernel
theorem d_jdk_52_m5_28 : decode jdk_52_method_5_code 28 = .ok (.iload_n 1, 1) := by decide +kernel
theorem d_jdk_52_m5_29 : decode jdk_52_method_5_code 29 = .ok (.iconst 1, 1) := by decide +kernel
theorem d_jdk_52_m5_30 : decode jdk_52_method_5_code 30 = .ok (.ishl, 1) := by decide +kernel
theorem d_jdk_52_m5_31 : decode jdk_52_method_5_code 31 = .ok (.istore_n 1, 1) := by decide +kernel
theorem d_jdk_52_m5_32 : decode jdk_52_method_5_code 32 = .ok (.aload_n 0, 1) := by decide +kernel
theorem d_jdk_52_m5_33 : decode jdk_52_method_5_code 33 = .ok (.iload_n 1, 1) := by decide +kernel
theorem d_jdk_52_m5_34 : decode jdk_52_method_5_code 34 = .ok (.iinc 1 1, 3) := by decide +kernel
theorem d_jdk_52_m5_37 : decode jdk_52_method_5_code 37 = .ok (.baload, 1) := by decide +kernel
theorem d_jdk_52_m5_38 : decode jdk_52_method_5_code 38 = .ok (.sipush 255, 3) := by decide +kernel
theorem d_jdk_52_m5_41 : decode jdk_52_method_5_code 41 = .ok (.iand, 1) := by decide +kernel
theorem d_jdk_52_m5_42 : decode jdk_52_method_5_code 42 = .ok (.getstatic 59, 3) := by decide +kernel
theorem d_jdk_52_m5_45 : decode jdk_52_method_5_code 45 = .ok (.ishl, 1) := by decide +kernel
theorem d_jdk_52_m5_46 : decode jdk_52_method_5_code 46 = .ok (.aload_n 0, 1) := by decide +kernel
theorem d_jdk_52_m5_47 : decode jdk_52_method_5_code 47 = .ok (.iload_n 1, 1) := by decide +kernel
theorem d_jdk_52_m5_48 : decode jdk_52_method_5_code 48 = .ok (.baload, 1) := by decide +kernel
theorem d_jdk_52_m5_49 : decode jdk_52_method_5_code 49 = .ok (.sipush 255, 3) := by decide +kernel
theorem d_jdk_52_m5_52 : decode jdk_52_method_5_code 52 = .ok (.iand, 1) := by decide +kernel
theorem d_jdk_52_m5_53 : decode jdk_52_method_5_code 53 = .ok (.getstatic 63, 3) := by decide +kernel
theorem d_jdk_52_m5_56 : decode jdk_52_method_5_code 56 = .ok (.ishl, 1) := by decide +kernel
theorem d_jdk_52_m5_57 : decode jdk_52_method_5_code 57 = .ok (.ior, 1) := by decide +kernel
theorem d_jdk_52_m5_58 : decode jdk_52_method_5_code 58 = .ok (.i2c, 1) := by decide +kernel
theorem d_jdk_52_m5_59 : decode jdk_52_method_5_code 59 = .ok (.ireturn, 1) := by decide +kernel
theorem ef_c_nbl (m : MethodId) (x0 : Int32) : entryFrame m #[(.int x0)] 1 = mkF m 0 #[.val (.int x0)] [] := by first | (simp [entryFrame, mkF, argsToLocals, Value.category]; done) | rfl
theorem d_jdk_52_m3_0 : decode jdk_52_method_3_code 0 = .ok (.iload_n 0, 1) := by decide +kernel
theorem d_jdk_52_m3_1 : decode jdk_52_method_3_code 1 = .ok (.ifCond .ge 11, 3) := by decide +kernel
theorem d_jdk_52_m3_12 : decode jdk_52_method_3_code 12 = .ok (.iload_n 0, 1) := by decide +kernel
theorem d_jdk_52_m3_13 : decode jdk_52_method_3_code 13 = .ok (.ldc 20, 2) := by decide +kernel
theorem d_jdk_52_m3_15 : decode jdk_52_method_3_code 15 = .ok (.if_icmp .lt 40, 3) := by decide +kernel
theorem d_jdk_52_m3_55 : decode jdk_52_method_3_code 55 = .ok (.iload_n 0, 1) := by decide +kernel
theorem d_jdk_52_m3_56 : decode jdk_52_method_3_code 56 = .ok (.iconst 1, 1) := by decide +kernel
theorem d_jdk_52_m3_57 : decode jdk_52_method_3_code 57 = .ok (.ishl, 1) := by decide +kernel
theorem d_jdk_52_m3_58 : decode jdk_52_method_3_code 58 = .ok (.ireturn, 1) := by decide +kernel
theorem ef_c_nbf (m : MethodId) (x0 : Int32) : entryFrame m #[(.int x0)] 1 = mkF m 0 #[.val (.int x0)] [] := by first | (simp [entryFrame, mkF, argsToLocals, Value.category]; done) | rfl
theorem d_jdk_52_m2_0 : decode jdk_52_method_2_code 0 = .ok (.iload_n 0, 1) := by decide +kernel
theorem d_jdk_52_m2_1 : decode jdk_52_method_2_code 1 = .ok (.invokestatic 11, 3) := by decide +kernel
theorem pd__I_I : parseMethodDescriptor "(I)I" = some ⟨[.int], some .int⟩ := by decide +kernel
theorem d_jdk_52_m2_4 : decode jdk_52_method_2_code 4 = .ok (.newarray .byte, 2) := by decide +kernel
theorem d_jdk_52_m2_6 : decode jdk_52_method_2_code 6 = .ok (.areturn, 1) := by decide +kernel
theorem ef_c_tob (m : MethodId) (x0 : Addr) (x1 : Int32) (x2 : Int32) : entryFrame m #[(.ref x0), (.int x1), (.int x2)] 5 = mkF m 0 #[.val (.ref x0), .val (.int x1), .val (.int x2), .unset, .unset] [] := by first | (simp [entryFrame, mkF, argsToLocals, Value.category]; done) | rfl
theorem d_jdk_52_m14_0 : decode jdk_52_method_14_code 0 = .ok (.iload_n 2, 1) := by decide +kernel
theorem d_jdk_52_m14_1 : decode jdk_52_method_14_code 1 = .ok (.invokestatic 107, 3) := by decide +kernel
theorem pd__I_AB : parseMethodDescriptor "(I)[B" = some ⟨[.int], some (.array .byte)⟩ := by decide +kernel
theorem d_jdk_52_m14_4 : decode jdk_52_method_14_code 4 = .ok (.astore_n 3, 1) := by decide +kernel
theorem d_jdk_52_m14_5 : decode jdk_52_method_14_code 5 = .ok (.iconst 0, 1) := by decide +kernel
theorem d_jdk_52_m14_6 : decode jdk_52_method_14_code 6 = .ok (.istore 4, 2) := by decide +kernel
theorem d_jdk_52_m14_8 : decode jdk_52_method_14_code 8 = .ok (.iload 4, 2) := by decide +kernel
theorem d_jdk_52_m14_10 : decode jdk_52_method_14_code 10 = .ok (.iload_n 2, 1) := by decide +kernel
theorem d_jdk_52_m14_11 : decode jdk_52_method_14_code 11 = .ok (.if_icmp .ge 21, 3) := by decide +kernel
theorem d_jdk_52_m14_32 : decode jdk_52_method_14_code 32 = .ok (.aload_n 3, 1) := by decide +kernel
theorem d_jdk_52_m14_33 : decode jdk_52_method_14_code 33 = .ok (.areturn, 1) := by decide +kernel
theorem d_jdk_52_m14_14 : decode jdk_52_method_14_code 14 = .ok (.aload_n 3, 1) := by decide +kernel
theorem d_jdk_52_m14_15 : decode jdk_52_method_14_code 15 = .ok (.iload 4, 2) := by decide +kernel
theorem d_jdk_52_m14_17 : decode jdk_52_method_14_code 17 = .ok (.aload_n 0, 1) := by decide +kernel
theorem d_jdk_52_m14_18 : decode jdk_52_method_14_code 18 = .ok (.iload_n 1, 1) := by decide +kernel
theorem d_jdk_52_m14_19 : decode jdk_52_method_14_code 19 = .ok (.caload, 1) := by decide +kernel
theorem d_jdk_52_m14_20 : decode jdk_52_method_14_code 20 = .ok (.invokestatic 111, 3) := by decide +kernel
theorem pd__ABII_V : parseMethodDescriptor "([BII)V" = some ⟨[(.array .byte), .int, .int], none⟩ := by decide +kernel
theorem d_jdk_52_m14_23 : decode jdk_52_method_14_code 23 = .ok (.iinc 1 1, 3) := by decide +kernel
theorem d_jdk_52_m14_26 : decode jdk_52_method_14_code 26 = .ok (.iinc 4 1, 3) := by decide +kernel
theorem d_jdk_52_m14_29 : decode jdk_52_method_14_code 29 = .ok (.goto (-21), 3) := by decide +kernel
theorem ef_c_cmp5 (m : MethodId) (x0 : Addr) (x1 : Int32) (x2 : Addr) (x3 : Int32) (x4 : Int32) : entryFrame m #[(.ref x0), (.int x1), (.ref x2), (.int x3), (.int x4)] 7 = mkF m 0 #[.val (.ref x0), .val (.int x1), .val (.ref x2), .val (.int x3), .val (.int x4), .unset, .unset] [] := by first | (simp [entryFrame, mkF, argsToLocals, Value.category]; done) | rfl
theorem d_jdk_52_m21_0 : decode jdk_52_method_21_code 0 = .ok (.iconst 0, 1) := by decide +kernel
theorem d_jdk_52_m21_1 : decode jdk_52_method_21_code 1 = .ok (.istore 5, 2) := by decide +kernel
theorem d_jdk_52_m21_3 : decode jdk_52_method_21_code 3 = .ok (.iload 5, 2) := by decide +kernel
theorem d_jdk_52_m21_5 : decode jdk_52_method_21_code 5 = .ok (.iload 4, 2) := by decide +kernel
theorem d_jdk_52_m21_7 : decode jdk_52_method_21_code 7 = .ok (.if_icmp .ge 37, 3) := by decide +kernel
theorem d_jdk_52_m21_10 : decode jdk_52_method_21_code 10 = .ok (.aload_n 0, 1) := by decide +kernel
theorem d_jdk_52_m21_11 : decode jdk_52_method_21_code 11 = .ok (.iload_n 1, 1) := by decide +kernel
theorem d_jdk_52_m21_12 : decode jdk_52_method_21_code 12 = .ok (.caload, 1) := by decide +kernel
theorem d_jdk_52_m21_13 : decode jdk_52_method_21_code 13 = .ok (.istore 6, 2) := by decide +kernel
theorem d_jdk_52_m21_15 : decode jdk_52_method_21_code 15 = .ok (.iload 6, 2) := by decide +kernel
theorem d_jdk_52_m21_17 : decode jdk_52_method_21_code 17 = .ok (.sipush 255, 3) := by decide +kernel
theorem d_jdk_52_m21_20 : decode jdk_52_method_21_code 20 = .ok (.if_icmp .le 6, 3) := by decide +kernel
theorem d_jdk_52_m21_23 : decode jdk_52_method_21_code 23 = .ok (.iload 5, 2) := by decide +kernel
theorem d_jdk_52_m21_25 : decode jdk_52_method_21_code 25 = .ok (.ireturn, 1) := by decide +kernel
theorem d_jdk_52_m21_26 : decode jdk_52_method_21_code 26 = .ok (.aload_n 2, 1) := by decide +kernel
theorem d_jdk_52_m21_27 : decode jdk_52_method_21_code 27 = .ok (.iload_n 3, 1) := by decide +kernel
theorem d_jdk_52_m21_28 : decode jdk_52_method_21_code 28 = .ok (.iload 6, 2) := by decide +kernel
theorem d_jdk_52_m21_30 : decode jdk_52_method_21_code 30 = .ok (.i2b, 1) := by decide +kernel
theorem d_jdk_52_m21_31 : decode jdk_52_method_21_code 31 = .ok (.bastore, 1) := by decide +kernel
theorem d_jdk_52_m21_32 : decode jdk_52_method_21_code 32 = .ok (.iinc 1 1, 3) := by decide +kernel
theorem d_jdk_52_m21_35 : decode jdk_52_method_21_code 35 = .ok (.iinc 3 1, 3) := by decide +kernel
theorem d_jdk_52_m21_38 : decode jdk_52_method_21_code 38 = .ok (.iinc 5 1, 3) := by decide +kernel
theorem d_jdk_52_m21_41 : decode jdk_52_method_21_code 41 = .ok (.goto (-38), 3) := by decide +kernel
theorem ef_c_cmp3 (m : MethodId) (x0 : Addr) (x1 : Int32) (x2 : Int32) : entryFrame m #[(.ref x0), (.int x1), (.int x2)] 6 = mkF m 0 #[.val (.ref x0), .val (.int x1), .val (.int x2), .unset, .unset, .unset] [] := by first | (simp [entryFrame, mkF, argsToLocals, Value.category]; done) | rfl
theorem d_jdk_52_m16_0 : decode jdk_52_method_16_code 0 = .ok (.iload_n 2, 1) := by decide +kernel
theorem d_jdk_52_m16_1 : decode jdk_52_method_16_code 1 = .ok (.newarray .byte, 2) := by decide +kernel
theorem d_jdk_52_m16_3 : decode jdk_52_method_16_code 3 = .ok (.astore_n 3, 1) := by decide +kernel
theorem d_jdk_52_m16_4 : decode jdk_52_method_16_code 4 = .ok (.aload_n 0, 1) := by decide +kernel
theorem d_jdk_52_m16_5 : decode jdk_52_method_16_code 5 = .ok (.iload_n 1, 1) := by decide +kernel
theorem d_jdk_52_m16_6 : decode jdk_52_method_16_code 6 = .ok (.aload_n 3, 1) := by decide +kernel
theorem d_jdk_52_m16_7 : decode jdk_52_method_16_code 7 = .ok (.iconst 0, 1) := by decide +kernel
theorem d_jdk_52_m16_8 : decode jdk_52_method_16_code 8 = .ok (.iload_n 2, 1) := by decide +kernel
theorem d_jdk_52_m16_9 : decode jdk_52_method_16_code 9 = .ok (.invokestatic 115, 3) := by decide +kernel
theorem pd__ACIABII_I : parseMethodDescriptor "([CI[BII)I" = some ⟨[(.array .char), .int, (.array .byte), .int, .int], some .int⟩ := by decide +kernel
theorem d_jdk_52_m16_12 : decode jdk_52_method_16_code 12 = .ok (.istore 4, 2) := by decide +kernel
theorem d_jdk_52_m16_14 : decode jdk_52_method_16_code 14 = .ok (.iload 4, 2) := by decide +kernel
theorem d_jdk_52_m16_16 : decode jdk_52_method_16_code 16 = .ok (.iload_n 2, 1) := by decide +kernel
theorem d_jdk_52_m16_17 : decode jdk_52_method_16_code 17 = .ok (.if_icmp .eq 40, 3) := by decide +kernel
theorem d_jdk_52_m16_20 : decode jdk_52_method_16_code 20 = .ok (.aload_n 0, 1) := by decide +kernel
theorem d_jdk_52_m16_21 : decode jdk_52_method_16_code 21 = .ok (.iload_n 1, 1) := by decide +kernel
theorem d_jdk_52_m16_22 : decode jdk_52_method_16_code 22 = .ok (.iload_n 2, 1) := by decide +kernel
theorem d_jdk_52_m16_23 : decode jdk_52_method_16_code 23 = .ok (.invokestatic 119, 3) := by decide +kernel
theorem pd__ACII_AB : parseMethodDescriptor "([CII)[B" = some ⟨[(.array .char), .int, .int], some (.array .byte)⟩ := by decide +kernel
theorem d_jdk_52_m16_26 : decode jdk_52_method_16_code 26 = .ok (.astore 5, 2) := by decide +kernel
theorem d_jdk_52_m16_28 : decode jdk_52_method_16_code 28 = .ok (.aload 5, 2) := by decide +kernel
theorem d_jdk_52_m16_30 : decode jdk_52_method_16_code 30 = .ok (.iload 4, 2) := by decide +kernel
theorem d_jdk_52_m16_32 : decode jdk_52_method_16_code 32 = .ok (.invokestatic 71, 3) := by decide +kernel
theorem pd__ABI_C : parseMethodDescriptor "([BI)C" = some ⟨[(.array .byte), .int], some .char⟩ := by decide +kernel
theorem d_jdk_52_m16_35 : decode jdk_52_method_16_code 35 = .ok (.sipush 255, 3) := by decide +kernel
theorem d_jdk_52_m16_38 : decode jdk_52_method_16_code 38 = .ok (.if_icmp .gt 16, 3) := by decide +kernel
theorem d_jdk_52_m16_54 : decode jdk_52_method_16_code 54 = .ok (.aload 5, 2) := by decide +kernel
theorem d_jdk_52_m16_56 : decode jdk_52_method_16_code 56 = .ok (.areturn, 1) := by decide +kernel
theorem ef_c_codl (m : MethodId) (x0 : Addr) (x1 : Int32) : entryFrame m #[(.ref x0), (.int x1)] 2 = mkF m 0 #[.val (.ref x0), .val (.int x1)] [] := by first | (simp [entryFrame, mkF, argsToLocals, Value.category]; done) | rfl
theorem d_jdk_52_m15_0 : decode jdk_52_method_15_code 0 = .ok (.iload_n 1, 1) := by decide +kernel
theorem d_jdk_52_m15_1 : decode jdk_52_method_15_code 1 = .ok (.aload_n 0, 1) := by decide +kernel
theorem d_jdk_52_m15_2 : decode jdk_52_method_15_code 2 = .ok (.arraylength, 1) := by decide +kernel
theorem d_jdk_52_m15_3 : decode jdk_52_method_15_code 3 = .ok (.isub, 1) := by decide +kernel
theorem d_jdk_52_m15_4 : decode jdk_52_method_15_code 4 = .ok (.bipush 31, 2) := by decide +kernel
theorem d_jdk_52_m15_6 : decode jdk_52_method_15_code 6 = .ok (.iushr, 1) := by decide +kernel
theorem d_jdk_52_m15_7 : decode jdk_52_method_15_code 7 = .ok (.i2b, 1) := by decide +kernel
theorem d_jdk_52_m15_8 : decode jdk_52_method_15_code 8 = .ok (.ireturn, 1) := by decide +kernel
theorem ef_c_nwu4 (m : MethodId) (x0 : Addr) (x1 : Addr) (x2 : Int32) (x3 : Int32) : entryFrame m #[(.ref x0), (.ref x1), (.int x2), (.int x3), .null] 6 = mkF m 0 #[.val (.ref x0), .val (.ref x1), .val (.int x2), .val (.int x3), .val .null, .unset] [] := by first | (simp [entryFrame, mkF, argsToLocals, Value.category]; done) | rfl
theorem pn_java_lang_String : plainName "java/lang/String" = true := by first | (simp [plainName, overriddenIn]; done) | decide +kernel
theorem d_jdk_42_m149_0 : decode jdk_42_method_149_code 0 = .ok (.aload_n 0, 1) := by decide +kernel
theorem d_jdk_42_m149_1 : decode jdk_42_method_149_code 1 = .ok (.invokespecial 1, 3) := by decide +kernel
theorem d_jdk_42_m149_4 : decode jdk_42_method_149_code 4 = .ok (.iload_n 3, 1) := by decide +kernel
theorem d_jdk_42_m149_5 : decode jdk_42_method_149_code 5 = .ok (.ifCond .ne 22, 3) := by decide +kernel
theorem d_jdk_42_m149_27 : decode jdk_42_method_149_code 27 = .ok (.getstatic 38, 3) := by decide +kernel
theorem d_jdk_42_m149_30 : decode jdk_42_method_149_code 30 = .ok (.ifCond .eq 28, 3) := by decide +kernel
theorem d_jdk_42_m149_33 : decode jdk_42_method_149_code 33 = .ok (.aload_n 1, 1) := by decide +kernel
theorem d_jdk_42_m149_34 : decode jdk_42_method_149_code 34 = .ok (.iload_n 2, 1) := by decide +kernel
theorem d_jdk_42_m149_35 : decode jdk_42_method_149_code 35 = .ok (.iload_n 3, 1) := by decide +kernel
theorem d_jdk_42_m149_36 : decode jdk_42_method_149_code 36 = .ok (.invokestatic 177, 3) := by decide +kernel
theorem d_jdk_42_m149_39 : decode jdk_42_method_149_code 39 = .ok (.astore 5, 2) := by decide +kernel
theorem d_jdk_42_m149_41 : decode jdk_42_method_149_code 41 = .ok (.aload_n 0, 1) := by decide +kernel
theorem d_jdk_42_m149_42 : decode jdk_42_method_149_code 42 = .ok (.aload 5, 2) := by decide +kernel
theorem d_jdk_42_m149_44 : decode jdk_42_method_149_code 44 = .ok (.iload_n 3, 1) := by decide +kernel
theorem d_jdk_42_m149_45 : decode jdk_42_method_149_code 45 = .ok (.invokestatic 47, 3) := by decide +kernel
theorem pd__ABI_B : parseMethodDescriptor "([BI)B" = some ⟨[(.array .byte), .int], some .byte⟩ := by decide +kernel
theorem d_jdk_42_m149_48 : decode jdk_42_method_149_code 48 = .ok (.putfield 15, 3) := by decide +kernel
theorem d_jdk_42_m149_51 : decode jdk_42_method_149_code 51 = .ok (.aload_n 0, 1) := by decide +kernel
theorem d_jdk_42_m149_52 : decode jdk_42_method_149_code 52 = .ok (.aload 5, 2) := by decide +kernel
theorem d_jdk_42_m149_54 : decode jdk_42_method_149_code 54 = .ok (.putfield 9, 3) := by decide +kernel
theorem d_jdk_42_m149_57 : decode jdk_42_method_149_code 57 = .ok (.return_, 1) := by decide +kernel
theorem ef_c_nwu1 (m : MethodId) (x0 : Addr) (x1 : Addr) : entryFrame m #[(.ref x0), (.ref x1)] 2 = mkF m 0 #[.val (.ref x0), .val (.ref x1)] [] := by first | (simp [entryFrame, mkF, argsToLocals, Value.category]; done) | rfl
theorem d_jdk_42_m3_0 : decode jdk_42_method_3_code 0 = .ok (.aload_n 0, 1) := by decide +kernel
theorem d_jdk_42_m3_1 : decode jdk_42_method_3_code 1 = .ok (.aload_n 1, 1) := by decide +kernel
theorem d_jdk_42_m3_2 : decode jdk_42_method_3_code 2 = .ok (.iconst 0, 1) := by decide +kernel
theorem d_jdk_42_m3_3 : decode jdk_42_method_3_code 3 = .ok (.aload_n 1, 1) := by decide +kernel
theorem d_jdk_42_m3_4 : decode jdk_42_method_3_code 4 = .ok (.arraylength, 1) := by decide +kernel
theorem d_jdk_42_m3_5 : decode jdk_42_method_3_code 5 = .ok (.aconst_null, 1) := by decide +kernel
theorem d_jdk_42_m3_6 : decode jdk_42_method_3_code 6 = .ok (.invokespecial 27, 3) := by decide +kernel
theorem pd__ACIILjava_lang_Void__V : parseMethodDescriptor "([CIILjava/lang/Void;)V" = some ⟨[(.array .char), .int, .int, (.object "java/lang/Void")], none⟩ := by decide +kernel
theorem d_jdk_42_m3_9 : decode jdk_42_method_3_code 9 = .ok (.return_, 1) := by decide +kernel
theorem ef_c_part (m : MethodId) (x0 : Int32) : entryFrame m #[(.int x0)] 4 = mkF m 0 #[.val (.int x0), .unset, .unset, .unset] [] := by first | (simp [entryFrame, mkF, argsToLocals, Value.category]; done) | rfl
theorem d_m3_0 : decode method_3_code 0 = .ok (.iload_n 0, 1) := by decide +kernel
theorem d_m3_1 : decode method_3_code 1 = .ok (.invokestatic 7, 3) := by decide +kernel
theorem pd__I_C : parseMethodDescriptor "(I)C" = some ⟨[.int], some .char⟩ := by decide +kernel
theorem d_m3_4 : decode method_3_code 4 = .ok (.istore_n 1, 1) := by decide +kernel
theorem d_m3_5 : decode method_3_code 5 = .ok (.iload_n 0, 1) := by decide +kernel
theorem d_m3_6 : decode method_3_code 6 = .ok (.bipush 8, 2) := by decide +kernel
theorem d_m3_8 : decode method_3_code 8 = .ok (.iushr, 1) := by decide +kernel
theorem d_m3_9 : decode method_3_code 9 = .ok (.invokestatic 7, 3) := by decide +kernel
theorem d_m3_12 : decode method_3_code 12 = .ok (.istore_n 2, 1) := by decide +kernel
theorem d_m3_13 : decode method_3_code 13 = .ok (.iload_n 0, 1) := by decide +kernel
theorem d_m3_14 : decode method_3_code 14 = .ok (.bipush 16, 2) := by decide +kernel
theorem d_m3_16 : decode method_3_code 16 = .ok (.iushr, 1) := by decide +kernel
theorem d_m3_17 : decode method_3_code 17 = .ok (.iconst 1, 1) := by decide +kernel
theorem d_m3_18 : decode method_3_code 18 = .ok (.iand, 1) := by decide +kernel
theorem d_m3_19 : decode method_3_code 19 = .ok (.ifCond .ne 20, 3) := by decide +kernel
theorem d_m3_22 : decode method_3_code 22 = .ok (.iconst 1, 1) := by decide +kernel
theorem d_m3_23 : decode method_3_code 23 = .ok (.newarray .char, 2) := by decide +kernel
theorem d_m3_25 : decode method_3_code 25 = .ok (.astore_n 3, 1) := by decide +kernel
theorem d_m3_26 : decode method_3_code 26 = .ok (.aload_n 3, 1) := by decide +kernel
theorem d_m3_27 : decode method_3_code 27 = .ok (.iconst 0, 1) := by decide +kernel
theorem d_m3_28 : decode method_3_code 28 = .ok (.iload_n 1, 1) := by decide +kernel
theorem d_m3_29 : decode method_3_code 29 = .ok (.castore, 1) := by decide +kernel
theorem d_m3_30 : decode method_3_code 30 = .ok (.new 13, 3) := by decide +kernel
theorem d_m3_33 : decode method_3_code 33 = .ok (.dup, 1) := by decide +kernel
theorem d_m3_34 : decode method_3_code 34 = .ok (.aload_n 3, 1) := by decide +kernel
theorem d_m3_35 : decode method_3_code 35 = .ok (.invokespecial 15, 3) := by decide +kernel
theorem pd__AC_V : parseMethodDescriptor "([C)V" = some ⟨[(.array .char)], none⟩ := by decide +kernel
theorem d_m3_38 : decode method_3_code 38 = .ok (.areturn, 1) := by decide +kernel
theorem d_m3_39 : decode method_3_code 39 = .ok (.iconst 2, 1) := by decide +kernel
theorem d_m3_40 : decode method_3_code 40 = .ok (.newarray .char, 2) := by decide +kernel
theorem d_m3_42 : decode method_3_code 42 = .ok (.astore_n 3, 1) := by decide +kernel
theorem d_m3_43 : decode method_3_code 43 = .ok (.aload_n 3, 1) := by decide +kernel
theorem d_m3_44 : decode method_3_code 44 = .ok (.iconst 0, 1) := by decide +kernel
theorem d_m3_45 : decode method_3_code 45 = .ok (.iload_n 1, 1) := by decide +kernel
theorem d_m3_46 : decode method_3_code 46 = .ok (.castore, 1) := by decide +kernel
theorem d_m3_47 : decode method_3_code 47 = .ok (.aload_n 3, 1) := by decide +kernel
theorem d_m3_48 : decode method_3_code 48 = .ok (.iconst 1, 1) := by decide +kernel
theorem d_m3_49 : decode method_3_code 49 = .ok (.iload_n 2, 1) := by decide +kernel
theorem d_m3_50 : decode method_3_code 50 = .ok (.castore, 1) := by decide +kernel
theorem d_m3_51 : decode method_3_code 51 = .ok (.new 13, 3) := by decide +kernel
theorem d_m3_54 : decode method_3_code 54 = .ok (.dup, 1) := by decide +kernel
theorem d_m3_55 : decode method_3_code 55 = .ok (.aload_n 3, 1) := by decide +kernel
theorem d_m3_56 : decode method_3_code 56 = .ok (.invokespecial 15, 3) := by decide +kernel
theorem d_m3_59 : decode method_3_code 59 = .ok (.areturn, 1) := by decide +kernel
theorem ef_c_max (m : MethodId) (x0 : Int32) (x1 : Int32) : entryFrame m #[(.int x0), (.int x1)] 2 = mkF m 0 #[.val (.int x0), .val (.int x1)] [] := by first | (simp [entryFrame, mkF, argsToLocals, Value.category]; done) | rfl
theorem d_jdk_29_m65_0 : decode jdk_29_method_65_code 0 = .ok (.iload_n 0, 1) := by decide +kernel
theorem d_jdk_29_m65_1 : decode jdk_29_method_65_code 1 = .ok (.iload_n 1, 1) := by decide +kernel
theorem d_jdk_29_m65_2 : decode jdk_29_method_65_code 2 = .ok (.if_icmp .lt 7, 3) := by decide +kernel
theorem d_jdk_29_m65_5 : decode jdk_29_method_65_code 5 = .ok (.iload_n 0, 1) := by decide +kernel
theorem d_jdk_29_m65_6 : decode jdk_29_method_65_code 6 = .ok (.goto 4, 3) := by decide +kernel
theorem d_jdk_29_m65_10 : decode jdk_29_method_65_code 10 = .ok (.ireturn, 1) := by decide +kernel
theorem ef_c_min (m : MethodId) (x0 : Int32) (x1 : Int32) : entryFrame m #[(.int x0), (.int x1)] 2 = mkF m 0 #[.val (.int x0), .val (.int x1)] [] := by first | (simp [entryFrame, mkF, argsToLocals, Value.category]; done) | rfl
theorem d_jdk_29_m69_0 : decode jdk_29_method_69_code 0 = .ok (.iload_n 0, 1) := by decide +kernel
theorem d_jdk_29_m69_1 : decode jdk_29_method_69_code 1 = .ok (.iload_n 1, 1) := by decide +kernel
theorem d_jdk_29_m69_2 : decode jdk_29_method_69_code 2 = .ok (.if_icmp .gt 7, 3) := by decide +kernel
theorem d_jdk_29_m69_5 : decode jdk_29_method_69_code 5 = .ok (.iload_n 0, 1) := by decide +kernel
theorem d_jdk_29_m69_6 : decode jdk_29_method_69_code 6 = .ok (.goto 4, 3) := by decide +kernel
theorem d_jdk_29_m69_10 : decode jdk_29_method_69_code 10 = .ok (.ireturn, 1) := by decide +kernel
theorem ef_c_can (m : MethodId) (x0 : Int32) : entryFrame m #[(.int x0)] 1 = mkF m 0 #[.val (.int x0)] [] := by first | (simp [entryFrame, mkF, argsToLocals, Value.category]; done) | rfl
theorem pn_java_lang_StringLatin1 : plainName "java/lang/StringLatin1" = true := by first | (simp [plainName, overriddenIn]; done) | decide +kernel
theorem d_jdk_43_m4_0 : decode jdk_43_method_4_code 0 = .ok (.iload_n 0, 1) := by decide +kernel
theorem d_jdk_43_m4_1 : decode jdk_43_method_4_code 1 = .ok (.ifCond .lt 14, 3) := by decide +kernel
theorem d_jdk_43_m4_4 : decode jdk_43_method_4_code 4 = .ok (.iload_n 0, 1) := by decide +kernel
theorem d_jdk_43_m4_5 : decode jdk_43_method_4_code 5 = .ok (.sipush 255, 3) := by decide +kernel
theorem d_jdk_43_m4_8 : decode jdk_43_method_4_code 8 = .ok (.if_icmp .gt 7, 3) := by decide +kernel
theorem d_jdk_43_m4_11 : decode jdk_43_method_4_code 11 = .ok (.iconst 1, 1) := by decide +kernel
theorem d_jdk_43_m4_12 : decode jdk_43_method_4_code 12 = .ok (.goto 4, 3) := by decide +kernel
theorem d_jdk_43_m4_16 : decode jdk_43_method_4_code 16 = .ok (.ireturn, 1) := by decide +kernel
theorem ef_c_lic (m : MethodId) (x0 : Addr) (x1 : Int32) (x2 : Int32) (x3 : Int32) : entryFrame m #[(.ref x0), (.int x1), (.int x2), (.int x3)] 6 = mkF m 0 #[.val (.ref x0), .val (.int x1), .val (.int x2), .val (.int x3), .unset, .unset] [] := by first | (simp [entryFrame, mkF, argsToLocals, Value.category]; done) | rfl
theorem d_jdk_43_m23_0 : decode jdk_43_method_23_code 0 = .ok (.iload_n 1, 1) := by decide +kernel
theorem d_jdk_43_m23_1 : decode jdk_43_method_23_code 1 = .ok (.i2b, 1) := by decide +kernel
theorem d_jdk_43_m23_2 : decode jdk_43_method_23_code 2 = .ok (.istore 4, 2) := by decide +kernel
theorem d_jdk_43_m23_4 : decode jdk_43_method_23_code 4 = .ok (.iload_n 2, 1) := by decide +kernel
theorem d_jdk_43_m23_5 : decode jdk_43_method_23_code 5 = .ok (.istore 5, 2) := by decide +kernel
theorem d_jdk_43_m23_7 : decode jdk_43_method_23_code 7 = .ok (.iload 5, 2) := by decide +kernel
theorem d_jdk_43_m23_9 : decode jdk_43_method_23_code 9 = .ok (.iload_n 3, 1) := by decide +kernel
theorem d_jdk_43_m23_10 : decode jdk_43_method_23_code 10 = .ok (.if_icmp .ge 21, 3) := by decide +kernel
theorem d_jdk_43_m23_31 : decode jdk_43_method_23_code 31 = .ok (.iconst (-1), 1) := by decide +kernel
theorem d_jdk_43_m23_32 : decode jdk_43_method_23_code 32 = .ok (.ireturn, 1) := by decide +kernel
theorem d_jdk_43_m23_13 : decode jdk_43_method_23_code 13 = .ok (.aload_n 0, 1) := by decide +kernel
theorem d_jdk_43_m23_14 : decode jdk_43_method_23_code 14 = .ok (.iload 5, 2) := by decide +kernel
theorem d_jdk_43_m23_16 : decode jdk_43_method_23_code 16 = .ok (.baload, 1) := by decide +kernel
theorem d_jdk_43_m23_17 : decode jdk_43_method_23_code 17 = .ok (.iload 4, 2) := by decide +kernel
theorem d_jdk_43_m23_19 : decode jdk_43_method_23_code 19 = .ok (.if_icmp .ne 6, 3) := by decide +kernel
theorem d_jdk_43_m23_25 : decode jdk_43_method_23_code 25 = .ok (.iinc 5 1, 3) := by decide +kernel
theorem d_jdk_43_m23_28 : decode jdk_43_method_23_code 28 = .ok (.goto (-21), 3) := by decide +kernel
theorem ef_c_lio (m : MethodId) (x0 : Addr) (x1 : Int32) (x2 : Int32) (x3 : Int32) : entryFrame m #[(.ref x0), (.int x1), (.int x2), (.int x3)] 4 = mkF m 0 #[.val (.ref x0), .val (.int x1), .val (.int x2), .val (.int x3)] [] := by first | (simp [entryFrame, mkF, argsToLocals, Value.category]; done) | rfl
theorem d_jdk_43_m22_0 : decode jdk_43_method_22_code 0 = .ok (.iload_n 1, 1) := by decide +kernel
theorem d_jdk_43_m22_1 : decode jdk_43_method_22_code 1 = .ok (.invokestatic 88, 3) := by decide +kernel
theorem pd__I_Z : parseMethodDescriptor "(I)Z" = some ⟨[.int], some .boolean⟩ := by decide +kernel
theorem d_jdk_43_m22_4 : decode jdk_43_method_22_code 4 = .ok (.ifCond .ne 5, 3) := by decide +kernel
theorem d_jdk_43_m22_9 : decode jdk_43_method_22_code 9 = .ok (.iload_n 2, 1) := by decide +kernel
theorem d_jdk_43_m22_10 : decode jdk_43_method_22_code 10 = .ok (.iconst 0, 1) := by decide +kernel
theorem d_jdk_43_m22_11 : decode jdk_43_method_22_code 11 = .ok (.invokestatic 92, 3) := by decide +kernel
theorem pd__II_I : parseMethodDescriptor "(II)I" = some ⟨[.int, .int], some .int⟩ := by decide +kernel
theorem d_jdk_43_m22_14 : decode jdk_43_method_22_code 14 = .ok (.istore_n 2, 1) := by decide +kernel
theorem d_jdk_43_m22_15 : decode jdk_43_method_22_code 15 = .ok (.iload_n 3, 1) := by decide +kernel
theorem d_jdk_43_m22_16 : decode jdk_43_method_22_code 16 = .ok (.aload_n 0, 1) := by decide +kernel
theorem d_jdk_43_m22_17 : decode jdk_43_method_22_code 17 = .ok (.arraylength, 1) := by decide +kernel
theorem d_jdk_43_m22_18 : decode jdk_43_method_22_code 18 = .ok (.invokestatic 38, 3) := by decide +kernel
theorem d_jdk_43_m22_21 : decode jdk_43_method_22_code 21 = .ok (.istore_n 3, 1) := by decide +kernel
theorem d_jdk_43_m22_22 : decode jdk_43_method_22_code 22 = .ok (.iload_n 2, 1) := by decide +kernel
theorem d_jdk_43_m22_23 : decode jdk_43_method_22_code 23 = .ok (.iload_n 3, 1) := by decide +kernel
theorem d_jdk_43_m22_24 : decode jdk_43_method_22_code 24 = .ok (.if_icmp .lt 5, 3) := by decide +kernel
theorem d_jdk_43_m22_29 : decode jdk_43_method_22_code 29 = .ok (.aload_n 0, 1) := by decide +kernel
theorem d_jdk_43_m22_30 : decode jdk_43_method_22_code 30 = .ok (.iload_n 1, 1) := by decide +kernel
theorem d_jdk_43_m22_31 : decode jdk_43_method_22_code 31 = .ok (.iload_n 2, 1) := by decide +kernel
theorem d_jdk_43_m22_32 : decode jdk_43_method_22_code 32 = .ok (.iload_n 3, 1) := by decide +kernel
theorem d_jdk_43_m22_33 : decode jdk_43_method_22_code 33 = .ok (.invokestatic 95, 3) := by decide +kernel
theorem pd__ABIII_I : parseMethodDescriptor "([BIII)I" = some ⟨[(.array .byte), .int, .int, .int], some .int⟩ := by decide +kernel
theorem d_jdk_43_m22_36 : decode jdk_43_method_22_code 36 = .ok (.ireturn, 1) := by decide +kernel
theorem ef_c_ulen (m : MethodId) (x0 : Addr) : entryFrame m #[(.ref x0)] 1 = mkF m 0 #[.val (.ref x0)] [] := by first | (simp [entryFrame, mkF, argsToLocals, Value.category]; done) | rfl
theorem d_jdk_52_m6_0 : decode jdk_52_method_6_code 0 = .ok (.aload_n 0, 1) := by decide +kernel
theorem d_jdk_52_m6_1 : decode jdk_52_method_6_code 1 = .ok (.arraylength, 1) := by decide +kernel
theorem d_jdk_52_m6_2 : decode jdk_52_method_6_code 2 = .ok (.iconst 1, 1) := by decide +kernel
theorem d_jdk_52_m6_3 : decode jdk_52_method_6_code 3 = .ok (.ishr, 1) := by decide +kernel
theorem d_jdk_52_m6_4 : decode jdk_52_method_6_code 4 = .ok (.ireturn, 1) := by decide +kernel
theorem ef_c_pcfN (m : MethodId) (x0 : Int32) (x1 : Int32) (x2 : Int32) : entryFrame m #[(.int x0), (.int x1), (.int x2), .null] 4 = mkF m 0 #[.val (.int x0), .val (.int x1), .val (.int x2), .val .null] [] := by first | (simp [entryFrame, mkF, argsToLocals, Value.category]; done) | rfl
theorem pn_jdk_internal_util_Preconditions : plainName "jdk/internal/util/Preconditions" = true := by first | (simp [plainName, overriddenIn]; done) | decide +kernel
theorem d_jdk_41_m12_0 : decode jdk_41_method_12_code 0 = .ok (.iload_n 0, 1) := by decide +kernel
theorem d_jdk_41_m12_1 : decode jdk_41_method_12_code 1 = .ok (.ifCond .lt 13, 3) := by decide +kernel
theorem d_jdk_41_m12_4 : decode jdk_41_method_12_code 4 = .ok (.iload_n 0, 1) := by decide +kernel
theorem d_jdk_41_m12_5 : decode jdk_41_method_12_code 5 = .ok (.iload_n 1, 1) := by decide +kernel
theorem d_jdk_41_m12_6 : decode jdk_41_method_12_code 6 = .ok (.if_icmp .gt 8, 3) := by decide +kernel
theorem d_jdk_41_m12_9 : decode jdk_41_method_12_code 9 = .ok (.iload_n 1, 1) := by decide +kernel
theorem d_jdk_41_m12_10 : decode jdk_41_method_12_code 10 = .ok (.iload_n 2, 1) := by decide +kernel
theorem d_jdk_41_m12_11 : decode jdk_41_method_12_code 11 = .ok (.if_icmp .le 11, 3) := by decide +kernel
theorem d_jdk_41_m12_22 : decode jdk_41_method_12_code 22 = .ok (.iload_n 0, 1) := by decide +kernel
theorem d_jdk_41_m12_23 : decode jdk_41_method_12_code 23 = .ok (.ireturn, 1) := by decide +kernel
theorem ef_c_pcfR (m : MethodId) (x0 : Int32) (x1 : Int32) (x2 : Int32) (x3 : Addr) : entryFrame m #[(.int x0), (.int x1), (.int x2), (.ref x3)] 4 = mkF m 0 #[.val (.int x0), .val (.int x1), .val (.int x2), .val (.ref x3)] [] := by first | (simp [entryFrame, mkF, argsToLocals, Value.category]; done) | rfl
theorem ef_c_sbb (m : MethodId) (x0 : Int32) (x1 : Int32) (x2 : Int32) : entryFrame m #[(.int x0), (.int x1), (.int x2)] 3 = mkF m 0 #[.val (.int x0), .val (.int x1), .val (.int x2)] [] := by first | (simp [entryFrame, mkF, argsToLocals, Value.category]; done) | rfl
theorem d_jdk_42_m158_0 : decode jdk_42_method_158_code 0 = .ok (.iload_n 0, 1) := by decide +kernel
theorem d_jdk_42_m158_1 : decode jdk_42_method_158_code 1 = .ok (.iload_n 1, 1) := by decide +kernel
theorem d_jdk_42_m158_2 : decode jdk_42_method_158_code 2 = .ok (.iload_n 2, 1) := by decide +kernel
theorem d_jdk_42_m158_3 : decode jdk_42_method_158_code 3 = .ok (.getstatic 1053, 3) := by decide +kernel
theorem d_jdk_42_m158_6 : decode jdk_42_method_158_code 6 = .ok (.invokestatic 1062, 3) := by decide +kernel
theorem pd__IIILjava_util_function_BiFunction__I : parseMethodDescriptor "(IIILjava/util/function/BiFunction;)I" = some ⟨[.int, .int, .int, (.object "java/util/function/BiFunction")], some .int⟩ := by decide +kernel
theorem d_jdk_42_m158_9 : decode jdk_42_method_158_code 9 = .ok (.pop, 1) := by decide +kernel
theorem d_jdk_42_m158_10 : decode jdk_42_method_158_code 10 = .ok (.return_, 1) := by decide +kernel
theorem ef_c_ubb (m : MethodId) (x0 : Int32) (x1 : Int32) (x2 : Addr) : entryFrame m #[(.int x0), (.int x1), (.ref x2)] 3 = mkF m 0 #[.val (.int x0), .val (.int x1), .val (.ref x2)] [] := by first | (simp [entryFrame, mkF, argsToLocals, Value.category]; done) | rfl
theorem d_jdk_52_m93_0 : decode jdk_52_method_93_code 0 = .ok (.iload_n 0, 1) := by decide +kernel
theorem d_jdk_52_m93_1 : decode jdk_52_method_93_code 1 = .ok (.iload_n 1, 1) := by decide +kernel
theorem d_jdk_52_m93_2 : decode jdk_52_method_93_code 2 = .ok (.aload_n 2, 1) := by decide +kernel
theorem d_jdk_52_m93_3 : decode jdk_52_method_93_code 3 = .ok (.invokestatic 48, 3) := by decide +kernel
theorem pd__AB_I : parseMethodDescriptor "([B)I" = some ⟨[(.array .byte)], some .int⟩ := by decide +kernel
theorem d_jdk_52_m93_6 : decode jdk_52_method_93_code 6 = .ok (.invokestatic 241, 3) := by decide +kernel
theorem pd__III_V : parseMethodDescriptor "(III)V" = some ⟨[.int, .int, .int], none⟩ := by decide +kernel
theorem d_jdk_52_m93_9 : decode jdk_52_method_93_code 9 = .ok (.return_, 1) := by decide +kernel
theorem ef_c_uiu (m : MethodId) (x0 : Addr) (x1 : Int32) (x2 : Int32) (x3 : Int32) : entryFrame m #[(.ref x0), (.int x1), (.int x2), (.int x3)] 5 = mkF m 0 #[.val (.ref x0), .val (.int x1), .val (.int x2), .val (.int x3), .unset] [] := by first | (simp [entryFrame, mkF, argsToLocals, Value.category]; done) | rfl
theorem d_jdk_52_m48_0 : decode jdk_52_method_48_code 0 = .ok (.iload_n 2, 1) := by decide +kernel
theorem d_jdk_52_m48_1 : decode jdk_52_method_48_code 1 = .ok (.istore 4, 2) := by decide +kernel
theorem d_jdk_52_m48_3 : decode jdk_52_method_48_code 3 = .ok (.iload 4, 2) := by decide +kernel
theorem d_jdk_52_m48_5 : decode jdk_52_method_48_code 5 = .ok (.iload_n 3, 1) := by decide +kernel
theorem d_jdk_52_m48_6 : decode jdk_52_method_48_code 6 = .ok (.if_icmp .ge 22, 3) := by decide +kernel
theorem d_jdk_52_m48_28 : decode jdk_52_method_48_code 28 = .ok (.iconst (-1), 1) := by decide +kernel
theorem d_jdk_52_m48_29 : decode jdk_52_method_48_code 29 = .ok (.ireturn, 1) := by decide +kernel
theorem d_jdk_52_m48_9 : decode jdk_52_method_48_code 9 = .ok (.aload_n 0, 1) := by decide +kernel
theorem d_jdk_52_m48_10 : decode jdk_52_method_48_code 10 = .ok (.iload 4, 2) := by decide +kernel
theorem d_jdk_52_m48_12 : decode jdk_52_method_48_code 12 = .ok (.invokestatic 71, 3) := by decide +kernel
theorem d_jdk_52_m48_15 : decode jdk_52_method_48_code 15 = .ok (.iload_n 1, 1) := by decide +kernel
theorem d_jdk_52_m48_16 : decode jdk_52_method_48_code 16 = .ok (.if_icmp .ne 6, 3) := by decide +kernel
theorem d_jdk_52_m48_22 : decode jdk_52_method_48_code 22 = .ok (.iinc 4 1, 3) := by decide +kernel
theorem d_jdk_52_m48_25 : decode jdk_52_method_48_code 25 = .ok (.goto (-22), 3) := by decide +kernel
theorem ef_c_uic (m : MethodId) (x0 : Addr) (x1 : Int32) (x2 : Int32) (x3 : Int32) : entryFrame m #[(.ref x0), (.int x1), (.int x2), (.int x3)] 4 = mkF m 0 #[.val (.ref x0), .val (.int x1), .val (.int x2), .val (.int x3)] [] := by first | (simp [entryFrame, mkF, argsToLocals, Value.category]; done) | rfl
theorem d_jdk_52_m47_0 : decode jdk_52_method_47_code 0 = .ok (.iload_n 2, 1) := by decide +kernel
theorem d_jdk_52_m47_1 : decode jdk_52_method_47_code 1 = .ok (.iload_n 3, 1) := by decide +kernel
theorem d_jdk_52_m47_2 : decode jdk_52_method_47_code 2 = .ok (.aload_n 0, 1) := by decide +kernel
theorem d_jdk_52_m47_3 : decode jdk_52_method_47_code 3 = .ok (.invokestatic 96, 3) := by decide +kernel
theorem pd__IIAB_V : parseMethodDescriptor "(II[B)V" = some ⟨[.int, .int, (.array .byte)], none⟩ := by decide +kernel
theorem d_jdk_52_m47_6 : decode jdk_52_method_47_code 6 = .ok (.aload_n 0, 1) := by decide +kernel
theorem d_jdk_52_m47_7 : decode jdk_52_method_47_code 7 = .ok (.iload_n 1, 1) := by decide +kernel
theorem d_jdk_52_m47_8 : decode jdk_52_method_47_code 8 = .ok (.iload_n 2, 1) := by decide +kernel
theorem d_jdk_52_m47_9 : decode jdk_52_method_47_code 9 = .ok (.iload_n 3, 1) := by decide +kernel
theorem d_jdk_52_m47_10 : decode jdk_52_method_47_code 10 = .ok (.invokestatic 244, 3) := by decide +kernel
theorem d_jdk_52_m47_13 : decode jdk_52_method_47_code 13 = .ok (.ireturn, 1) := by decide +kernel
theorem ef_c_uio (m : MethodId) (x0 : Addr) (x1 : Int32) (x2 : Int32) (x3 : Int32) : entryFrame m #[(.ref x0), (.int x1), (.int x2), (.int x3)] 4 = mkF m 0 #[.val (.ref x0), .val (.int x1), .val (.int x2), .val (.int x3)] [] := by first | (simp [entryFrame, mkF, argsToLocals, Value.category]; done) | rfl
theorem d_jdk_52_m40_0 : decode jdk_52_method_40_code 0 = .ok (.iload_n 2, 1) := by decide +kernel
theorem d_jdk_52_m40_1 : decode jdk_52_method_40_code 1 = .ok (.iconst 0, 1) := by decide +kernel
theorem d_jdk_52_m40_2 : decode jdk_52_method_40_code 2 = .ok (.invokestatic 224, 3) := by decide +kernel
theorem d_jdk_52_m40_5 : decode jdk_52_method_40_code 5 = .ok (.istore_n 2, 1) := by decide +kernel
theorem d_jdk_52_m40_6 : decode jdk_52_method_40_code 6 = .ok (.iload_n 3, 1) := by decide +kernel
theorem d_jdk_52_m40_7 : decode jdk_52_method_40_code 7 = .ok (.aload_n 0, 1) := by decide +kernel
theorem d_jdk_52_m40_8 : decode jdk_52_method_40_code 8 = .ok (.arraylength, 1) := by decide +kernel
theorem d_jdk_52_m40_9 : decode jdk_52_method_40_code 9 = .ok (.iconst 1, 1) := by decide +kernel
theorem d_jdk_52_m40_10 : decode jdk_52_method_40_code 10 = .ok (.ishr, 1) := by decide +kernel
theorem d_jdk_52_m40_11 : decode jdk_52_method_40_code 11 = .ok (.invokestatic 183, 3) := by decide +kernel
theorem d_jdk_52_m40_14 : decode jdk_52_method_40_code 14 = .ok (.istore_n 3, 1) := by decide +kernel
theorem d_jdk_52_m40_15 : decode jdk_52_method_40_code 15 = .ok (.iload_n 2, 1) := by decide +kernel
theorem d_jdk_52_m40_16 : decode jdk_52_method_40_code 16 = .ok (.iload_n 3, 1) := by decide +kernel
theorem d_jdk_52_m40_17 : decode jdk_52_method_40_code 17 = .ok (.if_icmp .lt 5, 3) := by decide +kernel
theorem d_jdk_52_m40_22 : decode jdk_52_method_40_code 22 = .ok (.iload_n 1, 1) := by decide +kernel
theorem d_jdk_52_m40_23 : decode jdk_52_method_40_code 23 = .ok (.ldc 227, 2) := by decide +kernel
theorem d_jdk_52_m40_25 : decode jdk_52_method_40_code 25 = .ok (.if_icmp .ge 11, 3) := by decide +kernel
theorem d_jdk_52_m40_28 : decode jdk_52_method_40_code 28 = .ok (.aload_n 0, 1) := by decide +kernel
theorem d_jdk_52_m40_29 : decode jdk_52_method_40_code 29 = .ok (.iload_n 1, 1) := by decide +kernel
theorem d_jdk_52_m40_30 : decode jdk_52_method_40_code 30 = .ok (.iload_n 2, 1) := by decide +kernel
theorem d_jdk_52_m40_31 : decode jdk_52_method_40_code 31 = .ok (.iload_n 3, 1) := by decide +kernel
theorem d_jdk_52_m40_32 : decode jdk_52_method_40_code 32 = .ok (.invokestatic 228, 3) := by decide +kernel
theorem d_jdk_52_m40_35 : decode jdk_52_method_40_code 35 = .ok (.ireturn, 1) := by decide +kernel
theorem ef_c_isl0 (m : MethodId) (x0 : Addr) : entryFrame m #[(.ref x0)] 1 = mkF m 0 #[.val (.ref x0)] [] := by first | (simp [entryFrame, mkF, argsToLocals, Value.category]; done) | rfl
theorem d_jdk_42_m154_0 : decode jdk_42_method_154_code 0 = .ok (.getstatic 38, 3) := by decide +kernel
theorem d_jdk_42_m154_3 : decode jdk_42_method_154_code 3 = .ok (.ifCond .eq 14, 3) := by decide +kernel
theorem d_jdk_42_m154_6 : decode jdk_42_method_154_code 6 = .ok (.aload_n 0, 1) := by decide +kernel
theorem d_jdk_42_m154_7 : decode jdk_42_method_154_code 7 = .ok (.getfield 15, 3) := by decide +kernel
theorem d_jdk_42_m154_10 : decode jdk_42_method_154_code 10 = .ok (.ifCond .ne 7, 3) := by decide +kernel
theorem d_jdk_42_m154_13 : decode jdk_42_method_154_code 13 = .ok (.iconst 1, 1) := by decide +kernel
theorem d_jdk_42_m154_14 : decode jdk_42_method_154_code 14 = .ok (.goto 4, 3) := by decide +kernel
theorem d_jdk_42_m154_18 : decode jdk_42_method_154_code 18 = .ok (.ireturn, 1) := by decide +kernel
theorem ef_c_isl1 (m : MethodId) (x0 : Addr) : entryFrame m #[(.ref x0)] 1 = mkF m 0 #[.val (.ref x0)] [] := by first | (simp [entryFrame, mkF, argsToLocals, Value.category]; done) | rfl
theorem d_jdk_42_m154_17 : decode jdk_42_method_154_code 17 = .ok (.iconst 0, 1) := by decide +kernel
theorem ef_c_ix2 (m : MethodId) (x0 : Addr) (x1 : Int32) (x2 : Int32) : entryFrame m #[(.ref x0), (.int x1), (.int x2)] 3 = mkF m 0 #[.val (.ref x0), .val (.int x1), .val (.int x2)] [] := by first | (simp [entryFrame, mkF, argsToLocals, Value.category]; done) | rfl
theorem d_jdk_42_m80_0 : decode jdk_42_method_80_code 0 = .ok (.aload_n 0, 1) := by decide +kernel
theorem d_jdk_42_m80_1 : decode jdk_42_method_80_code 1 = .ok (.invokevirtual 492, 3) := by decide +kernel
theorem pd___Z : parseMethodDescriptor "()Z" = some ⟨[], some .boolean⟩ := by decide +kernel
theorem d_jdk_42_m80_4 : decode jdk_42_method_80_code 4 = .ok (.ifCond .eq 19, 3) := by decide +kernel
theorem d_jdk_42_m80_7 : decode jdk_42_method_80_code 7 = .ok (.aload_n 0, 1) := by decide +kernel
theorem d_jdk_42_m80_8 : decode jdk_42_method_80_code 8 = .ok (.getfield 9, 3) := by decide +kernel
theorem d_jdk_42_m80_11 : decode jdk_42_method_80_code 11 = .ok (.iload_n 1, 1) := by decide +kernel
theorem d_jdk_42_m80_12 : decode jdk_42_method_80_code 12 = .ok (.iload_n 2, 1) := by decide +kernel
theorem d_jdk_42_m80_13 : decode jdk_42_method_80_code 13 = .ok (.aload_n 0, 1) := by decide +kernel
theorem d_jdk_42_m80_14 : decode jdk_42_method_80_code 14 = .ok (.invokevirtual 505, 3) := by decide +kernel
theorem pd___I : parseMethodDescriptor "()I" = some ⟨[], some .int⟩ := by decide +kernel
theorem d_jdk_42_m80_17 : decode jdk_42_method_80_code 17 = .ok (.invokestatic 637, 3) := by decide +kernel
theorem d_jdk_42_m80_20 : decode jdk_42_method_80_code 20 = .ok (.goto 16, 3) := by decide +kernel
theorem d_jdk_42_m80_36 : decode jdk_42_method_80_code 36 = .ok (.ireturn, 1) := by decide +kernel
theorem d_jdk_42_m80_23 : decode jdk_42_method_80_code 23 = .ok (.aload_n 0, 1) := by decide +kernel
theorem d_jdk_42_m80_24 : decode jdk_42_method_80_code 24 = .ok (.getfield 9, 3) := by decide +kernel
theorem d_jdk_42_m80_27 : decode jdk_42_method_80_code 27 = .ok (.iload_n 1, 1) := by decide +kernel
theorem d_jdk_42_m80_28 : decode jdk_42_method_80_code 28 = .ok (.iload_n 2, 1) := by decide +kernel
theorem d_jdk_42_m80_29 : decode jdk_42_method_80_code 29 = .ok (.aload_n 0, 1) := by decide +kernel
theorem d_jdk_42_m80_30 : decode jdk_42_method_80_code 30 = .ok (.invokevirtual 505, 3) := by decide +kernel
theorem d_jdk_42_m80_33 : decode jdk_42_method_80_code 33 = .ok (.invokestatic 640, 3) := by decide +kernel
theorem ef_c_ix1 (m : MethodId) (x0 : Addr) (x1 : Int32) : entryFrame m #[(.ref x0), (.int x1)] 2 = mkF m 0 #[.val (.ref x0), .val (.int x1)] [] := by first | (simp [entryFrame, mkF, argsToLocals, Value.category]; done) | rfl
theorem d_jdk_42_m79_0 : decode jdk_42_method_79_code 0 = .ok (.aload_n 0, 1) := by decide +kernel
theorem d_jdk_42_m79_1 : decode jdk_42_method_79_code 1 = .ok (.iload_n 1, 1) := by decide +kernel
theorem d_jdk_42_m79_2 : decode jdk_42_method_79_code 2 = .ok (.iconst 0, 1) := by decide +kernel
theorem d_jdk_42_m79_3 : decode jdk_42_method_79_code 3 = .ok (.invokevirtual 633, 3) := by decide +kernel
theorem d_jdk_42_m79_6 : decode jdk_42_method_79_code 6 = .ok (.ireturn, 1) := by decide +kernel
theorem ef_c_rnn (m : MethodId) (x0 : Addr) (x1 : Addr) : entryFrame m #[(.ref x0), (.ref x1)] 2 = mkF m 0 #[.val (.ref x0), .val (.ref x1)] [] := by first | (simp [entryFrame, mkF, argsToLocals, Value.category]; done) | rfl
theorem pn_java_util_Objects : plainName "java/util/Objects" = true := by first | (simp [plainName, overriddenIn]; done) | decide +kernel
theorem d_jdk_31_m11_0 : decode jdk_31_method_11_code 0 = .ok (.aload_n 0, 1) := by decide +kernel
theorem d_jdk_31_m11_1 : decode jdk_31_method_11_code 1 = .ok (.ifnonnull 12, 3) := by decide +kernel
theorem d_jdk_31_m11_13 : decode jdk_31_method_11_code 13 = .ok (.aload_n 0, 1) := by decide +kernel
theorem d_jdk_31_m11_14 : decode jdk_31_method_11_code 14 = .ok (.areturn, 1) := by decide +kernel
theorem ef_c_rec (m : MethodId) (x0 : Addr) : entryFrame m #[(.ref x0)] 1 = mkF m 0 #[.val (.ref x0)] [] := by first | (simp [entryFrame, mkF, argsToLocals, Value.category]; done) | rfl
theorem pn_java_lang_Record : plainName "java/lang/Record" = true := by first | (simp [plainName, overriddenIn]; done) | decide +kernel
theorem d_jdk_30_m1_0 : decode jdk_30_method_1_code 0 = .ok (.aload_n 0, 1) := by decide +kernel
theorem d_jdk_30_m1_1 : decode jdk_30_method_1_code 1 = .ok (.invokespecial 1, 3) := by decide +kernel
theorem d_jdk_30_m1_4 : decode jdk_30_method_1_code 4 = .ok (.return_, 1) := by decide +kernel
theorem ef_c_chk (m : MethodId) (x0 : Addr) (x1 : Addr) : entryFrame m #[(.ref x0), (.ref x1)] 2 = mkF m 0 #[.val (.ref x0), .val (.ref x1)] [] := by first | (simp [entryFrame, mkF, argsToLocals, Value.category]; done) | rfl
theorem pn_com_example_veer32_veer32_bundle_NamespaceName : plainName "com/example/veer32/veer32/bundle/NamespaceName" = true := by first | (simp [plainName, overriddenIn]; done) | decide +kernel
theorem d_prog_3_m3_0 : decode prog_3_method_3_code 0 = .ok (.aload_n 1, 1) := by decide +kernel
theorem d_prog_3_m3_1 : decode prog_3_method_3_code 1 = .ok (.aload_n 0, 1) := by decide +kernel
theorem d_prog_3_m3_2 : decode prog_3_method_3_code 2 = .ok (.invokestatic 27, 3) := by decide +kernel
theorem pd__Ljava_lang_Object_Ljava_lang_String__Ljava_lang_Object_ : parseMethodDescriptor "(Ljava/lang/Object;Ljava/lang/String;)Ljava/lang/Object;" = some ⟨[(.object "java/lang/Object"), (.object "java/lang/String")], some (.object "java/lang/Object")⟩ := by decide +kernel
theorem d_prog_3_m3_5 : decode prog_3_method_3_code 5 = .ok (.pop, 1) := by decide +kernel
theorem d_prog_3_m3_6 : decode prog_3_method_3_code 6 = .ok (.aload_n 1, 1) := by decide +kernel
theorem d_prog_3_m3_7 : decode prog_3_method_3_code 7 = .ok (.invokevirtual 33, 3) := by decide +kernel
theorem d_prog_3_m3_10 : decode prog_3_method_3_code 10 = .ok (.ifCond .eq 17, 3) := by decide +kernel
theorem d_prog_3_m3_27 : decode prog_3_method_3_code 27 = .ok (.aload_n 1, 1) := by decide +kernel
theorem d_prog_3_m3_28 : decode prog_3_method_3_code 28 = .ok (.bipush 47, 2) := by decide +kernel
theorem d_prog_3_m3_30 : decode prog_3_method_3_code 30 = .ok (.invokevirtual 47, 3) := by decide +kernel
theorem d_prog_3_m3_33 : decode prog_3_method_3_code 33 = .ok (.ifCond .lt 18, 3) := by decide +kernel
theorem d_prog_3_m3_51 : decode prog_3_method_3_code 51 = .ok (.return_, 1) := by decide +kernel
theorem ef_c_nsi (m : MethodId) (x0 : Addr) (x1 : Addr) (x2 : Addr) : entryFrame m #[(.ref x0), (.ref x1), (.ref x2)] 3 = mkF m 0 #[.val (.ref x0), .val (.ref x1), .val (.ref x2)] [] := by first | (simp [entryFrame, mkF, argsToLocals, Value.category]; done) | rfl
theorem d_prog_3_m1_0 : decode prog_3_method_1_code 0 = .ok (.aload_n 0, 1) := by decide +kernel
theorem d_prog_3_m1_1 : decode prog_3_method_1_code 1 = .ok (.invokespecial 1, 3) := by decide +kernel
theorem pd___V : parseMethodDescriptor "()V" = some ⟨[], none⟩ := by decide +kernel
theorem d_prog_3_m1_4 : decode prog_3_method_1_code 4 = .ok (.ldc 7, 2) := by decide +kernel
theorem d_prog_3_m1_6 : decode prog_3_method_1_code 6 = .ok (.aload_n 1, 1) := by decide +kernel
theorem d_prog_3_m1_7 : decode prog_3_method_1_code 7 = .ok (.invokestatic 9, 3) := by decide +kernel
theorem pd__Ljava_lang_String_Ljava_lang_String__V : parseMethodDescriptor "(Ljava/lang/String;Ljava/lang/String;)V" = some ⟨[(.object "java/lang/String"), (.object "java/lang/String")], none⟩ := by decide +kernel
theorem d_prog_3_m1_10 : decode prog_3_method_1_code 10 = .ok (.ldc 15, 2) := by decide +kernel
theorem d_prog_3_m1_12 : decode prog_3_method_1_code 12 = .ok (.aload_n 2, 1) := by decide +kernel
theorem d_prog_3_m1_13 : decode prog_3_method_1_code 13 = .ok (.invokestatic 9, 3) := by decide +kernel
theorem d_prog_3_m1_16 : decode prog_3_method_1_code 16 = .ok (.aload_n 0, 1) := by decide +kernel
theorem d_prog_3_m1_17 : decode prog_3_method_1_code 17 = .ok (.aload_n 1, 1) := by decide +kernel
theorem d_prog_3_m1_18 : decode prog_3_method_1_code 18 = .ok (.putfield 17, 3) := by decide +kernel
theorem d_prog_3_m1_21 : decode prog_3_method_1_code 21 = .ok (.aload_n 0, 1) := by decide +kernel
theorem d_prog_3_m1_22 : decode prog_3_method_1_code 22 = .ok (.aload_n 2, 1) := by decide +kernel
theorem d_prog_3_m1_23 : decode prog_3_method_1_code 23 = .ok (.putfield 20, 3) := by decide +kernel
theorem d_prog_3_m1_26 : decode prog_3_method_1_code 26 = .ok (.return_, 1) := by decide +kernel
theorem ef_c_tni (m : MethodId) (x0 : Addr) (x1 : Addr) (x2 : Addr) (x3 : Addr) (x4 : Addr) : entryFrame m #[(.ref x0), (.ref x1), (.ref x2), (.ref x3), (.ref x4)] 5 = mkF m 0 #[.val (.ref x0), .val (.ref x1), .val (.ref x2), .val (.ref x3), .val (.ref x4)] [] := by first | (simp [entryFrame, mkF, argsToLocals, Value.category]; done) | rfl
theorem pn_com_example_veer32_veer32_bundle_TopicName : plainName "com/example/veer32/veer32/bundle/TopicName" = true := by first | (simp [plainName, overriddenIn]; done) | decide +kernel
theorem d_prog_5_m1_0 : decode prog_5_method_1_code 0 = .ok (.aload_n 0, 1) := by decide +kernel
theorem d_prog_5_m1_1 : decode prog_5_method_1_code 1 = .ok (.invokespecial 1, 3) := by decide +kernel
theorem d_prog_5_m1_4 : decode prog_5_method_1_code 4 = .ok (.aload_n 1, 1) := by decide +kernel
theorem d_prog_5_m1_5 : decode prog_5_method_1_code 5 = .ok (.ldc 7, 2) := by decide +kernel
theorem d_prog_5_m1_7 : decode prog_5_method_1_code 7 = .ok (.invokestatic 9, 3) := by decide +kernel
theorem d_prog_5_m1_10 : decode prog_5_method_1_code 10 = .ok (.pop, 1) := by decide +kernel
theorem d_prog_5_m1_11 : decode prog_5_method_1_code 11 = .ok (.ldc 15, 2) := by decide +kernel
theorem d_prog_5_m1_13 : decode prog_5_method_1_code 13 = .ok (.aload_n 2, 1) := by decide +kernel
theorem d_prog_5_m1_14 : decode prog_5_method_1_code 14 = .ok (.invokestatic 17, 3) := by decide +kernel
theorem d_prog_5_m1_17 : decode prog_5_method_1_code 17 = .ok (.ldc 23, 2) := by decide +kernel
theorem d_prog_5_m1_19 : decode prog_5_method_1_code 19 = .ok (.aload_n 3, 1) := by decide +kernel
theorem d_prog_5_m1_20 : decode prog_5_method_1_code 20 = .ok (.invokestatic 17, 3) := by decide +kernel
theorem d_prog_5_m1_23 : decode prog_5_method_1_code 23 = .ok (.ldc 25, 2) := by decide +kernel
theorem d_prog_5_m1_25 : decode prog_5_method_1_code 25 = .ok (.aload 4, 2) := by decide +kernel
theorem d_prog_5_m1_27 : decode prog_5_method_1_code 27 = .ok (.invokestatic 17, 3) := by decide +kernel
theorem d_prog_5_m1_30 : decode prog_5_method_1_code 30 = .ok (.aload_n 0, 1) := by decide +kernel
theorem d_prog_5_m1_31 : decode prog_5_method_1_code 31 = .ok (.aload_n 1, 1) := by decide +kernel
theorem d_prog_5_m1_32 : decode prog_5_method_1_code 32 = .ok (.putfield 27, 3) := by decide +kernel
theorem d_prog_5_m1_35 : decode prog_5_method_1_code 35 = .ok (.aload_n 0, 1) := by decide +kernel
theorem d_prog_5_m1_36 : decode prog_5_method_1_code 36 = .ok (.aload_n 2, 1) := by decide +kernel
theorem d_prog_5_m1_37 : decode prog_5_method_1_code 37 = .ok (.putfield 32, 3) := by decide +kernel
theorem d_prog_5_m1_40 : decode prog_5_method_1_code 40 = .ok (.aload_n 0, 1) := by decide +kernel
theorem d_prog_5_m1_41 : decode prog_5_method_1_code 41 = .ok (.aload_n 3, 1) := by decide +kernel
theorem d_prog_5_m1_42 : decode prog_5_method_1_code 42 = .ok (.putfield 35, 3) := by decide +kernel
theorem d_prog_5_m1_45 : decode prog_5_method_1_code 45 = .ok (.aload_n 0, 1) := by decide +kernel
theorem d_prog_5_m1_46 : decode prog_5_method_1_code 46 = .ok (.aload 4, 2) := by decide +kernel
theorem d_prog_5_m1_48 : decode prog_5_method_1_code 48 = .ok (.putfield 37, 3) := by decide +kernel
theorem d_prog_5_m1_51 : decode prog_5_method_1_code 51 = .ok (.return_, 1) := by decide +kernel
theorem ef_c_nsn (m : MethodId) (x0 : Addr) : entryFrame m #[(.ref x0)] 1 = mkF m 0 #[.val (.ref x0)] [] := by first | (simp [entryFrame, mkF, argsToLocals, Value.category]; done) | rfl
theorem d_prog_5_m4_0 : decode prog_5_method_4_code 0 = .ok (.new 18, 3) := by decide +kernel
theorem d_prog_5_m4_3 : decode prog_5_method_4_code 3 = .ok (.dup, 1) := by decide +kernel
theorem d_prog_5_m4_4 : decode prog_5_method_4_code 4 = .ok (.aload_n 0, 1) := by decide +kernel
theorem d_prog_5_m4_5 : decode prog_5_method_4_code 5 = .ok (.getfield 32, 3) := by decide +kernel
theorem d_prog_5_m4_8 : decode prog_5_method_4_code 8 = .ok (.aload_n 0, 1) := by decide +kernel
theorem d_prog_5_m4_9 : decode prog_5_method_4_code 9 = .ok (.getfield 35, 3) := by decide +kernel
theorem d_prog_5_m4_12 : decode prog_5_method_4_code 12 = .ok (.invokespecial 86, 3) := by decide +kernel
theorem d_prog_5_m4_15 : decode prog_5_method_4_code 15 = .ok (.areturn, 1) := by decide +kernel
theorem ef_c_g_tenant (m : MethodId) (x0 : Addr) : entryFrame m #[(.ref x0)] 1 = mkF m 0 #[.val (.ref x0)] [] := by first | (simp [entryFrame, mkF, argsToLocals, Value.category]; done) | rfl
theorem d_prog_3_m6_0 : decode prog_3_method_6_code 0 = .ok (.aload_n 0, 1) := by decide +kernel
theorem d_prog_3_m6_1 : decode prog_3_method_6_code 1 = .ok (.getfield 17, 3) := by decide +kernel
theorem d_prog_3_m6_4 : decode prog_3_method_6_code 4 = .ok (.areturn, 1) := by decide +kernel
theorem ef_c_g_localName (m : MethodId) (x0 : Addr) : entryFrame m #[(.ref x0)] 1 = mkF m 0 #[.val (.ref x0)] [] := by first | (simp [entryFrame, mkF, argsToLocals, Value.category]; done) | rfl
theorem d_prog_3_m7_0 : decode prog_3_method_7_code 0 = .ok (.aload_n 0, 1) := by decide +kernel
theorem d_prog_3_m7_1 : decode prog_3_method_7_code 1 = .ok (.getfield 20, 3) := by decide +kernel
theorem d_prog_3_m7_4 : decode prog_3_method_7_code 4 = .ok (.areturn, 1) := by decide +kernel
theorem ef_c_same (m : MethodId) (x0 : Addr) (x1 : Addr) : entryFrame m #[(.ref x0), (.ref x1)] 3 = mkF m 0 #[.val (.ref x0), .val (.ref x1), .unset] [] := by first | (simp [entryFrame, mkF, argsToLocals, Value.category]; done) | rfl
theorem d_jdk_42_m66_0 : decode jdk_42_method_66_code 0 = .ok (.aload_n 0, 1) := by decide +kernel
theorem d_jdk_42_m66_1 : decode jdk_42_method_66_code 1 = .ok (.aload_n 1, 1) := by decide +kernel
theorem d_jdk_42_m66_2 : decode jdk_42_method_66_code 2 = .ok (.if_acmp .ne 5, 3) := by decide +kernel
theorem d_jdk_42_m66_5 : decode jdk_42_method_66_code 5 = .ok (.iconst 1, 1) := by decide +kernel
theorem d_jdk_42_m66_6 : decode jdk_42_method_66_code 6 = .ok (.ireturn, 1) := by decide +kernel
theorem ef_c_law (m : MethodId) (x0 : Int32) (x1 : Int32) (x2 : Int32) (x3 : Int32) : entryFrame m #[(.int x0), (.int x1), (.int x2), (.int x3)] maxLocals = mkF m 0 #[.val (.int x0), .val (.int x1), .val (.int x2), .val (.int x3), .unset, .unset, .unset, .unset, .unset, .unset] [] := by first | (simp [entryFrame, mkF, argsToLocals, Value.category, maxLocals]; done) | rfl
theorem pd__I_Ljava_lang_String_ : parseMethodDescriptor "(I)Ljava/lang/String;" = some ⟨[.int], some (.object "java/lang/String")⟩ := by decide +kernel
theorem pd__Lcom_example_veer32_veer32_bundle_TopicName_Domain_Ljava_lang_String_Ljava_lang : parseMethodDescriptor "(Lcom/example/veer32/veer32/bundle/TopicName$Domain;Ljava/lang/String;Ljava/lang/String;Ljava/lang/String;)V" = some ⟨[(.object "com/example/veer32/veer32/bundle/TopicName$Domain"), (.object "java/lang/String"), (.object "java/lang/String"), (.object "java/lang/String")], none⟩ := by decide +kernel
theorem pd___Lcom_example_veer32_veer32_bundle_NamespaceName_ : parseMethodDescriptor "()Lcom/example/veer32/veer32/bundle/NamespaceName;" = some ⟨[], some (.object "com/example/veer32/veer32/bundle/NamespaceName")⟩ := by decide +kernel
theorem pd___Ljava_lang_String_ : parseMethodDescriptor "()Ljava/lang/String;" = some ⟨[], some (.object "java/lang/String")⟩ := by decide +kernel
theorem pd__Ljava_lang_Object__Z : parseMethodDescriptor "(Ljava/lang/Object;)Z" = some ⟨[(.object "java/lang/Object")], some .boolean⟩ := by decide +kernel
set_option maxRecDepth 65536 in
set_option maxHeartbeats 40000000 in
theorem c_ch (l : Launch) {Z : State} {a0 : Array Value} {zc : Int32} {fm : Value} {aP : Addr} {aN : Addr} (B : Base Z a0 zc fm aP aN) (pp : Int32) (h0 : Heap) (O : Ext Z.heap h0) :
    MetN l Z (⟨"com/example/veer32/veer32/bundle/TopicNameNamespaceNamePinLaw", "ch", "(I)C"⟩ : MethodName) method_2_code 2 (some .char) [] ({ frames := 0, cells := 0, slots := 0, locals := 0 } : Room) #[(.int pp)] h0 [] (fun v h => ∃ r, v = some (.int r) ∧ (¬ r < 0 ∧ ¬ (65535 : Int32) < r) ∧ ¬ r = 47 ∧ h0 = h) := by
  obtain ⟨hw, SC0, hz0, SF1, rf1, SU2, SU3, SU4, SP, SN, XP, XN⟩ := B
  refine MetN.mk (plainFor_of_name pn_com_example_veer32_veer32_bundle_TopicNameNamespaceNamePinLaw) (fun m => ef_c_ch m pp) O ?_
  intro p e s m below meth c T0 hx hby hml hret hlk hnm hsh H0
  have zs : s.heap.size = h0.size := by rw [hsh]
  refine Rn.pu (T' := T0) (g' := (mkF m 1 #[.val (.int pp), .unset] [(.int pp)])) ?_ fun _ zk => XS.iloadN H0.here hx rfl (hb hby d_m2_0) rfl zk
  refine Rn.pu (T' := T0) (g' := (mkF m 4 #[.val (.int pp), .unset] [(.int (255 : Int32)), (.int pp)])) ?_ fun _ zk => XS.sipush H0.here hx rfl (hb hby d_m2_1) zk
  refine Rn.pu (T' := T0) (g' := (mkF m 5 #[.val (.int pp), .unset] [(.int (pp &&& (255 : Int32)))])) ?_ fun _ zk => XS.iand H0.here hx rfl (hb hby d_m2_4) rfl zk
  refine Rn.pu (T' := T0) (g' := (mkF m 6 #[.val (.int pp), .val (.int (pp &&& (255 : Int32)))] [])) ?_ fun _ zk => XS.istoreN H0.here hx rfl (hb hby d_m2_5) rfl (l' := #[.val (.int pp), .val (.int (pp &&& (255 : Int32)))]) rfl zk
  obtain ⟨y, ey⟩ : ∃ z : Int32, z = (pp &&& (255 : Int32)) := ⟨_, rfl⟩
  rw [← ey]
  have qy : ¬ y < 0 ∧ ¬ (255 : Int32) < y := by rw [ey]; exact lat_and _
  refine Rn.pu (T' := T0) (g' := (mkF m 7 #[.val (.int pp), .val (.int y)] [(.int y)])) ?_ fun _ zk => XS.iloadN H0.here hx rfl (hb hby d_m2_6) rfl zk
  refine Rn.pu (T' := T0) (g' := (mkF m 9 #[.val (.int pp), .val (.int y)] [(.int (47 : Int32)), (.int y)])) ?_ fun _ zk => XS.bipush H0.here hx rfl (hb hby d_m2_7) zk
  by_cases b9_1 : y = (47 : Int32)
  ·
    refine Rn.pu (T' := T0) (g' := (mkF m 12 #[.val (.int pp), .val (.int y)] [])) ?_ fun _ zk => XS.icmpNo H0.here hx rfl (hb hby d_m2_9) rfl (c_ne_f b9_1) zk
    refine Rn.pu (T' := T0) (g' := (mkF m 15 #[.val (.int pp), .val (.int y)] [(.int (256 : Int32))])) ?_ fun _ zk => XS.sipush H0.here hx rfl (hb hby d_m2_12) zk
    refine Rn.pu (T' := T0) (g' := (mkF m 16 #[.val (.int pp), .val (.int (256 : Int32))] [])) ?_ fun _ zk => XS.istoreN H0.here hx rfl (hb hby d_m2_15) rfl (l' := #[.val (.int pp), .val (.int (256 : Int32))]) rfl zk
    refine Rn.pu (T' := T0) (g' := (mkF m 17 #[.val (.int pp), .val (.int (256 : Int32))] [(.int (256 : Int32))])) ?_ fun _ zk => XS.iloadN H0.here hx rfl (hb hby d_m2_16) rfl zk
    refine Rn.pu (T' := T0) (g' := (mkF m 18 #[.val (.int pp), .val (.int (256 : Int32))] [(.int (nar .char (256 : Int32)))])) ?_ fun _ zk => XT.i2c H0.here hx rfl (hb hby d_m2_17) rfl zk
    exact H0.retS ends_N hlk (t := .char) hret (by simp) (hb hby d_m2_18) (by decide) (by decide) (fun _ q => nomatch q) ⟨_, rfl, u_char _, by decide, rfl⟩
  ·
    refine Rn.pu (T' := T0) (g' := (mkF m 16 #[.val (.int pp), .val (.int y)] [])) ?_ fun _ zk => XS.icmpYes H0.here hx rfl (pc0 := 9) (pc' := 16) rfl (hb hby d_m2_9) rfl (c_ne_t b9_1) (by decide) (by decide) zk
    refine Rn.pu (T' := T0) (g' := (mkF m 17 #[.val (.int pp), .val (.int y)] [(.int y)])) ?_ fun _ zk => XS.iloadN H0.here hx rfl (hb hby d_m2_16) rfl zk
    refine Rn.pu (T' := T0) (g' := (mkF m 18 #[.val (.int pp), .val (.int y)] [(.int (nar .char y))])) ?_ fun _ zk => XT.i2c H0.here hx rfl (hb hby d_m2_17) rfl zk
    exact H0.retS ends_N hlk (t := .char) hret (by simp) (hb hby d_m2_18) (by decide) (by decide) (fun _ q => nomatch q) ⟨_, rfl, u_char _, by rw [nar_id (u_char _).1 (u_char _).2, own_id16 qy]; exact b9_1, rfl⟩
set_option maxRecDepth 65536 in
set_option maxHeartbeats 40000000 in
theorem c_put (l : Launch) {Z : State} {a0 : Array Value} {zc : Int32} {fm : Value} {aP : Addr} {aN : Addr} (B : Base Z a0 zc fm aP aN) (d : Addr) (ch : Int32) (kB : ClassId) (vs : List Value) (i n : Nat) (h0 : Heap) (O : Ext Z.heap h0) (hi : i < n) (hn : n ≤ 2) (AD : Arv Z h0 d kB .byte (Int32.ofNat (2 * n)) vs (.int 0)) (hv : vs.length = 2 * i) (gd : Z.heap.size ≤ d) :
    MetN l Z (⟨"java/lang/StringUTF16", "putChar", "([BII)V"⟩ : MethodName) jdk_52_method_4_code 3 none [] ({ frames := 0, cells := 0, slots := 0, locals := 0 } : Room) #[(.ref d), (.int (Int32.ofNat i)), (.int ch)] h0 [d] (fun v h => v = none ∧ Arv Z h d kB .byte (Int32.ofNat (2 * n)) (vs ++ [.int (StrChars.lo8 ch), .int (StrChars.hi8 ch)]) (.int 0)) := by
  obtain ⟨hw, SC0, hz0, SF1, rf1, SU2, SU3, SU4, SP, SN, XP, XN⟩ := B
  refine MetN.mk (plainFor_of_name pn_java_lang_StringUTF16) (fun m => ef_c_put m d (Int32.ofNat i) ch) O ?_
  intro p e s m below meth c T0 hx hby hml hret hlk hnm hsh H0
  have zs : s.heap.size = h0.size := by rw [hsh]
  have ld := natlt (AD).lt
  have H0 := H0.weak (ws' := [d]) (fun _ q => nomatch q) (allS gd all0)
  obtain ⟨T1, H1, st1⟩ := H0.getS (host := "") (Or.inl (hw _ (List.mem_of_getElem? (i := 170) rfl))) Via.refl (SU2.ext H0.old) (g := (mkF m 0 #[.val (.ref d), .val (.int (Int32.ofNat i)), .val (.int ch)] [])) rfl (hb hby d_jdk_52_m4_0)
  refine Rn.pu (g' := (mkF m 3 #[.val (.ref d), .val (.int (Int32.ofNat i)), .val (.int ch)] [(.int (1 : Int32))])) ?_ st1
  refine Rn.pu (T' := T1) (g' := (mkF m 28 #[.val (.ref d), .val (.int (Int32.ofNat i)), .val (.int ch)] [])) ?_ fun _ zk => XS.ifYes H1.here hx rfl (pc0 := 3) (pc' := 28) rfl (hb hby d_jdk_52_m4_3) rfl (z_ne_t (by decide)) (by decide) (by decide) zk
  refine Rn.pu (T' := T1) (g' := (mkF m 29 #[.val (.ref d), .val (.int (Int32.ofNat i)), .val (.int ch)] [(.int (Int32.ofNat i))])) ?_ fun _ zk => XS.iloadN H1.here hx rfl (hb hby d_jdk_52_m4_28) rfl zk
  refine Rn.pu (T' := T1) (g' := (mkF m 30 #[.val (.ref d), .val (.int (Int32.ofNat i)), .val (.int ch)] [(.int (1 : Int32)), (.int (Int32.ofNat i))])) ?_ fun _ zk => XS.iconst H1.here hx rfl (hb hby d_jdk_52_m4_29) zk
  refine Rn.pu (T' := T1) (g' := (mkF m 31 #[.val (.ref d), .val (.int (Int32.ofNat i)), .val (.int ch)] [(.int ((Int32.ofNat i) <<< ((1 : Int32) &&& 31)))])) ?_ fun _ zk => XT.ishl H1.here hx rfl (hb hby d_jdk_52_m4_30) rfl zk
  refine Rn.pu (T' := T1) (g' := (mkF m 32 #[.val (.ref d), .val (.int ((Int32.ofNat i) <<< ((1 : Int32) &&& 31))), .val (.int ch)] [])) ?_ fun _ zk => XS.istoreN H1.here hx rfl (hb hby d_jdk_52_m4_31) rfl (l' := #[.val (.ref d), .val (.int ((Int32.ofNat i) <<< ((1 : Int32) &&& 31))), .val (.int ch)]) rfl zk
  rw [u_shl (by omega : i ≤ 2)]
  refine Rn.pu (T' := T1) (g' := (mkF m 33 #[.val (.ref d), .val (.int (Int32.ofNat (2 * i))), .val (.int ch)] [(.ref d)])) ?_ fun _ zk => XS.aloadN H1.here hx rfl (hb hby d_jdk_52_m4_32) rfl rfl zk
  refine Rn.pu (T' := T1) (g' := (mkF m 34 #[.val (.ref d), .val (.int (Int32.ofNat (2 * i))), .val (.int ch)] [(.int (Int32.ofNat (2 * i))), (.ref d)])) ?_ fun _ zk => XS.iloadN H1.here hx rfl (hb hby d_jdk_52_m4_33) rfl zk
  refine Rn.pu (T' := T1) (g' := (mkF m 37 #[.val (.ref d), .val (.int ((Int32.ofNat (2 * i)) + (1 : Int32))), .val (.int ch)] [(.int (Int32.ofNat (2 * i))), (.ref d)])) ?_ fun _ zk => XS.iinc H1.here hx rfl (hb hby d_jdk_52_m4_34) rfl (l' := #[.val (.ref d), .val (.int ((Int32.ofNat (2 * i)) + (1 : Int32))), .val (.int ch)]) rfl zk
  rw [u_succ]
  refine Rn.pu (T' := T1) (g' := (mkF m 38 #[.val (.ref d), .val (.int (Int32.ofNat (2 * i + 1))), .val (.int ch)] [(.int ch), (.int (Int32.ofNat (2 * i))), (.ref d)])) ?_ fun _ zk => XS.iloadN H1.here hx rfl (hb hby d_jdk_52_m4_37) rfl zk
  obtain ⟨T2, H2, st2⟩ := H1.getS (host := "") (Or.inl (hw _ (List.mem_of_getElem? (i := 171) rfl))) Via.refl (SU3.ext H1.old) (g := (mkF m 38 #[.val (.ref d), .val (.int (Int32.ofNat (2 * i + 1))), .val (.int ch)] [(.int ch), (.int (Int32.ofNat (2 * i))), (.ref d)])) rfl (hb hby d_jdk_52_m4_38)
  refine Rn.pu (g' := (mkF m 41 #[.val (.ref d), .val (.int (Int32.ofNat (2 * i + 1))), .val (.int ch)] [(.int (0 : Int32)), (.int ch), (.int (Int32.ofNat (2 * i))), (.ref d)])) ?_ st2
  refine Rn.pu (T' := T2) (g' := (mkF m 42 #[.val (.ref d), .val (.int (Int32.ofNat (2 * i + 1))), .val (.int ch)] [(.int (ch >>> ((0 : Int32) &&& 31))), (.int (Int32.ofNat (2 * i))), (.ref d)])) ?_ fun _ zk => XT.ishr H2.here hx rfl (hb hby d_jdk_52_m4_41) rfl zk
  refine Rn.pu (T' := T2) (g' := (mkF m 43 #[.val (.ref d), .val (.int (Int32.ofNat (2 * i + 1))), .val (.int ch)] [(.int (nar .byte (ch >>> ((0 : Int32) &&& 31)))), (.int (Int32.ofNat (2 * i))), (.ref d)])) ?_ fun _ zk => XT.i2b H2.here hx rfl (hb hby d_jdk_52_m4_42) rfl zk
  obtain ⟨T3, h3, H3, K3, A3, st3⟩ := H2.stB AD ⟨u_nn (by omega), u_lt (by omega) (by omega)⟩ (by rw [u_cl (by omega)]; omega) (Or.inl (List.mem_singleton.mpr rfl)) (g := (mkF m 43 #[.val (.ref d), .val (.int (Int32.ofNat (2 * i + 1))), .val (.int ch)] [(.int (nar .byte (ch >>> ((0 : Int32) &&& 31)))), (.int (Int32.ofNat (2 * i))), (.ref d)])) rfl rfl (hb hby d_jdk_52_m4_43)
  have zh3 := K3.1
  refine Rn.pu (g' := (mkF m 44 #[.val (.ref d), .val (.int (Int32.ofNat (2 * i + 1))), .val (.int ch)] [])) ?_ st3
  refine Rn.pu (T' := T3) (g' := (mkF m 45 #[.val (.ref d), .val (.int (Int32.ofNat (2 * i + 1))), .val (.int ch)] [(.ref d)])) ?_ fun _ zk => XS.aloadN H3.here hx rfl (hb hby d_jdk_52_m4_44) rfl rfl zk
  refine Rn.pu (T' := T3) (g' := (mkF m 46 #[.val (.ref d), .val (.int (Int32.ofNat (2 * i + 1))), .val (.int ch)] [(.int (Int32.ofNat (2 * i + 1))), (.ref d)])) ?_ fun _ zk => XS.iloadN H3.here hx rfl (hb hby d_jdk_52_m4_45) rfl zk
  refine Rn.pu (T' := T3) (g' := (mkF m 47 #[.val (.ref d), .val (.int (Int32.ofNat (2 * i + 1))), .val (.int ch)] [(.int ch), (.int (Int32.ofNat (2 * i + 1))), (.ref d)])) ?_ fun _ zk => XS.iloadN H3.here hx rfl (hb hby d_jdk_52_m4_46) rfl zk
  obtain ⟨T4, H4, st4⟩ := H3.getS (host := "") (Or.inl (hw _ (List.mem_of_getElem? (i := 172) rfl))) Via.refl (SU4.ext H3.old) (g := (mkF m 47 #[.val (.ref d), .val (.int (Int32.ofNat (2 * i + 1))), .val (.int ch)] [(.int ch), (.int (Int32.ofNat (2 * i + 1))), (.ref d)])) rfl (hb hby d_jdk_52_m4_47)
  refine Rn.pu (g' := (mkF m 50 #[.val (.ref d), .val (.int (Int32.ofNat (2 * i + 1))), .val (.int ch)] [(.int (8 : Int32)), (.int ch), (.int (Int32.ofNat (2 * i + 1))), (.ref d)])) ?_ st4
  refine Rn.pu (T' := T4) (g' := (mkF m 51 #[.val (.ref d), .val (.int (Int32.ofNat (2 * i + 1))), .val (.int ch)] [(.int (ch >>> ((8 : Int32) &&& 31))), (.int (Int32.ofNat (2 * i + 1))), (.ref d)])) ?_ fun _ zk => XT.ishr H4.here hx rfl (hb hby d_jdk_52_m4_50) rfl zk
  refine Rn.pu (T' := T4) (g' := (mkF m 52 #[.val (.ref d), .val (.int (Int32.ofNat (2 * i + 1))), .val (.int ch)] [(.int (nar .byte (ch >>> ((8 : Int32) &&& 31)))), (.int (Int32.ofNat (2 * i + 1))), (.ref d)])) ?_ fun _ zk => XT.i2b H4.here hx rfl (hb hby d_jdk_52_m4_51) rfl zk
  obtain ⟨T5, h5, H5, K5, A5, st5⟩ := H4.stB A3 ⟨u_nn (by omega), u_lt (by omega) (by omega)⟩ (by rw [u_cl (by omega), List.length_append, hv]; rfl) (Or.inl (List.mem_singleton.mpr rfl)) (g := (mkF m 52 #[.val (.ref d), .val (.int (Int32.ofNat (2 * i + 1))), .val (.int ch)] [(.int (nar .byte (ch >>> ((8 : Int32) &&& 31)))), (.int (Int32.ofNat (2 * i + 1))), (.ref d)])) rfl rfl (hb hby d_jdk_52_m4_52)
  have zh5 := K5.1
  refine Rn.pu (g' := (mkF m 53 #[.val (.ref d), .val (.int (Int32.ofNat (2 * i + 1))), .val (.int ch)] [])) ?_ st5
  exact H5.retV ends_N hlk hret (hb hby d_jdk_52_m4_53) (by decide) (by decide) (fun _ q => q) ⟨rfl, (u_put vs ch) ▸ A5⟩
set_option maxRecDepth 65536 in
set_option maxHeartbeats 40000000 in
theorem c_getc (l : Launch) {Z : State} {a0 : Array Value} {zc : Int32} {fm : Value} {aP : Addr} {aN : Addr} (B : Base Z a0 zc fm aP aN) (d : Addr) (kB : ClassId) (cs : List Int32) (i : Nat) (h0 : Heap) (O : Ext Z.heap h0) (hi : i < cs.length) (hn : cs.length ≤ 2) (hc : ∀ c ∈ cs, ¬ c < 0 ∧ ¬ (65535 : Int32) < c) (AD : Arv Z h0 d kB .byte (Int32.ofNat (2 * cs.length)) (StrChars.Road.wideBytes cs) (.int 0)) :
    MetN l Z (⟨"java/lang/StringUTF16", "getChar", "([BI)C"⟩ : MethodName) jdk_52_method_5_code 2 (some .char) [] ({ frames := 0, cells := 0, slots := 0, locals := 0 } : Room) #[(.ref d), (.int (Int32.ofNat i))] h0 [] (fun v h => v = some (.int (cs.getD i 0)) ∧ h0 = h) := by
  obtain ⟨hw, SC0, hz0, SF1, rf1, SU2, SU3, SU4, SP, SN, XP, XN⟩ := B
  refine MetN.mk (plainFor_of_name pn_java_lang_StringUTF16) (fun m => ef_c_getc m d (Int32.ofNat i)) O ?_
  intro p e s m below meth c T0 hx hby hml hret hlk hnm hsh H0
  have zs : s.heap.size = h0.size := by rw [hsh]
  obtain ⟨T1, H1, st1⟩ := H0.getS (host := "") (Or.inl (hw _ (List.mem_of_getElem? (i := 170) rfl))) Via.refl (SU2.ext H0.old) (g := (mkF m 0 #[.val (.ref d), .val (.int (Int32.ofNat i))] [])) rfl (hb hby d_jdk_52_m5_0)
  refine Rn.pu (g' := (mkF m 3 #[.val (.ref d), .val (.int (Int32.ofNat i))] [(.int (1 : Int32))])) ?_ st1
  refine Rn.pu (T' := T1) (g' := (mkF m 28 #[.val (.ref d), .val (.int (Int32.ofNat i))] [])) ?_ fun _ zk => XS.ifYes H1.here hx rfl (pc0 := 3) (pc' := 28) rfl (hb hby d_jdk_52_m5_3) rfl (z_ne_t (by decide)) (by decide) (by decide) zk
  refine Rn.pu (T' := T1) (g' := (mkF m 29 #[.val (.ref d), .val (.int (Int32.ofNat i))] [(.int (Int32.ofNat i))])) ?_ fun _ zk => XS.iloadN H1.here hx rfl (hb hby d_jdk_52_m5_28) rfl zk
  refine Rn.pu (T' := T1) (g' := (mkF m 30 #[.val (.ref d), .val (.int (Int32.ofNat i))] [(.int (1 : Int32)), (.int (Int32.ofNat i))])) ?_ fun _ zk => XS.iconst H1.here hx rfl (hb hby d_jdk_52_m5_29) zk
  refine Rn.pu (T' := T1) (g' := (mkF m 31 #[.val (.ref d), .val (.int (Int32.ofNat i))] [(.int ((Int32.ofNat i) <<< ((1 : Int32) &&& 31)))])) ?_ fun _ zk => XT.ishl H1.here hx rfl (hb hby d_jdk_52_m5_30) rfl zk
  refine Rn.pu (T' := T1) (g' := (mkF m 32 #[.val (.ref d), .val (.int ((Int32.ofNat i) <<< ((1 : Int32) &&& 31)))] [])) ?_ fun _ zk => XS.istoreN H1.here hx rfl (hb hby d_jdk_52_m5_31) rfl (l' := #[.val (.ref d), .val (.int ((Int32.ofNat i) <<< ((1 : Int32) &&& 31)))]) rfl zk
  rw [u_shl (by omega : i ≤ 2)]
  refine Rn.pu (T' := T1) (g' := (mkF m 33 #[.val (.ref d), .val (.int (Int32.ofNat (2 * i)))] [(.ref d)])) ?_ fun _ zk => XS.aloadN H1.here hx rfl (hb hby d_jdk_52_m5_32) rfl rfl zk
  refine Rn.pu (T' := T1) (g' := (mkF m 34 #[.val (.ref d), .val (.int (Int32.ofNat (2 * i)))] [(.int (Int32.ofNat (2 * i))), (.ref d)])) ?_ fun _ zk => XS.iloadN H1.here hx rfl (hb hby d_jdk_52_m5_33) rfl zk
  refine Rn.pu (T' := T1) (g' := (mkF m 37 #[.val (.ref d), .val (.int ((Int32.ofNat (2 * i)) + (1 : Int32)))] [(.int (Int32.ofNat (2 * i))), (.ref d)])) ?_ fun _ zk => XS.iinc H1.here hx rfl (hb hby d_jdk_52_m5_34) rfl (l' := #[.val (.ref d), .val (.int ((Int32.ofNat (2 * i)) + (1 : Int32)))]) rfl zk
  rw [u_succ]
  refine Rn.pu (g' := (mkF m 38 #[.val (.ref d), .val (.int (Int32.ofNat (2 * i + 1)))] [(.int (StrChars.lo8 (cs.getD i 0)))])) ?_ (H1.bald AD ⟨u_nn (by omega), u_lt (by omega) (by omega)⟩ (v := .int (StrChars.lo8 (cs.getD i 0))) (by rw [u_cl (by omega)]; exact StrChars.Road.wide_lo _ cs i hi) (g := (mkF m 37 #[.val (.ref d), .val (.int (Int32.ofNat (2 * i + 1)))] [(.int (Int32.ofNat (2 * i))), (.ref d)])) rfl rfl (hb hby d_jdk_52_m5_37))
  refine Rn.pu (T' := T1) (g' := (mkF m 41 #[.val (.ref d), .val (.int (Int32.ofNat (2 * i + 1)))] [(.int (255 : Int32)), (.int (StrChars.lo8 (cs.getD i 0)))])) ?_ fun _ zk => XS.sipush H1.here hx rfl (hb hby d_jdk_52_m5_38) zk
  refine Rn.pu (T' := T1) (g' := (mkF m 42 #[.val (.ref d), .val (.int (Int32.ofNat (2 * i + 1)))] [(.int ((StrChars.lo8 (cs.getD i 0)) &&& (255 : Int32)))])) ?_ fun _ zk => XS.iand H1.here hx rfl (hb hby d_jdk_52_m5_41) rfl zk
  obtain ⟨T2, H2, st2⟩ := H1.getS (host := "") (Or.inl (hw _ (List.mem_of_getElem? (i := 171) rfl))) Via.refl (SU3.ext H1.old) (g := (mkF m 42 #[.val (.ref d), .val (.int (Int32.ofNat (2 * i + 1)))] [(.int ((StrChars.lo8 (cs.getD i 0)) &&& (255 : Int32)))])) rfl (hb hby d_jdk_52_m5_42)
  refine Rn.pu (g' := (mkF m 45 #[.val (.ref d), .val (.int (Int32.ofNat (2 * i + 1)))] [(.int (0 : Int32)), (.int ((StrChars.lo8 (cs.getD i 0)) &&& (255 : Int32)))])) ?_ st2
  refine Rn.pu (T' := T2) (g' := (mkF m 46 #[.val (.ref d), .val (.int (Int32.ofNat (2 * i + 1)))] [(.int (((StrChars.lo8 (cs.getD i 0)) &&& (255 : Int32)) <<< ((0 : Int32) &&& 31)))])) ?_ fun _ zk => XT.ishl H2.here hx rfl (hb hby d_jdk_52_m5_45) rfl zk
  refine Rn.pu (T' := T2) (g' := (mkF m 47 #[.val (.ref d), .val (.int (Int32.ofNat (2 * i + 1)))] [(.ref d), (.int (((StrChars.lo8 (cs.getD i 0)) &&& (255 : Int32)) <<< ((0 : Int32) &&& 31)))])) ?_ fun _ zk => XS.aloadN H2.here hx rfl (hb hby d_jdk_52_m5_46) rfl rfl zk
  refine Rn.pu (T' := T2) (g' := (mkF m 48 #[.val (.ref d), .val (.int (Int32.ofNat (2 * i + 1)))] [(.int (Int32.ofNat (2 * i + 1))), (.ref d), (.int (((StrChars.lo8 (cs.getD i 0)) &&& (255 : Int32)) <<< ((0 : Int32) &&& 31)))])) ?_ fun _ zk => XS.iloadN H2.here hx rfl (hb hby d_jdk_52_m5_47) rfl zk
  refine Rn.pu (g' := (mkF m 49 #[.val (.ref d), .val (.int (Int32.ofNat (2 * i + 1)))] [(.int (StrChars.hi8 (cs.getD i 0))), (.int (((StrChars.lo8 (cs.getD i 0)) &&& (255 : Int32)) <<< ((0 : Int32) &&& 31)))])) ?_ (H2.bald AD ⟨u_nn (by omega), u_lt (by omega) (by omega)⟩ (v := .int (StrChars.hi8 (cs.getD i 0))) (by rw [u_cl (by omega)]; exact StrChars.Road.wide_hi _ cs i hi) (g := (mkF m 48 #[.val (.ref d), .val (.int (Int32.ofNat (2 * i + 1)))] [(.int (Int32.ofNat (2 * i + 1))), (.ref d), (.int (((StrChars.lo8 (cs.getD i 0)) &&& (255 : Int32)) <<< ((0 : Int32) &&& 31)))])) rfl rfl (hb hby d_jdk_52_m5_48))
  refine Rn.pu (T' := T2) (g' := (mkF m 52 #[.val (.ref d), .val (.int (Int32.ofNat (2 * i + 1)))] [(.int (255 : Int32)), (.int (StrChars.hi8 (cs.getD i 0))), (.int (((StrChars.lo8 (cs.getD i 0)) &&& (255 : Int32)) <<< ((0 : Int32) &&& 31)))])) ?_ fun _ zk => XS.sipush H2.here hx rfl (hb hby d_jdk_52_m5_49) zk
  refine Rn.pu (T' := T2) (g' := (mkF m 53 #[.val (.ref d), .val (.int (Int32.ofNat (2 * i + 1)))] [(.int ((StrChars.hi8 (cs.getD i 0)) &&& (255 : Int32))), (.int (((StrChars.lo8 (cs.getD i 0)) &&& (255 : Int32)) <<< ((0 : Int32) &&& 31)))])) ?_ fun _ zk => XS.iand H2.here hx rfl (hb hby d_jdk_52_m5_52) rfl zk
  obtain ⟨T3, H3, st3⟩ := H2.getS (host := "") (Or.inl (hw _ (List.mem_of_getElem? (i := 172) rfl))) Via.refl (SU4.ext H2.old) (g := (mkF m 53 #[.val (.ref d), .val (.int (Int32.ofNat (2 * i + 1)))] [(.int ((StrChars.hi8 (cs.getD i 0)) &&& (255 : Int32))), (.int (((StrChars.lo8 (cs.getD i 0)) &&& (255 : Int32)) <<< ((0 : Int32) &&& 31)))])) rfl (hb hby d_jdk_52_m5_53)
  refine Rn.pu (g' := (mkF m 56 #[.val (.ref d), .val (.int (Int32.ofNat (2 * i + 1)))] [(.int (8 : Int32)), (.int ((StrChars.hi8 (cs.getD i 0)) &&& (255 : Int32))), (.int (((StrChars.lo8 (cs.getD i 0)) &&& (255 : Int32)) <<< ((0 : Int32) &&& 31)))])) ?_ st3
  refine Rn.pu (T' := T3) (g' := (mkF m 57 #[.val (.ref d), .val (.int (Int32.ofNat (2 * i + 1)))] [(.int (((StrChars.hi8 (cs.getD i 0)) &&& (255 : Int32)) <<< ((8 : Int32) &&& 31))), (.int (((StrChars.lo8 (cs.getD i 0)) &&& (255 : Int32)) <<< ((0 : Int32) &&& 31)))])) ?_ fun _ zk => XT.ishl H3.here hx rfl (hb hby d_jdk_52_m5_56) rfl zk
  refine Rn.pu (T' := T3) (g' := (mkF m 58 #[.val (.ref d), .val (.int (Int32.ofNat (2 * i + 1)))] [(.int ((((StrChars.lo8 (cs.getD i 0)) &&& (255 : Int32)) <<< ((0 : Int32) &&& 31)) ||| (((StrChars.hi8 (cs.getD i 0)) &&& (255 : Int32)) <<< ((8 : Int32) &&& 31))))])) ?_ fun _ zk => XT.ior H3.here hx rfl (hb hby d_jdk_52_m5_57) rfl zk
  refine Rn.pu (T' := T3) (g' := (mkF m 59 #[.val (.ref d), .val (.int (Int32.ofNat (2 * i + 1)))] [(.int (nar .char ((((StrChars.lo8 (cs.getD i 0)) &&& (255 : Int32)) <<< ((0 : Int32) &&& 31)) ||| (((StrChars.hi8 (cs.getD i 0)) &&& (255 : Int32)) <<< ((8 : Int32) &&& 31)))))])) ?_ fun _ zk => XT.i2c H3.here hx rfl (hb hby d_jdk_52_m5_58) rfl zk
  exact H3.retS ends_N hlk (t := .char) hret (by simp) (hb hby d_jdk_52_m5_59) (by decide) (by decide) (fun _ q => nomatch q) ⟨by rw [u_pair (u_mem hi hc)], rfl⟩
set_option maxRecDepth 65536 in
set_option maxHeartbeats 40000000 in
theorem c_nbl (l : Launch) {Z : State} {a0 : Array Value} {zc : Int32} {fm : Value} {aP : Addr} {aN : Addr} (B : Base Z a0 zc fm aP aN) (cs : List Int32) (h0 : Heap) (O : Ext Z.heap h0) (hn : cs.length ≤ 2) :
    MetN l Z (⟨"java/lang/StringUTF16", "newBytesLength", "(I)I"⟩ : MethodName) jdk_52_method_3_code 1 (some .int) [] ({ frames := 0, cells := 0, slots := 0, locals := 0 } : Room) #[(.int (Int32.ofNat cs.length))] h0 [] (fun v h => v = some (.int (Int32.ofNat (2 * cs.length))) ∧ h0 = h) := by
  obtain ⟨hw, SC0, hz0, SF1, rf1, SU2, SU3, SU4, SP, SN, XP, XN⟩ := B
  refine MetN.mk (plainFor_of_name pn_java_lang_StringUTF16) (fun m => ef_c_nbl m (Int32.ofNat cs.length)) O ?_
  intro p e s m below meth c T0 hx hby hml hret hlk hnm hsh H0
  have zs : s.heap.size = h0.size := by rw [hsh]
  refine Rn.pu (T' := T0) (g' := (mkF m 1 #[.val (.int (Int32.ofNat cs.length))] [(.int (Int32.ofNat cs.length))])) ?_ fun _ zk => XS.iloadN H0.here hx rfl (hb hby d_jdk_52_m3_0) rfl zk
  refine Rn.pu (T' := T0) (g' := (mkF m 12 #[.val (.int (Int32.ofNat cs.length))] [])) ?_ fun _ zk => XS.ifYes H0.here hx rfl (pc0 := 1) (pc' := 12) rfl (hb hby d_jdk_52_m3_1) rfl (z_ge_t (u_nn (by omega))) (by decide) (by decide) zk
  refine Rn.pu (T' := T0) (g' := (mkF m 13 #[.val (.int (Int32.ofNat cs.length))] [(.int (Int32.ofNat cs.length))])) ?_ fun _ zk => XS.iloadN H0.here hx rfl (hb hby d_jdk_52_m3_12) rfl zk
  refine Rn.pu (g' := (mkF m 15 #[.val (.int (Int32.ofNat cs.length))] [(.int (1073741823 : Int32)), (.int (Int32.ofNat cs.length))])) ?_ (H0.ldcI (hw _ (List.mem_of_getElem? (i := 166) rfl)) (g := (mkF m 13 #[.val (.int (Int32.ofNat cs.length))] [(.int (Int32.ofNat cs.length))])) rfl (hb hby d_jdk_52_m3_13))
  refine Rn.pu (T' := T0) (g' := (mkF m 55 #[.val (.int (Int32.ofNat cs.length))] [])) ?_ fun _ zk => XS.icmpYes H0.here hx rfl (pc0 := 15) (pc' := 55) rfl (hb hby d_jdk_52_m3_15) rfl (c_lt_t (u_big hn)) (by decide) (by decide) zk
  refine Rn.pu (T' := T0) (g' := (mkF m 56 #[.val (.int (Int32.ofNat cs.length))] [(.int (Int32.ofNat cs.length))])) ?_ fun _ zk => XS.iloadN H0.here hx rfl (hb hby d_jdk_52_m3_55) rfl zk
  refine Rn.pu (T' := T0) (g' := (mkF m 57 #[.val (.int (Int32.ofNat cs.length))] [(.int (1 : Int32)), (.int (Int32.ofNat cs.length))])) ?_ fun _ zk => XS.iconst H0.here hx rfl (hb hby d_jdk_52_m3_56) zk
  refine Rn.pu (T' := T0) (g' := (mkF m 58 #[.val (.int (Int32.ofNat cs.length))] [(.int ((Int32.ofNat cs.length) <<< ((1 : Int32) &&& 31)))])) ?_ fun _ zk => XT.ishl H0.here hx rfl (hb hby d_jdk_52_m3_57) rfl zk
  exact H0.retI ends_N hlk hret (hb hby d_jdk_52_m3_58) (by decide) (by decide) (fun _ q => nomatch q) ⟨by rw [u_shl hn], rfl⟩
set_option maxRecDepth 65536 in
set_option maxHeartbeats 40000000 in
theorem c_nbf (l : Launch) {Z : State} {a0 : Array Value} {zc : Int32} {fm : Value} {aP : Addr} {aN : Addr} (B : Base Z a0 zc fm aP aN) (cs : List Int32) (h0 : Heap) (O : Ext Z.heap h0) (hn : cs.length ≤ 2) :
    MetN l Z (⟨"java/lang/StringUTF16", "newBytesFor", "(I)[B"⟩ : MethodName) jdk_52_method_2_code 1 (some (.array .byte)) [] ({ frames := 1, cells := 1, slots := 4, locals := 12 } : Room) #[(.int (Int32.ofNat cs.length))] h0 [] (fun v h => ∃ d kB, v = some (.ref d) ∧ Arv Z h d kB .byte (Int32.ofNat (2 * cs.length)) [] (.int 0) ∧ h0.size ≤ d ∧ h.size > d) := by
  obtain ⟨hw, SC0, hz0, SF1, rf1, SU2, SU3, SU4, SP, SN, XP, XN⟩ := B
  refine MetN.mk (plainFor_of_name pn_java_lang_StringUTF16) (fun m => ef_c_nbf m (Int32.ofNat cs.length)) O ?_
  intro p e s m below meth c T0 hx hby hml hret hlk hnm hsh H0
  have zs : s.heap.size = h0.size := by rw [hsh]
  refine Rn.pu (T' := T0) (g' := (mkF m 1 #[.val (.int (Int32.ofNat cs.length))] [(.int (Int32.ofNat cs.length))])) ?_ fun _ zk => XS.iloadN H0.here hx rfl (hb hby d_jdk_52_m2_0) rfl zk
  obtain ⟨_, T1, h1, H1, ⟨rfl, rfl⟩, -, st1⟩ := H0.callS (hw _ (List.mem_of_getElem? (i := 163) rfl)) (hw _ (List.mem_of_getElem? (i := 164) rfl)) (hw _ (List.mem_of_getElem? (i := 24) rfl)) (hw _ (List.mem_of_getElem? (i := 165) rfl)) (by decide) (MetN.pay (W := 0) (c_nbl l ⟨hw, SC0, hz0, SF1, rf1, SU2, SU3, SU4, SP, SN, XP, XN⟩ cs h0 H0.old hn) (hw _ (List.mem_of_getElem? (i := 165) rfl)) (hw _ (List.mem_of_getElem? (i := 24) rfl)) (by decide) (by decide)) (g := (mkF m 1 #[.val (.int (Int32.ofNat cs.length))] [(.int (Int32.ofNat cs.length))])) rfl (by rw [hml]; rfl) (argsL := [(.int (Int32.ofNat cs.length))]) (rest := []) (lenOf pd__I_I rfl) rfl rfl (Nat.le_of_eq rfl) (hb hby d_jdk_52_m2_1) (by decide) (by decide) all0
  refine Rn.pu (g' := (mkF m 4 #[.val (.int (Int32.ofNat cs.length))] [(.int (Int32.ofNat (2 * cs.length)))])) ?_ st1
  obtain ⟨a2, k2, T2, h2, e2, H2, K2, A2, st2⟩ := H1.newP (aty := .byte) (hw _ (List.mem_of_getElem? (i := 26) rfl)) (g := (mkF m 4 #[.val (.int (Int32.ofNat cs.length))] [(.int (Int32.ofNat (2 * cs.length)))])) rfl (hb hby d_jdk_52_m2_4) rfl (u_nn (by omega)) (cap := 4) (by rw [u_cl (by omega)]; omega) (by decide) (by decide) (by decide)
  have zh2 := K2.1
  have l2 := natlt (A2).lt
  have g2 : s.heap.size ≤ a2 := by omega
  refine Rn.pu (g' := (mkF m 6 #[.val (.int (Int32.ofNat cs.length))] [(.ref a2)])) ?_ st2
  exact H2.retA ends_N hlk hret rfl rfl rfl (hb hby d_jdk_52_m2_6) (by decide) (by decide) (fun _ q => nomatch q) ⟨a2, k2, rfl, A2, by omega, by omega⟩
set_option maxRecDepth 65536 in
set_option maxHeartbeats 40000000 in
theorem c_tob (l : Launch) {Z : State} {a0 : Array Value} {zc : Int32} {fm : Value} {aP : Addr} {aN : Addr} (B : Base Z a0 zc fm aP aN) (b : Addr) (kC : ClassId) (dv : Value) (cs : List Int32) (h0 : Heap) (O : Ext Z.heap h0) (hn : cs.length ≤ 2) (AB : Arv Z h0 b kC .char (Int32.ofNat cs.length) (cs.map Value.int) dv) :
    MetN l Z (⟨"java/lang/StringUTF16", "toBytes", "([CII)[B"⟩ : MethodName) jdk_52_method_14_code 5 (some (.array .byte)) [] ({ frames := 2, cells := 1, slots := 4, locals := 24 } : Room) #[(.ref b), (.int (0 : Int32)), (.int (Int32.ofNat cs.length))] h0 [] (fun v h => ∃ d kB, v = some (.ref d) ∧ Arv Z h d kB .byte (Int32.ofNat (2 * cs.length)) (StrChars.Road.wideBytes cs) (.int 0) ∧ h0.size ≤ d ∧ h.size > d) := by
  obtain ⟨hw, SC0, hz0, SF1, rf1, SU2, SU3, SU4, SP, SN, XP, XN⟩ := B
  refine MetN.mk (plainFor_of_name pn_java_lang_StringUTF16) (fun m => ef_c_tob m b (0 : Int32) (Int32.ofNat cs.length)) O ?_
  intro p e s m below meth c T0 hx hby hml hret hlk hnm hsh H0
  have zs : s.heap.size = h0.size := by rw [hsh]
  have lb := natlt (AB).lt
  refine Rn.pu (T' := T0) (g' := (mkF m 1 #[.val (.ref b), .val (.int (0 : Int32)), .val (.int (Int32.ofNat cs.length)), .unset, .unset] [(.int (Int32.ofNat cs.length))])) ?_ fun _ zk => XS.iloadN H0.here hx rfl (hb hby d_jdk_52_m14_0) rfl zk
  obtain ⟨_, T1, h1, H1, ⟨d1, kd1, rfl, A1, gd1, ld1⟩, K1, st1⟩ := H0.callS (hw _ (List.mem_of_getElem? (i := 160) rfl)) (hw _ (List.mem_of_getElem? (i := 161) rfl)) (hw _ (List.mem_of_getElem? (i := 24) rfl)) (hw _ (List.mem_of_getElem? (i := 162) rfl)) (by decide) (MetN.pay (W := 0) (c_nbf l ⟨hw, SC0, hz0, SF1, rf1, SU2, SU3, SU4, SP, SN, XP, XN⟩ cs h0 H0.old hn) (hw _ (List.mem_of_getElem? (i := 162) rfl)) (hw _ (List.mem_of_getElem? (i := 24) rfl)) (by decide) (by decide)) (g := (mkF m 1 #[.val (.ref b), .val (.int (0 : Int32)), .val (.int (Int32.ofNat cs.length)), .unset, .unset] [(.int (Int32.ofNat cs.length))])) rfl (by rw [hml]; rfl) (argsL := [(.int (Int32.ofNat cs.length))]) (rest := []) (lenOf pd__I_AB rfl) rfl rfl (Nat.le_of_eq rfl) (hb hby d_jdk_52_m14_1) (by decide) (by decide) all0
  have zh1 := K1.1
  refine Rn.pu (g' := (mkF m 4 #[.val (.ref b), .val (.int (0 : Int32)), .val (.int (Int32.ofNat cs.length)), .unset, .unset] [(.ref d1)])) ?_ st1
  refine Rn.pu (T' := T1) (g' := (mkF m 5 #[.val (.ref b), .val (.int (0 : Int32)), .val (.int (Int32.ofNat cs.length)), .val (.ref d1), .unset] [])) ?_ fun _ zk => XS.astoreN H1.here hx rfl (hb hby d_jdk_52_m14_4) rfl rfl (l' := #[.val (.ref b), .val (.int (0 : Int32)), .val (.int (Int32.ofNat cs.length)), .val (.ref d1), .unset]) rfl zk
  refine Rn.pu (T' := T1) (g' := (mkF m 6 #[.val (.ref b), .val (.int (0 : Int32)), .val (.int (Int32.ofNat cs.length)), .val (.ref d1), .unset] [(.int (0 : Int32))])) ?_ fun _ zk => XS.iconst H1.here hx rfl (hb hby d_jdk_52_m14_5) zk
  refine Rn.pu (T' := T1) (g' := (mkF m 8 #[.val (.ref b), .val (.int (0 : Int32)), .val (.int (Int32.ofNat cs.length)), .val (.ref d1), .val (.int (0 : Int32))] [])) ?_ fun _ zk => XS.istore H1.here hx rfl (hb hby d_jdk_52_m14_6) rfl (l' := #[.val (.ref b), .val (.int (0 : Int32)), .val (.int (Int32.ofNat cs.length)), .val (.ref d1), .val (.int (0 : Int32))]) rfl zk
  have L8 : ∀ (k i : Nat) (T : State) (h : Heap), i + k = cs.length → Hs p l e ({ frames := 2, cells := 1, slots := 4, locals := 24 } : Room) s m #[(.ref b), (.int (0 : Int32)), (.int (Int32.ofNat cs.length))] below meth c Z "java/lang/StringUTF16" [] (fun v => v = s.vm) T h 1 4 → h1.size ≤ h.size → Arv Z h b kC .char (Int32.ofNat cs.length) (cs.map Value.int) dv → Arv Z h d1 kd1 .byte (Int32.ofNat (2 * cs.length)) (StrChars.Road.wideBytes (cs.take i)) (.int 0) → Rn p e below s FrameEnd [] (({ frames := 2, cells := 1, slots := 4, locals := 24 } : Room)).cells (({ frames := 2, cells := 1, slots := 4, locals := 24 } : Room)).slots (fun v _ h => ∃ d kB, v = some (.ref d) ∧ Arv Z h d kB .byte (Int32.ofNat (2 * cs.length)) (StrChars.Road.wideBytes cs) (.int 0) ∧ h0.size ≤ d ∧ h.size > d) T (mkF m 8 #[.val (.ref b), .val (.int (Int32.ofNat i)), .val (.int (Int32.ofNat cs.length)), .val (.ref d1), .val (.int (Int32.ofNat i))] []) := by
    intro k
    induction k with
    | zero =>
      intro i T h hi HL zh AB AE
      have lE := natlt (AE).lt
      obtain rfl : i = cs.length := by omega
      rw [List.take_length] at AE
      refine Rn.pu (T' := T) (g' := (mkF m 10 #[.val (.ref b), .val (.int (Int32.ofNat cs.length)), .val (.int (Int32.ofNat cs.length)), .val (.ref d1), .val (.int (Int32.ofNat cs.length))] [(.int (Int32.ofNat cs.length))])) ?_ fun _ zk => XS.iload HL.here hx rfl (hb hby d_jdk_52_m14_8) rfl zk
      refine Rn.pu (T' := T) (g' := (mkF m 11 #[.val (.ref b), .val (.int (Int32.ofNat cs.length)), .val (.int (Int32.ofNat cs.length)), .val (.ref d1), .val (.int (Int32.ofNat cs.length))] [(.int (Int32.ofNat cs.length)), (.int (Int32.ofNat cs.length))])) ?_ fun _ zk => XS.iloadN HL.here hx rfl (hb hby d_jdk_52_m14_10) rfl zk
      refine Rn.pu (T' := T) (g' := (mkF m 32 #[.val (.ref b), .val (.int (Int32.ofNat cs.length)), .val (.int (Int32.ofNat cs.length)), .val (.ref d1), .val (.int (Int32.ofNat cs.length))] [])) ?_ fun _ zk => XS.icmpYes HL.here hx rfl (pc0 := 11) (pc' := 32) rfl (hb hby d_jdk_52_m14_11) rfl (c_ge_t u_nlt) (by decide) (by decide) zk
      refine Rn.pu (T' := T) (g' := (mkF m 33 #[.val (.ref b), .val (.int (Int32.ofNat cs.length)), .val (.int (Int32.ofNat cs.length)), .val (.ref d1), .val (.int (Int32.ofNat cs.length))] [(.ref d1)])) ?_ fun _ zk => XS.aloadN HL.here hx rfl (hb hby d_jdk_52_m14_32) rfl rfl zk
      exact HL.retA ends_N hlk hret rfl rfl rfl (hb hby d_jdk_52_m14_33) (by decide) (by decide) (fun _ q => nomatch q) ⟨d1, kd1, rfl, AE, by omega, by omega⟩
    | succ k ih =>
      intro i T h hi HL zh AB AE
      have lE := natlt (AE).lt
      have hlt : i < cs.length := by omega
      refine Rn.pu (T' := T) (g' := (mkF m 10 #[.val (.ref b), .val (.int (Int32.ofNat i)), .val (.int (Int32.ofNat cs.length)), .val (.ref d1), .val (.int (Int32.ofNat i))] [(.int (Int32.ofNat i))])) ?_ fun _ zk => XS.iload HL.here hx rfl (hb hby d_jdk_52_m14_8) rfl zk
      refine Rn.pu (T' := T) (g' := (mkF m 11 #[.val (.ref b), .val (.int (Int32.ofNat i)), .val (.int (Int32.ofNat cs.length)), .val (.ref d1), .val (.int (Int32.ofNat i))] [(.int (Int32.ofNat cs.length)), (.int (Int32.ofNat i))])) ?_ fun _ zk => XS.iloadN HL.here hx rfl (hb hby d_jdk_52_m14_10) rfl zk
      refine Rn.pu (T' := T) (g' := (mkF m 14 #[.val (.ref b), .val (.int (Int32.ofNat i)), .val (.int (Int32.ofNat cs.length)), .val (.ref d1), .val (.int (Int32.ofNat i))] [])) ?_ fun _ zk => XS.icmpNo HL.here hx rfl (hb hby d_jdk_52_m14_11) rfl (c_ge_f (u_lt hlt (by omega))) zk
      refine Rn.pu (T' := T) (g' := (mkF m 15 #[.val (.ref b), .val (.int (Int32.ofNat i)), .val (.int (Int32.ofNat cs.length)), .val (.ref d1), .val (.int (Int32.ofNat i))] [(.ref d1)])) ?_ fun _ zk => XS.aloadN HL.here hx rfl (hb hby d_jdk_52_m14_14) rfl rfl zk
      refine Rn.pu (T' := T) (g' := (mkF m 17 #[.val (.ref b), .val (.int (Int32.ofNat i)), .val (.int (Int32.ofNat cs.length)), .val (.ref d1), .val (.int (Int32.ofNat i))] [(.int (Int32.ofNat i)), (.ref d1)])) ?_ fun _ zk => XS.iload HL.here hx rfl (hb hby d_jdk_52_m14_15) rfl zk
      refine Rn.pu (T' := T) (g' := (mkF m 18 #[.val (.ref b), .val (.int (Int32.ofNat i)), .val (.int (Int32.ofNat cs.length)), .val (.ref d1), .val (.int (Int32.ofNat i))] [(.ref b), (.int (Int32.ofNat i)), (.ref d1)])) ?_ fun _ zk => XS.aloadN HL.here hx rfl (hb hby d_jdk_52_m14_17) rfl rfl zk
      refine Rn.pu (T' := T) (g' := (mkF m 19 #[.val (.ref b), .val (.int (Int32.ofNat i)), .val (.int (Int32.ofNat cs.length)), .val (.ref d1), .val (.int (Int32.ofNat i))] [(.int (Int32.ofNat i)), (.ref b), (.int (Int32.ofNat i)), (.ref d1)])) ?_ fun _ zk => XS.iloadN HL.here hx rfl (hb hby d_jdk_52_m14_18) rfl zk
      refine Rn.pu (g' := (mkF m 20 #[.val (.ref b), .val (.int (Int32.ofNat i)), .val (.int (Int32.ofNat cs.length)), .val (.ref d1), .val (.int (Int32.ofNat i))] [(.int (cs.getD i 0)), (.int (Int32.ofNat i)), (.ref d1)])) ?_ (HL.cald AB ⟨u_nn (by omega), u_lt hlt (by omega)⟩ (v := .int (cs.getD i 0)) (by rw [u_cl (by omega)]; exact u_map hlt _) (g := (mkF m 19 #[.val (.ref b), .val (.int (Int32.ofNat i)), .val (.int (Int32.ofNat cs.length)), .val (.ref d1), .val (.int (Int32.ofNat i))] [(.int (Int32.ofNat i)), (.ref b), (.int (Int32.ofNat i)), (.ref d1)])) rfl rfl (hb hby d_jdk_52_m14_19))
      obtain ⟨_, T2, h2, H2, ⟨rfl, A2⟩, K2, st2⟩ := HL.callS (hw _ (List.mem_of_getElem? (i := 167) rfl)) (hw _ (List.mem_of_getElem? (i := 168) rfl)) (hw _ (List.mem_of_getElem? (i := 24) rfl)) (hw _ (List.mem_of_getElem? (i := 169) rfl)) (by decide) (MetN.pay (W := 0) (c_put l ⟨hw, SC0, hz0, SF1, rf1, SU2, SU3, SU4, SP, SN, XP, XN⟩ d1 (cs.getD i 0) kd1 _ i cs.length h HL.old hlt hn AE (by rw [u_wide, List.length_take]; omega) (by have := H0.old.1; omega)) (hw _ (List.mem_of_getElem? (i := 169) rfl)) (hw _ (List.mem_of_getElem? (i := 24) rfl)) (by decide) (by decide)) (g := (mkF m 20 #[.val (.ref b), .val (.int (Int32.ofNat i)), .val (.int (Int32.ofNat cs.length)), .val (.ref d1), .val (.int (Int32.ofNat i))] [(.int (cs.getD i 0)), (.int (Int32.ofNat i)), (.ref d1)])) rfl (by rw [hml]; rfl) (argsL := [(.ref d1), (.int (Int32.ofNat i)), (.int (cs.getD i 0))]) (rest := []) (lenOf pd__ABII_V rfl) rfl rfl (Nat.le_of_eq rfl) (hb hby d_jdk_52_m14_20) (by decide) (by decide) (allS (Or.inr (by omega)) all0)
      have zh2 := K2.1
      refine Rn.pu (g' := (mkF m 23 #[.val (.ref b), .val (.int (Int32.ofNat i)), .val (.int (Int32.ofNat cs.length)), .val (.ref d1), .val (.int (Int32.ofNat i))] [])) ?_ st2
      refine Rn.pu (T' := T2) (g' := (mkF m 26 #[.val (.ref b), .val (.int ((Int32.ofNat i) + (1 : Int32))), .val (.int (Int32.ofNat cs.length)), .val (.ref d1), .val (.int (Int32.ofNat i))] [])) ?_ fun _ zk => XS.iinc H2.here hx rfl (hb hby d_jdk_52_m14_23) rfl (l' := #[.val (.ref b), .val (.int ((Int32.ofNat i) + (1 : Int32))), .val (.int (Int32.ofNat cs.length)), .val (.ref d1), .val (.int (Int32.ofNat i))]) rfl zk
      refine Rn.pu (T' := T2) (g' := (mkF m 29 #[.val (.ref b), .val (.int ((Int32.ofNat i) + (1 : Int32))), .val (.int (Int32.ofNat cs.length)), .val (.ref d1), .val (.int ((Int32.ofNat i) + (1 : Int32)))] [])) ?_ fun _ zk => XS.iinc H2.here hx rfl (hb hby d_jdk_52_m14_26) rfl (l' := #[.val (.ref b), .val (.int ((Int32.ofNat i) + (1 : Int32))), .val (.int (Int32.ofNat cs.length)), .val (.ref d1), .val (.int ((Int32.ofNat i) + (1 : Int32)))]) rfl zk
      refine Rn.pu (T' := T2) (g' := (mkF m 8 #[.val (.ref b), .val (.int ((Int32.ofNat i) + (1 : Int32))), .val (.int (Int32.ofNat cs.length)), .val (.ref d1), .val (.int ((Int32.ofNat i) + (1 : Int32)))] [])) ?_ fun _ zk => XS.goto H2.here hx rfl (pc0 := 29) (pc' := 8) rfl (hb hby d_jdk_52_m14_29) (by decide) (by decide) zk
      rw [u_succ]
      have AE2 := A2
      rw [u_take hlt] at AE2
      exact ih (i + 1) _ _ (by omega) H2 (by omega) (AB.keep K2 (ninS (adne (by omega)) nin0)) AE2
  exact L8 cs.length 0 _ _ (by omega) H1 (Nat.le_refl _) (AB.keep K1 nin0) A1
set_option maxRecDepth 65536 in
set_option maxHeartbeats 40000000 in
theorem c_cmp5 (l : Launch) {Z : State} {a0 : Array Value} {zc : Int32} {fm : Value} {aP : Addr} {aN : Addr} (B : Base Z a0 zc fm aP aN) (b d : Addr) (kC kB : ClassId) (dv : Value) (cs : List Int32) (h0 : Heap) (O : Ext Z.heap h0) (hn : cs.length ≤ 2) (hbig : ∃ c ∈ cs, (255 : Int32) < c) (AB : Arv Z h0 b kC .char (Int32.ofNat cs.length) (cs.map Value.int) dv) (AD : Arv Z h0 d kB .byte (Int32.ofNat cs.length) [] (.int 0)) (bd : b ≠ d) (gd : Z.heap.size ≤ d) :
    MetN l Z (⟨"java/lang/StringUTF16", "compress", "([CI[BII)I"⟩ : MethodName) jdk_52_method_21_code 7 (some .int) [] ({ frames := 0, cells := 0, slots := 0, locals := 0 } : Room) #[(.ref b), (.int (0 : Int32)), (.ref d), (.int (0 : Int32)), (.int (Int32.ofNat cs.length))] h0 [d] (fun v h => ∃ k, v = some (.int (Int32.ofNat k)) ∧ k < cs.length ∧ (255 : Int32) < cs.getD k 0) := by
  obtain ⟨hw, SC0, hz0, SF1, rf1, SU2, SU3, SU4, SP, SN, XP, XN⟩ := B
  refine MetN.mk (plainFor_of_name pn_java_lang_StringUTF16) (fun m => ef_c_cmp5 m b (0 : Int32) d (0 : Int32) (Int32.ofNat cs.length)) O ?_
  intro p e s m below meth c T0 hx hby hml hret hlk hnm hsh H0
  have zs : s.heap.size = h0.size := by rw [hsh]
  have H0 := H0.weak (ws' := [d]) (fun _ q => nomatch q) (allS gd all0)
  refine Rn.pu (T' := T0) (g' := (mkF m 1 #[.val (.ref b), .val (.int (0 : Int32)), .val (.ref d), .val (.int (0 : Int32)), .val (.int (Int32.ofNat cs.length)), .unset, .unset] [(.int (0 : Int32))])) ?_ fun _ zk => XS.iconst H0.here hx rfl (hb hby d_jdk_52_m21_0) zk
  refine Rn.pu (T' := T0) (g' := (mkF m 3 #[.val (.ref b), .val (.int (0 : Int32)), .val (.ref d), .val (.int (0 : Int32)), .val (.int (Int32.ofNat cs.length)), .val (.int (0 : Int32)), .unset] [])) ?_ fun _ zk => XS.istore H0.here hx rfl (hb hby d_jdk_52_m21_1) rfl (l' := #[.val (.ref b), .val (.int (0 : Int32)), .val (.ref d), .val (.int (0 : Int32)), .val (.int (Int32.ofNat cs.length)), .val (.int (0 : Int32)), .unset]) rfl zk
  have L3 : ∀ (k i : Nat) (T : State) (h : Heap) (vs : List Value) (o6 : Slot), i + k = cs.length → vs.length = i → One o6 → (∀ j, j < i → ¬ (255 : Int32) < cs.getD j 0) → Hs p l e ({ frames := 0, cells := 0, slots := 0, locals := 0 } : Room) s m #[(.ref b), (.int (0 : Int32)), (.ref d), (.int (0 : Int32)), (.int (Int32.ofNat cs.length))] below meth c Z "java/lang/StringUTF16" [d] (fun v => v = s.vm) T h 0 0 → Arv Z h b kC .char (Int32.ofNat cs.length) (cs.map Value.int) dv → Arv Z h d kB .byte (Int32.ofNat cs.length) vs (.int 0) → Rn p e below s FrameEnd [d] (({ frames := 0, cells := 0, slots := 0, locals := 0 } : Room)).cells (({ frames := 0, cells := 0, slots := 0, locals := 0 } : Room)).slots (fun v _ h => ∃ k, v = some (.int (Int32.ofNat k)) ∧ k < cs.length ∧ (255 : Int32) < cs.getD k 0) T (mkF m 3 #[.val (.ref b), .val (.int (Int32.ofNat i)), .val (.ref d), .val (.int (Int32.ofNat i)), .val (.int (Int32.ofNat cs.length)), .val (.int (Int32.ofNat i)), o6] []) := by
    intro k
    induction k with
    | zero =>
      intro i T h vs o6 hi hv h6 hj HL AB AD
      exact absurd hbig (u_none (fun j q => hj j (by omega)))
    | succ k ih =>
      intro i T h vs o6 hi hv h6 hj HL AB AD
      have hlt : i < cs.length := by omega
      refine Rn.pu (T' := T) (g' := (mkF m 5 #[.val (.ref b), .val (.int (Int32.ofNat i)), .val (.ref d), .val (.int (Int32.ofNat i)), .val (.int (Int32.ofNat cs.length)), .val (.int (Int32.ofNat i)), o6] [(.int (Int32.ofNat i))])) ?_ fun _ zk => XS.iload HL.here hx rfl (hb hby d_jdk_52_m21_3) rfl zk
      refine Rn.pu (T' := T) (g' := (mkF m 7 #[.val (.ref b), .val (.int (Int32.ofNat i)), .val (.ref d), .val (.int (Int32.ofNat i)), .val (.int (Int32.ofNat cs.length)), .val (.int (Int32.ofNat i)), o6] [(.int (Int32.ofNat cs.length)), (.int (Int32.ofNat i))])) ?_ fun _ zk => XS.iload HL.here hx rfl (hb hby d_jdk_52_m21_5) rfl zk
      refine Rn.pu (T' := T) (g' := (mkF m 10 #[.val (.ref b), .val (.int (Int32.ofNat i)), .val (.ref d), .val (.int (Int32.ofNat i)), .val (.int (Int32.ofNat cs.length)), .val (.int (Int32.ofNat i)), o6] [])) ?_ fun _ zk => XS.icmpNo HL.here hx rfl (hb hby d_jdk_52_m21_7) rfl (c_ge_f (u_lt hlt (by omega))) zk
      refine Rn.pu (T' := T) (g' := (mkF m 11 #[.val (.ref b), .val (.int (Int32.ofNat i)), .val (.ref d), .val (.int (Int32.ofNat i)), .val (.int (Int32.ofNat cs.length)), .val (.int (Int32.ofNat i)), o6] [(.ref b)])) ?_ fun _ zk => XS.aloadN HL.here hx rfl (hb hby d_jdk_52_m21_10) rfl rfl zk
      refine Rn.pu (T' := T) (g' := (mkF m 12 #[.val (.ref b), .val (.int (Int32.ofNat i)), .val (.ref d), .val (.int (Int32.ofNat i)), .val (.int (Int32.ofNat cs.length)), .val (.int (Int32.ofNat i)), o6] [(.int (Int32.ofNat i)), (.ref b)])) ?_ fun _ zk => XS.iloadN HL.here hx rfl (hb hby d_jdk_52_m21_11) rfl zk
      refine Rn.pu (g' := (mkF m 13 #[.val (.ref b), .val (.int (Int32.ofNat i)), .val (.ref d), .val (.int (Int32.ofNat i)), .val (.int (Int32.ofNat cs.length)), .val (.int (Int32.ofNat i)), o6] [(.int (cs.getD i 0))])) ?_ (HL.cald AB ⟨u_nn (by omega), u_lt hlt (by omega)⟩ (v := .int (cs.getD i 0)) (by rw [u_cl (by omega)]; exact u_map hlt _) (g := (mkF m 12 #[.val (.ref b), .val (.int (Int32.ofNat i)), .val (.ref d), .val (.int (Int32.ofNat i)), .val (.int (Int32.ofNat cs.length)), .val (.int (Int32.ofNat i)), o6] [(.int (Int32.ofNat i)), (.ref b)])) rfl rfl (hb hby d_jdk_52_m21_12))
      refine Rn.pu (T' := T) (g' := (mkF m 15 #[.val (.ref b), .val (.int (Int32.ofNat i)), .val (.ref d), .val (.int (Int32.ofNat i)), .val (.int (Int32.ofNat cs.length)), .val (.int (Int32.ofNat i)), .val (.int (cs.getD i 0))] [])) ?_ fun _ zk => XS.istoreS HL.here hx rfl (hb hby d_jdk_52_m21_13) rfl rfl h6 zk
      refine Rn.pu (T' := T) (g' := (mkF m 17 #[.val (.ref b), .val (.int (Int32.ofNat i)), .val (.ref d), .val (.int (Int32.ofNat i)), .val (.int (Int32.ofNat cs.length)), .val (.int (Int32.ofNat i)), .val (.int (cs.getD i 0))] [(.int (cs.getD i 0))])) ?_ fun _ zk => XS.iload HL.here hx rfl (hb hby d_jdk_52_m21_15) rfl zk
      refine Rn.pu (T' := T) (g' := (mkF m 20 #[.val (.ref b), .val (.int (Int32.ofNat i)), .val (.ref d), .val (.int (Int32.ofNat i)), .val (.int (Int32.ofNat cs.length)), .val (.int (Int32.ofNat i)), .val (.int (cs.getD i 0))] [(.int (255 : Int32)), (.int (cs.getD i 0))])) ?_ fun _ zk => XS.sipush HL.here hx rfl (hb hby d_jdk_52_m21_17) zk
      by_cases b20_1 : (255 : Int32) < (cs.getD i 0)
      ·
        refine Rn.pu (T' := T) (g' := (mkF m 23 #[.val (.ref b), .val (.int (Int32.ofNat i)), .val (.ref d), .val (.int (Int32.ofNat i)), .val (.int (Int32.ofNat cs.length)), .val (.int (Int32.ofNat i)), .val (.int (cs.getD i 0))] [])) ?_ fun _ zk => XS.icmpNo HL.here hx rfl (hb hby d_jdk_52_m21_20) rfl (c_le_f b20_1) zk
        refine Rn.pu (T' := T) (g' := (mkF m 25 #[.val (.ref b), .val (.int (Int32.ofNat i)), .val (.ref d), .val (.int (Int32.ofNat i)), .val (.int (Int32.ofNat cs.length)), .val (.int (Int32.ofNat i)), .val (.int (cs.getD i 0))] [(.int (Int32.ofNat i))])) ?_ fun _ zk => XS.iload HL.here hx rfl (hb hby d_jdk_52_m21_23) rfl zk
        exact HL.retI ends_N hlk hret (hb hby d_jdk_52_m21_25) (by decide) (by decide) (fun _ q => q) ⟨i, rfl, hlt, b20_1⟩
      ·
        refine Rn.pu (T' := T) (g' := (mkF m 26 #[.val (.ref b), .val (.int (Int32.ofNat i)), .val (.ref d), .val (.int (Int32.ofNat i)), .val (.int (Int32.ofNat cs.length)), .val (.int (Int32.ofNat i)), .val (.int (cs.getD i 0))] [])) ?_ fun _ zk => XS.icmpYes HL.here hx rfl (pc0 := 20) (pc' := 26) rfl (hb hby d_jdk_52_m21_20) rfl (c_le_t b20_1) (by decide) (by decide) zk
        refine Rn.pu (T' := T) (g' := (mkF m 27 #[.val (.ref b), .val (.int (Int32.ofNat i)), .val (.ref d), .val (.int (Int32.ofNat i)), .val (.int (Int32.ofNat cs.length)), .val (.int (Int32.ofNat i)), .val (.int (cs.getD i 0))] [(.ref d)])) ?_ fun _ zk => XS.aloadN HL.here hx rfl (hb hby d_jdk_52_m21_26) rfl rfl zk
        refine Rn.pu (T' := T) (g' := (mkF m 28 #[.val (.ref b), .val (.int (Int32.ofNat i)), .val (.ref d), .val (.int (Int32.ofNat i)), .val (.int (Int32.ofNat cs.length)), .val (.int (Int32.ofNat i)), .val (.int (cs.getD i 0))] [(.int (Int32.ofNat i)), (.ref d)])) ?_ fun _ zk => XS.iloadN HL.here hx rfl (hb hby d_jdk_52_m21_27) rfl zk
        refine Rn.pu (T' := T) (g' := (mkF m 30 #[.val (.ref b), .val (.int (Int32.ofNat i)), .val (.ref d), .val (.int (Int32.ofNat i)), .val (.int (Int32.ofNat cs.length)), .val (.int (Int32.ofNat i)), .val (.int (cs.getD i 0))] [(.int (cs.getD i 0)), (.int (Int32.ofNat i)), (.ref d)])) ?_ fun _ zk => XS.iload HL.here hx rfl (hb hby d_jdk_52_m21_28) rfl zk
        refine Rn.pu (T' := T) (g' := (mkF m 31 #[.val (.ref b), .val (.int (Int32.ofNat i)), .val (.ref d), .val (.int (Int32.ofNat i)), .val (.int (Int32.ofNat cs.length)), .val (.int (Int32.ofNat i)), .val (.int (cs.getD i 0))] [(.int (nar .byte (cs.getD i 0))), (.int (Int32.ofNat i)), (.ref d)])) ?_ fun _ zk => XT.i2b HL.here hx rfl (hb hby d_jdk_52_m21_30) rfl zk
        obtain ⟨T2, h2, H2, K2, A2, st2⟩ := HL.stB AD ⟨u_nn (by omega), u_lt hlt (by omega)⟩ (by rw [u_cl (by omega)]; omega) (Or.inl (List.mem_singleton.mpr rfl)) (g := (mkF m 31 #[.val (.ref b), .val (.int (Int32.ofNat i)), .val (.ref d), .val (.int (Int32.ofNat i)), .val (.int (Int32.ofNat cs.length)), .val (.int (Int32.ofNat i)), .val (.int (cs.getD i 0))] [(.int (nar .byte (cs.getD i 0))), (.int (Int32.ofNat i)), (.ref d)])) rfl rfl (hb hby d_jdk_52_m21_31)
        have zh2 := K2.1
        refine Rn.pu (g' := (mkF m 32 #[.val (.ref b), .val (.int (Int32.ofNat i)), .val (.ref d), .val (.int (Int32.ofNat i)), .val (.int (Int32.ofNat cs.length)), .val (.int (Int32.ofNat i)), .val (.int (cs.getD i 0))] [])) ?_ st2
        refine Rn.pu (T' := T2) (g' := (mkF m 35 #[.val (.ref b), .val (.int ((Int32.ofNat i) + (1 : Int32))), .val (.ref d), .val (.int (Int32.ofNat i)), .val (.int (Int32.ofNat cs.length)), .val (.int (Int32.ofNat i)), .val (.int (cs.getD i 0))] [])) ?_ fun _ zk => XS.iinc H2.here hx rfl (hb hby d_jdk_52_m21_32) rfl (l' := #[.val (.ref b), .val (.int ((Int32.ofNat i) + (1 : Int32))), .val (.ref d), .val (.int (Int32.ofNat i)), .val (.int (Int32.ofNat cs.length)), .val (.int (Int32.ofNat i)), .val (.int (cs.getD i 0))]) rfl zk
        refine Rn.pu (T' := T2) (g' := (mkF m 38 #[.val (.ref b), .val (.int ((Int32.ofNat i) + (1 : Int32))), .val (.ref d), .val (.int ((Int32.ofNat i) + (1 : Int32))), .val (.int (Int32.ofNat cs.length)), .val (.int (Int32.ofNat i)), .val (.int (cs.getD i 0))] [])) ?_ fun _ zk => XS.iinc H2.here hx rfl (hb hby d_jdk_52_m21_35) rfl (l' := #[.val (.ref b), .val (.int ((Int32.ofNat i) + (1 : Int32))), .val (.ref d), .val (.int ((Int32.ofNat i) + (1 : Int32))), .val (.int (Int32.ofNat cs.length)), .val (.int (Int32.ofNat i)), .val (.int (cs.getD i 0))]) rfl zk
        refine Rn.pu (T' := T2) (g' := (mkF m 41 #[.val (.ref b), .val (.int ((Int32.ofNat i) + (1 : Int32))), .val (.ref d), .val (.int ((Int32.ofNat i) + (1 : Int32))), .val (.int (Int32.ofNat cs.length)), .val (.int ((Int32.ofNat i) + (1 : Int32))), .val (.int (cs.getD i 0))] [])) ?_ fun _ zk => XS.iinc H2.here hx rfl (hb hby d_jdk_52_m21_38) rfl (l' := #[.val (.ref b), .val (.int ((Int32.ofNat i) + (1 : Int32))), .val (.ref d), .val (.int ((Int32.ofNat i) + (1 : Int32))), .val (.int (Int32.ofNat cs.length)), .val (.int ((Int32.ofNat i) + (1 : Int32))), .val (.int (cs.getD i 0))]) rfl zk
        refine Rn.pu (T' := T2) (g' := (mkF m 3 #[.val (.ref b), .val (.int ((Int32.ofNat i) + (1 : Int32))), .val (.ref d), .val (.int ((Int32.ofNat i) + (1 : Int32))), .val (.int (Int32.ofNat cs.length)), .val (.int ((Int32.ofNat i) + (1 : Int32))), .val (.int (cs.getD i 0))] [])) ?_ fun _ zk => XS.goto H2.here hx rfl (pc0 := 41) (pc' := 3) rfl (hb hby d_jdk_52_m21_41) (by decide) (by decide) zk
        rw [u_succ]
        exact ih (i + 1) _ _ _ _ (by omega) (by rw [List.length_append, hv]; rfl) (One.val rfl) (fun j hj' => by
          by_cases e : j < i
          · exact hj j e
          · obtain rfl : j = i := by omega
            exact b20_1) H2 (AB.keep K2 (ninS bd nin0)) A2
  exact L3 cs.length 0 _ _ _ _ (by omega) rfl One.u (fun j hj => absurd hj (by omega)) H0 AB AD
set_option maxRecDepth 65536 in
set_option maxHeartbeats 40000000 in
theorem c_cmp3 (l : Launch) {Z : State} {a0 : Array Value} {zc : Int32} {fm : Value} {aP : Addr} {aN : Addr} (B : Base Z a0 zc fm aP aN) (b : Addr) (kC : ClassId) (dv : Value) (cs : List Int32) (h0 : Heap) (O : Ext Z.heap h0) (hn : cs.length ≤ 2) (hc : ∀ c ∈ cs, ¬ c < 0 ∧ ¬ (65535 : Int32) < c) (hbig : ∃ c ∈ cs, (255 : Int32) < c) (AB : Arv Z h0 b kC .char (Int32.ofNat cs.length) (cs.map Value.int) dv) :
    MetN l Z (⟨"java/lang/StringUTF16", "compress", "([CII)[B"⟩ : MethodName) jdk_52_method_16_code 6 (some (.array .byte)) [] ({ frames := 3, cells := 2, slots := 6, locals := 40 } : Room) #[(.ref b), (.int (0 : Int32)), (.int (Int32.ofNat cs.length))] h0 [] (fun v h => ∃ d kB, v = some (.ref d) ∧ Arv Z h d kB .byte (Int32.ofNat (2 * cs.length)) (StrChars.Road.wideBytes cs) (.int 0) ∧ h0.size ≤ d ∧ h.size > d) := by
  obtain ⟨hw, SC0, hz0, SF1, rf1, SU2, SU3, SU4, SP, SN, XP, XN⟩ := B
  refine MetN.mk (plainFor_of_name pn_java_lang_StringUTF16) (fun m => ef_c_cmp3 m b (0 : Int32) (Int32.ofNat cs.length)) O ?_
  intro p e s m below meth c T0 hx hby hml hret hlk hnm hsh H0
  have zs : s.heap.size = h0.size := by rw [hsh]
  have lb := natlt (AB).lt
  refine Rn.pu (T' := T0) (g' := (mkF m 1 #[.val (.ref b), .val (.int (0 : Int32)), .val (.int (Int32.ofNat cs.length)), .unset, .unset, .unset] [(.int (Int32.ofNat cs.length))])) ?_ fun _ zk => XS.iloadN H0.here hx rfl (hb hby d_jdk_52_m16_0) rfl zk
  obtain ⟨a1, k1, T1, h1, e1, H1, K1, A1, st1⟩ := H0.newP (aty := .byte) (hw _ (List.mem_of_getElem? (i := 26) rfl)) (g := (mkF m 1 #[.val (.ref b), .val (.int (0 : Int32)), .val (.int (Int32.ofNat cs.length)), .unset, .unset, .unset] [(.int (Int32.ofNat cs.length))])) rfl (hb hby d_jdk_52_m16_1) rfl (u_nn (by omega)) (cap := 2) (by rw [u_cl (by omega)]; omega) (by decide) (by decide) (by decide)
  have zh1 := K1.1
  have l1 := natlt (A1).lt
  have g1 : s.heap.size ≤ a1 := by omega
  refine Rn.pu (g' := (mkF m 3 #[.val (.ref b), .val (.int (0 : Int32)), .val (.int (Int32.ofNat cs.length)), .unset, .unset, .unset] [(.ref a1)])) ?_ st1
  refine Rn.pu (T' := T1) (g' := (mkF m 4 #[.val (.ref b), .val (.int (0 : Int32)), .val (.int (Int32.ofNat cs.length)), .val (.ref a1), .unset, .unset] [])) ?_ fun _ zk => XS.astoreN H1.here hx rfl (hb hby d_jdk_52_m16_3) rfl rfl (l' := #[.val (.ref b), .val (.int (0 : Int32)), .val (.int (Int32.ofNat cs.length)), .val (.ref a1), .unset, .unset]) rfl zk
  refine Rn.pu (T' := T1) (g' := (mkF m 5 #[.val (.ref b), .val (.int (0 : Int32)), .val (.int (Int32.ofNat cs.length)), .val (.ref a1), .unset, .unset] [(.ref b)])) ?_ fun _ zk => XS.aloadN H1.here hx rfl (hb hby d_jdk_52_m16_4) rfl rfl zk
  refine Rn.pu (T' := T1) (g' := (mkF m 6 #[.val (.ref b), .val (.int (0 : Int32)), .val (.int (Int32.ofNat cs.length)), .val (.ref a1), .unset, .unset] [(.int (0 : Int32)), (.ref b)])) ?_ fun _ zk => XS.iloadN H1.here hx rfl (hb hby d_jdk_52_m16_5) rfl zk
  refine Rn.pu (T' := T1) (g' := (mkF m 7 #[.val (.ref b), .val (.int (0 : Int32)), .val (.int (Int32.ofNat cs.length)), .val (.ref a1), .unset, .unset] [(.ref a1), (.int (0 : Int32)), (.ref b)])) ?_ fun _ zk => XS.aloadN H1.here hx rfl (hb hby d_jdk_52_m16_6) rfl rfl zk
  refine Rn.pu (T' := T1) (g' := (mkF m 8 #[.val (.ref b), .val (.int (0 : Int32)), .val (.int (Int32.ofNat cs.length)), .val (.ref a1), .unset, .unset] [(.int (0 : Int32)), (.ref a1), (.int (0 : Int32)), (.ref b)])) ?_ fun _ zk => XS.iconst H1.here hx rfl (hb hby d_jdk_52_m16_7) zk
  refine Rn.pu (T' := T1) (g' := (mkF m 9 #[.val (.ref b), .val (.int (0 : Int32)), .val (.int (Int32.ofNat cs.length)), .val (.ref a1), .unset, .unset] [(.int (Int32.ofNat cs.length)), (.int (0 : Int32)), (.ref a1), (.int (0 : Int32)), (.ref b)])) ?_ fun _ zk => XS.iloadN H1.here hx rfl (hb hby d_jdk_52_m16_8) rfl zk
  obtain ⟨_, T2, h2, H2, ⟨k2, rfl, lk2, bk2⟩, K2, st2⟩ := H1.callS (hw _ (List.mem_of_getElem? (i := 27) rfl)) (hw _ (List.mem_of_getElem? (i := 28) rfl)) (hw _ (List.mem_of_getElem? (i := 24) rfl)) (hw _ (List.mem_of_getElem? (i := 29) rfl)) (by decide) (MetN.pay (W := 0) (c_cmp5 l ⟨hw, SC0, hz0, SF1, rf1, SU2, SU3, SU4, SP, SN, XP, XN⟩ b a1 kC k1 dv cs h1 H1.old hn hbig (AB.keep K1 nin0) A1 (adne (by omega)) (by have := H0.old.1; omega)) (hw _ (List.mem_of_getElem? (i := 29) rfl)) (hw _ (List.mem_of_getElem? (i := 24) rfl)) (by decide) (by decide)) (g := (mkF m 9 #[.val (.ref b), .val (.int (0 : Int32)), .val (.int (Int32.ofNat cs.length)), .val (.ref a1), .unset, .unset] [(.int (Int32.ofNat cs.length)), (.int (0 : Int32)), (.ref a1), (.int (0 : Int32)), (.ref b)])) rfl (by rw [hml]; rfl) (argsL := [(.ref b), (.int (0 : Int32)), (.ref a1), (.int (0 : Int32)), (.int (Int32.ofNat cs.length))]) (rest := []) (lenOf pd__ACIABII_I rfl) rfl rfl (Nat.le_of_eq rfl) (hb hby d_jdk_52_m16_9) (by decide) (by decide) (allS (Or.inr (by omega)) all0)
  have zh2 := K2.1
  refine Rn.pu (g' := (mkF m 12 #[.val (.ref b), .val (.int (0 : Int32)), .val (.int (Int32.ofNat cs.length)), .val (.ref a1), .unset, .unset] [(.int (Int32.ofNat k2))])) ?_ st2
  refine Rn.pu (T' := T2) (g' := (mkF m 14 #[.val (.ref b), .val (.int (0 : Int32)), .val (.int (Int32.ofNat cs.length)), .val (.ref a1), .val (.int (Int32.ofNat k2)), .unset] [])) ?_ fun _ zk => XS.istore H2.here hx rfl (hb hby d_jdk_52_m16_12) rfl (l' := #[.val (.ref b), .val (.int (0 : Int32)), .val (.int (Int32.ofNat cs.length)), .val (.ref a1), .val (.int (Int32.ofNat k2)), .unset]) rfl zk
  refine Rn.pu (T' := T2) (g' := (mkF m 16 #[.val (.ref b), .val (.int (0 : Int32)), .val (.int (Int32.ofNat cs.length)), .val (.ref a1), .val (.int (Int32.ofNat k2)), .unset] [(.int (Int32.ofNat k2))])) ?_ fun _ zk => XS.iload H2.here hx rfl (hb hby d_jdk_52_m16_14) rfl zk
  refine Rn.pu (T' := T2) (g' := (mkF m 17 #[.val (.ref b), .val (.int (0 : Int32)), .val (.int (Int32.ofNat cs.length)), .val (.ref a1), .val (.int (Int32.ofNat k2)), .unset] [(.int (Int32.ofNat cs.length)), (.int (Int32.ofNat k2))])) ?_ fun _ zk => XS.iloadN H2.here hx rfl (hb hby d_jdk_52_m16_16) rfl zk
  refine Rn.pu (T' := T2) (g' := (mkF m 20 #[.val (.ref b), .val (.int (0 : Int32)), .val (.int (Int32.ofNat cs.length)), .val (.ref a1), .val (.int (Int32.ofNat k2)), .unset] [])) ?_ fun _ zk => XS.icmpNo H2.here hx rfl (hb hby d_jdk_52_m16_17) rfl (c_eq_f (u_ne (by omega) (by omega) (by omega))) zk
  refine Rn.pu (T' := T2) (g' := (mkF m 21 #[.val (.ref b), .val (.int (0 : Int32)), .val (.int (Int32.ofNat cs.length)), .val (.ref a1), .val (.int (Int32.ofNat k2)), .unset] [(.ref b)])) ?_ fun _ zk => XS.aloadN H2.here hx rfl (hb hby d_jdk_52_m16_20) rfl rfl zk
  refine Rn.pu (T' := T2) (g' := (mkF m 22 #[.val (.ref b), .val (.int (0 : Int32)), .val (.int (Int32.ofNat cs.length)), .val (.ref a1), .val (.int (Int32.ofNat k2)), .unset] [(.int (0 : Int32)), (.ref b)])) ?_ fun _ zk => XS.iloadN H2.here hx rfl (hb hby d_jdk_52_m16_21) rfl zk
  refine Rn.pu (T' := T2) (g' := (mkF m 23 #[.val (.ref b), .val (.int (0 : Int32)), .val (.int (Int32.ofNat cs.length)), .val (.ref a1), .val (.int (Int32.ofNat k2)), .unset] [(.int (Int32.ofNat cs.length)), (.int (0 : Int32)), (.ref b)])) ?_ fun _ zk => XS.iloadN H2.here hx rfl (hb hby d_jdk_52_m16_22) rfl zk
  obtain ⟨_, T3, h3, H3, ⟨d3, kd3, rfl, A3, gd3, ld3⟩, K3, st3⟩ := H2.callS (hw _ (List.mem_of_getElem? (i := 157) rfl)) (hw _ (List.mem_of_getElem? (i := 158) rfl)) (hw _ (List.mem_of_getElem? (i := 24) rfl)) (hw _ (List.mem_of_getElem? (i := 159) rfl)) (by decide) (MetN.pay (W := 0) (c_tob l ⟨hw, SC0, hz0, SF1, rf1, SU2, SU3, SU4, SP, SN, XP, XN⟩ b kC dv cs h2 H2.old hn ((AB.keep K1 nin0).keep K2 (ninS (adne (by omega)) nin0))) (hw _ (List.mem_of_getElem? (i := 159) rfl)) (hw _ (List.mem_of_getElem? (i := 24) rfl)) (by decide) (by decide)) (g := (mkF m 23 #[.val (.ref b), .val (.int (0 : Int32)), .val (.int (Int32.ofNat cs.length)), .val (.ref a1), .val (.int (Int32.ofNat k2)), .unset] [(.int (Int32.ofNat cs.length)), (.int (0 : Int32)), (.ref b)])) rfl (by rw [hml]; rfl) (argsL := [(.ref b), (.int (0 : Int32)), (.int (Int32.ofNat cs.length))]) (rest := []) (lenOf pd__ACII_AB rfl) rfl rfl (Nat.le_of_eq rfl) (hb hby d_jdk_52_m16_23) (by decide) (by decide) all0
  have zh3 := K3.1
  refine Rn.pu (g' := (mkF m 26 #[.val (.ref b), .val (.int (0 : Int32)), .val (.int (Int32.ofNat cs.length)), .val (.ref a1), .val (.int (Int32.ofNat k2)), .unset] [(.ref d3)])) ?_ st3
  refine Rn.pu (T' := T3) (g' := (mkF m 28 #[.val (.ref b), .val (.int (0 : Int32)), .val (.int (Int32.ofNat cs.length)), .val (.ref a1), .val (.int (Int32.ofNat k2)), .val (.ref d3)] [])) ?_ fun _ zk => XS.astore H3.here hx rfl (hb hby d_jdk_52_m16_26) rfl rfl (l' := #[.val (.ref b), .val (.int (0 : Int32)), .val (.int (Int32.ofNat cs.length)), .val (.ref a1), .val (.int (Int32.ofNat k2)), .val (.ref d3)]) rfl zk
  refine Rn.pu (T' := T3) (g' := (mkF m 30 #[.val (.ref b), .val (.int (0 : Int32)), .val (.int (Int32.ofNat cs.length)), .val (.ref a1), .val (.int (Int32.ofNat k2)), .val (.ref d3)] [(.ref d3)])) ?_ fun _ zk => XS.aload H3.here hx rfl (hb hby d_jdk_52_m16_28) rfl rfl zk
  refine Rn.pu (T' := T3) (g' := (mkF m 32 #[.val (.ref b), .val (.int (0 : Int32)), .val (.int (Int32.ofNat cs.length)), .val (.ref a1), .val (.int (Int32.ofNat k2)), .val (.ref d3)] [(.int (Int32.ofNat k2)), (.ref d3)])) ?_ fun _ zk => XS.iload H3.here hx rfl (hb hby d_jdk_52_m16_30) rfl zk
  obtain ⟨_, T4, h4, H4, ⟨rfl, rfl⟩, -, st4⟩ := H3.callS (hw _ (List.mem_of_getElem? (i := 173) rfl)) (hw _ (List.mem_of_getElem? (i := 174) rfl)) (hw _ (List.mem_of_getElem? (i := 24) rfl)) (hw _ (List.mem_of_getElem? (i := 175) rfl)) (by decide) (MetN.pay (W := 0) (c_getc l ⟨hw, SC0, hz0, SF1, rf1, SU2, SU3, SU4, SP, SN, XP, XN⟩ d3 kd3 cs k2 h3 H3.old lk2 hn hc A3) (hw _ (List.mem_of_getElem? (i := 175) rfl)) (hw _ (List.mem_of_getElem? (i := 24) rfl)) (by decide) (by decide)) (g := (mkF m 32 #[.val (.ref b), .val (.int (0 : Int32)), .val (.int (Int32.ofNat cs.length)), .val (.ref a1), .val (.int (Int32.ofNat k2)), .val (.ref d3)] [(.int (Int32.ofNat k2)), (.ref d3)])) rfl (by rw [hml]; rfl) (argsL := [(.ref d3), (.int (Int32.ofNat k2))]) (rest := []) (lenOf pd__ABI_C rfl) rfl rfl (Nat.le_of_eq rfl) (hb hby d_jdk_52_m16_32) (by decide) (by decide) all0
  refine Rn.pu (g' := (mkF m 35 #[.val (.ref b), .val (.int (0 : Int32)), .val (.int (Int32.ofNat cs.length)), .val (.ref a1), .val (.int (Int32.ofNat k2)), .val (.ref d3)] [(.int (cs.getD k2 0))])) ?_ st4
  refine Rn.pu (T' := T4) (g' := (mkF m 38 #[.val (.ref b), .val (.int (0 : Int32)), .val (.int (Int32.ofNat cs.length)), .val (.ref a1), .val (.int (Int32.ofNat k2)), .val (.ref d3)] [(.int (255 : Int32)), (.int (cs.getD k2 0))])) ?_ fun _ zk => XS.sipush H4.here hx rfl (hb hby d_jdk_52_m16_35) zk
  refine Rn.pu (T' := T4) (g' := (mkF m 54 #[.val (.ref b), .val (.int (0 : Int32)), .val (.int (Int32.ofNat cs.length)), .val (.ref a1), .val (.int (Int32.ofNat k2)), .val (.ref d3)] [])) ?_ fun _ zk => XS.icmpYes H4.here hx rfl (pc0 := 38) (pc' := 54) rfl (hb hby d_jdk_52_m16_38) rfl (c_gt_t bk2) (by decide) (by decide) zk
  refine Rn.pu (T' := T4) (g' := (mkF m 56 #[.val (.ref b), .val (.int (0 : Int32)), .val (.int (Int32.ofNat cs.length)), .val (.ref a1), .val (.int (Int32.ofNat k2)), .val (.ref d3)] [(.ref d3)])) ?_ fun _ zk => XS.aload H4.here hx rfl (hb hby d_jdk_52_m16_54) rfl rfl zk
  exact H4.retA ends_N hlk hret rfl rfl rfl (hb hby d_jdk_52_m16_56) (by decide) (by decide) (fun _ q => nomatch q) ⟨d3, kd3, rfl, A3, by omega, by omega⟩
set_option maxRecDepth 65536 in
set_option maxHeartbeats 40000000 in
theorem c_codl (l : Launch) {Z : State} {a0 : Array Value} {zc : Int32} {fm : Value} {aP : Addr} {aN : Addr} (B : Base Z a0 zc fm aP aN) (d : Addr) (kB : ClassId) (vs : List Value) (cs : List Int32) (h0 : Heap) (O : Ext Z.heap h0) (hn : cs.length ≤ 2) (h1 : 0 < cs.length) (AD : Arv Z h0 d kB .byte (Int32.ofNat (2 * cs.length)) vs (.int 0)) :
    MetN l Z (⟨"java/lang/StringUTF16", "coderFromArrayLen", "([BI)B"⟩ : MethodName) jdk_52_method_15_code 2 (some .byte) [] ({ frames := 0, cells := 0, slots := 0, locals := 0 } : Room) #[(.ref d), (.int (Int32.ofNat cs.length))] h0 [] (fun v h => v = some (.int 1) ∧ h0 = h) := by
  obtain ⟨hw, SC0, hz0, SF1, rf1, SU2, SU3, SU4, SP, SN, XP, XN⟩ := B
  refine MetN.mk (plainFor_of_name pn_java_lang_StringUTF16) (fun m => ef_c_codl m d (Int32.ofNat cs.length)) O ?_
  intro p e s m below meth c T0 hx hby hml hret hlk hnm hsh H0
  have zs : s.heap.size = h0.size := by rw [hsh]
  refine Rn.pu (T' := T0) (g' := (mkF m 1 #[.val (.ref d), .val (.int (Int32.ofNat cs.length))] [(.int (Int32.ofNat cs.length))])) ?_ fun _ zk => XS.iloadN H0.here hx rfl (hb hby d_jdk_52_m15_0) rfl zk
  refine Rn.pu (T' := T0) (g' := (mkF m 2 #[.val (.ref d), .val (.int (Int32.ofNat cs.length))] [(.ref d), (.int (Int32.ofNat cs.length))])) ?_ fun _ zk => XS.aloadN H0.here hx rfl (hb hby d_jdk_52_m15_1) rfl rfl zk
  refine Rn.pu (g' := (mkF m 3 #[.val (.ref d), .val (.int (Int32.ofNat cs.length))] [(.int (Int32.ofNat (2 * cs.length))), (.int (Int32.ofNat cs.length))])) ?_ (H0.alen AD (g := (mkF m 2 #[.val (.ref d), .val (.int (Int32.ofNat cs.length))] [(.ref d), (.int (Int32.ofNat cs.length))])) rfl rfl (hb hby d_jdk_52_m15_2))
  refine Rn.pu (T' := T0) (g' := (mkF m 4 #[.val (.ref d), .val (.int (Int32.ofNat cs.length))] [(.int ((Int32.ofNat cs.length) - (Int32.ofNat (2 * cs.length))))])) ?_ fun _ zk => XS.isub H0.here hx rfl (hb hby d_jdk_52_m15_3) rfl zk
  refine Rn.pu (T' := T0) (g' := (mkF m 6 #[.val (.ref d), .val (.int (Int32.ofNat cs.length))] [(.int (31 : Int32)), (.int ((Int32.ofNat cs.length) - (Int32.ofNat (2 * cs.length))))])) ?_ fun _ zk => XS.bipush H0.here hx rfl (hb hby d_jdk_52_m15_4) zk
  refine Rn.pu (T' := T0) (g' := (mkF m 7 #[.val (.ref d), .val (.int (Int32.ofNat cs.length))] [(.int (XT.ushr ((Int32.ofNat cs.length) - (Int32.ofNat (2 * cs.length))) (31 : Int32)))])) ?_ fun _ zk => XT.iushr H0.here hx rfl (hb hby d_jdk_52_m15_6) rfl zk
  refine Rn.pu (T' := T0) (g' := (mkF m 8 #[.val (.ref d), .val (.int (Int32.ofNat cs.length))] [(.int (nar .byte (XT.ushr ((Int32.ofNat cs.length) - (Int32.ofNat (2 * cs.length))) (31 : Int32))))])) ?_ fun _ zk => XT.i2b H0.here hx rfl (hb hby d_jdk_52_m15_7) rfl zk
  exact H0.retS ends_N hlk (t := .byte) hret (by simp) (hb hby d_jdk_52_m15_8) (by decide) (by decide) (fun _ q => nomatch q) ⟨by rw [u_cod hn h1]; rfl, rfl⟩
set_option maxRecDepth 65536 in
set_option maxHeartbeats 40000000 in
theorem c_nwu4 (l : Launch) {Z : State} {a0 : Array Value} {zc : Int32} {fm : Value} {aP : Addr} {aN : Addr} (B : Base Z a0 zc fm aP aN) (x b : Addr) (kC : ClassId) (dv : Value) (cs : List Int32) (h0 : Heap) (O : Ext Z.heap h0) (hn : cs.length ≤ 2) (h1 : 0 < cs.length) (hc : ∀ c ∈ cs, ¬ c < 0 ∧ ¬ (65535 : Int32) < c) (hbig : ∃ c ∈ cs, (255 : Int32) < c) (AB : Arv Z h0 b kC .char (Int32.ofNat cs.length) (cs.map Value.int) dv) (E : Exa Z h0 x "java/lang/String") (G1 : Fld Z h0 x "java/lang/String" "value" "[B" .null) (G2 : Fld Z h0 x "java/lang/String" "coder" "B" (.int (0 : Int32))) (gx : Z.heap.size ≤ x) :
    MetN l Z (⟨"java/lang/String", "<init>", "([CIILjava/lang/Void;)V"⟩ : MethodName) jdk_42_method_149_code 6 none [] ({ frames := 4, cells := 2, slots := 6, locals := 57 } : Room) #[(.ref x), (.ref b), (.int (0 : Int32)), (.int (Int32.ofNat cs.length)), .null] h0 [x] (fun v h => v = none ∧ ∃ t, Str Z h x t cs ∧ h.size > t) := by
  obtain ⟨hw, SC0, hz0, SF1, rf1, SU2, SU3, SU4, SP, SN, XP, XN⟩ := B
  refine MetN.mk (plainFor_of_name pn_java_lang_String) (fun m => ef_c_nwu4 m x b (0 : Int32) (Int32.ofNat cs.length)) O ?_
  intro p e s m below meth c T0 hx hby hml hret hlk hnm hsh H0
  have zs : s.heap.size = h0.size := by rw [hsh]
  have lx := natlt (E).lt
  have lb := natlt (AB).lt
  have H0 := H0.weak (ws' := [x]) (fun _ q => nomatch q) (allS gx all0)
  refine Rn.pu (T' := T0) (g' := (mkF m 1 #[.val (.ref x), .val (.ref b), .val (.int (0 : Int32)), .val (.int (Int32.ofNat cs.length)), .val .null, .unset] [(.ref x)])) ?_ fun _ zk => XS.aloadN H0.here hx rfl (hb hby d_jdk_42_m149_0) rfl rfl zk
  obtain ⟨T1, H1, st1⟩ := H0.initO (hw _ (List.mem_of_getElem? (i := 18) rfl)) (hw _ (List.mem_of_getElem? (i := 19) rfl)) (hw _ (List.mem_of_getElem? (i := 20) rfl)) (g := (mkF m 1 #[.val (.ref x), .val (.ref b), .val (.int (0 : Int32)), .val (.int (Int32.ofNat cs.length)), .val .null, .unset] [(.ref x)])) rfl (by rw [hml]; rfl) rfl (hb hby d_jdk_42_m149_1) (by decide) (W := 0) (Nat.le_of_eq rfl) (by decide)
  refine Rn.pu (g' := (mkF m 4 #[.val (.ref x), .val (.ref b), .val (.int (0 : Int32)), .val (.int (Int32.ofNat cs.length)), .val .null, .unset] [])) ?_ st1
  refine Rn.pu (T' := T1) (g' := (mkF m 5 #[.val (.ref x), .val (.ref b), .val (.int (0 : Int32)), .val (.int (Int32.ofNat cs.length)), .val .null, .unset] [(.int (Int32.ofNat cs.length))])) ?_ fun _ zk => XS.iloadN H1.here hx rfl (hb hby d_jdk_42_m149_4) rfl zk
  refine Rn.pu (T' := T1) (g' := (mkF m 27 #[.val (.ref x), .val (.ref b), .val (.int (0 : Int32)), .val (.int (Int32.ofNat cs.length)), .val .null, .unset] [])) ?_ fun _ zk => XS.ifYes H1.here hx rfl (pc0 := 5) (pc' := 27) rfl (hb hby d_jdk_42_m149_5) rfl (z_ne_t (u_ne0 h1 (by omega))) (by decide) (by decide) zk
  obtain ⟨T2, H2, st2⟩ := H1.getS (host := "") (Or.inl (hw _ (List.mem_of_getElem? (i := 21) rfl))) Via.refl (SC0.ext H1.old) (g := (mkF m 27 #[.val (.ref x), .val (.ref b), .val (.int (0 : Int32)), .val (.int (Int32.ofNat cs.length)), .val .null, .unset] [])) rfl (hb hby d_jdk_42_m149_27)
  refine Rn.pu (g' := (mkF m 30 #[.val (.ref x), .val (.ref b), .val (.int (0 : Int32)), .val (.int (Int32.ofNat cs.length)), .val .null, .unset] [(.int zc)])) ?_ st2
  refine Rn.pu (T' := T2) (g' := (mkF m 33 #[.val (.ref x), .val (.ref b), .val (.int (0 : Int32)), .val (.int (Int32.ofNat cs.length)), .val .null, .unset] [])) ?_ fun _ zk => XS.ifNo H2.here hx rfl (hb hby d_jdk_42_m149_30) rfl (z_eq_f hz0) zk
  refine Rn.pu (T' := T2) (g' := (mkF m 34 #[.val (.ref x), .val (.ref b), .val (.int (0 : Int32)), .val (.int (Int32.ofNat cs.length)), .val .null, .unset] [(.ref b)])) ?_ fun _ zk => XS.aloadN H2.here hx rfl (hb hby d_jdk_42_m149_33) rfl rfl zk
  refine Rn.pu (T' := T2) (g' := (mkF m 35 #[.val (.ref x), .val (.ref b), .val (.int (0 : Int32)), .val (.int (Int32.ofNat cs.length)), .val .null, .unset] [(.int (0 : Int32)), (.ref b)])) ?_ fun _ zk => XS.iloadN H2.here hx rfl (hb hby d_jdk_42_m149_34) rfl zk
  refine Rn.pu (T' := T2) (g' := (mkF m 36 #[.val (.ref x), .val (.ref b), .val (.int (0 : Int32)), .val (.int (Int32.ofNat cs.length)), .val .null, .unset] [(.int (Int32.ofNat cs.length)), (.int (0 : Int32)), (.ref b)])) ?_ fun _ zk => XS.iloadN H2.here hx rfl (hb hby d_jdk_42_m149_35) rfl zk
  obtain ⟨_, T3, h3, H3, ⟨d3, kd3, rfl, A3, gd3, ld3⟩, K3, st3⟩ := H2.callS (hw _ (List.mem_of_getElem? (i := 22) rfl)) (hw _ (List.mem_of_getElem? (i := 23) rfl)) (hw _ (List.mem_of_getElem? (i := 24) rfl)) (hw _ (List.mem_of_getElem? (i := 25) rfl)) (by decide) (MetN.pay (W := 0) (c_cmp3 l ⟨hw, SC0, hz0, SF1, rf1, SU2, SU3, SU4, SP, SN, XP, XN⟩ b kC dv cs h0 H2.old hn hc hbig AB) (hw _ (List.mem_of_getElem? (i := 25) rfl)) (hw _ (List.mem_of_getElem? (i := 24) rfl)) (by decide) (by decide)) (g := (mkF m 36 #[.val (.ref x), .val (.ref b), .val (.int (0 : Int32)), .val (.int (Int32.ofNat cs.length)), .val .null, .unset] [(.int (Int32.ofNat cs.length)), (.int (0 : Int32)), (.ref b)])) rfl (by rw [hml]; rfl) (argsL := [(.ref b), (.int (0 : Int32)), (.int (Int32.ofNat cs.length))]) (rest := []) (lenOf pd__ACII_AB rfl) rfl rfl (Nat.le_of_eq rfl) (hb hby d_jdk_42_m149_36) (by decide) (by decide) all0
  have zh3 := K3.1
  refine Rn.pu (g' := (mkF m 39 #[.val (.ref x), .val (.ref b), .val (.int (0 : Int32)), .val (.int (Int32.ofNat cs.length)), .val .null, .unset] [(.ref d3)])) ?_ st3
  refine Rn.pu (T' := T3) (g' := (mkF m 41 #[.val (.ref x), .val (.ref b), .val (.int (0 : Int32)), .val (.int (Int32.ofNat cs.length)), .val .null, .val (.ref d3)] [])) ?_ fun _ zk => XS.astore H3.here hx rfl (hb hby d_jdk_42_m149_39) rfl rfl (l' := #[.val (.ref x), .val (.ref b), .val (.int (0 : Int32)), .val (.int (Int32.ofNat cs.length)), .val .null, .val (.ref d3)]) rfl zk
  refine Rn.pu (T' := T3) (g' := (mkF m 42 #[.val (.ref x), .val (.ref b), .val (.int (0 : Int32)), .val (.int (Int32.ofNat cs.length)), .val .null, .val (.ref d3)] [(.ref x)])) ?_ fun _ zk => XS.aloadN H3.here hx rfl (hb hby d_jdk_42_m149_41) rfl rfl zk
  refine Rn.pu (T' := T3) (g' := (mkF m 44 #[.val (.ref x), .val (.ref b), .val (.int (0 : Int32)), .val (.int (Int32.ofNat cs.length)), .val .null, .val (.ref d3)] [(.ref d3), (.ref x)])) ?_ fun _ zk => XS.aload H3.here hx rfl (hb hby d_jdk_42_m149_42) rfl rfl zk
  refine Rn.pu (T' := T3) (g' := (mkF m 45 #[.val (.ref x), .val (.ref b), .val (.int (0 : Int32)), .val (.int (Int32.ofNat cs.length)), .val .null, .val (.ref d3)] [(.int (Int32.ofNat cs.length)), (.ref d3), (.ref x)])) ?_ fun _ zk => XS.iloadN H3.here hx rfl (hb hby d_jdk_42_m149_44) rfl zk
  obtain ⟨_, T4, h4, H4, ⟨rfl, rfl⟩, -, st4⟩ := H3.callS (hw _ (List.mem_of_getElem? (i := 30) rfl)) (hw _ (List.mem_of_getElem? (i := 31) rfl)) (hw _ (List.mem_of_getElem? (i := 24) rfl)) (hw _ (List.mem_of_getElem? (i := 32) rfl)) (by decide) (MetN.pay (W := 1) (c_codl l ⟨hw, SC0, hz0, SF1, rf1, SU2, SU3, SU4, SP, SN, XP, XN⟩ d3 kd3 _ cs h3 H3.old hn h1 A3) (hw _ (List.mem_of_getElem? (i := 32) rfl)) (hw _ (List.mem_of_getElem? (i := 24) rfl)) (by decide) (by decide)) (g := (mkF m 45 #[.val (.ref x), .val (.ref b), .val (.int (0 : Int32)), .val (.int (Int32.ofNat cs.length)), .val .null, .val (.ref d3)] [(.int (Int32.ofNat cs.length)), (.ref d3), (.ref x)])) rfl (by rw [hml]; rfl) (argsL := [(.ref d3), (.int (Int32.ofNat cs.length))]) (rest := [(.ref x)]) (lenOf pd__ABI_B rfl) rfl rfl (Nat.le_of_eq rfl) (hb hby d_jdk_42_m149_45) (by decide) (by decide) all0
  refine Rn.pu (g' := (mkF m 48 #[.val (.ref x), .val (.ref b), .val (.int (0 : Int32)), .val (.int (Int32.ofNat cs.length)), .val .null, .val (.ref d3)] [(.int (1 : Int32)), (.ref x)])) ?_ st4
  obtain ⟨T5, h5, H5, K5, W5, st5⟩ := H4.putF (host := "") (Or.inl (hw _ (List.mem_of_getElem? (i := 33) rfl))) Via.refl (G2.keep K3 nin0) (E.keep K3) (Or.inr ⟨(hw _ (List.mem_of_getElem? (i := 34) rfl)), rfl, hnm⟩) (hw _ (List.mem_of_getElem? (i := 9) rfl)) (ty := .byte) (by decide) rfl rfl (Or.inl (List.mem_singleton.mpr rfl)) (g := (mkF m 48 #[.val (.ref x), .val (.ref b), .val (.int (0 : Int32)), .val (.int (Int32.ofNat cs.length)), .val .null, .val (.ref d3)] [(.int (1 : Int32)), (.ref x)])) rfl rfl (hb hby d_jdk_42_m149_48)
  have zh5 := K5.1
  have F5_coder : Fld Z h5 x "java/lang/String" "coder" "B" (.int (1 : Int32)) := (G2.keep K3 nin0).same W5
  have E5 := (E.keep K3).keep K5
  have F5_value : Fld Z h5 x "java/lang/String" "value" "[B" .null := (G1.keep K3 nin0).other W5 (Or.inr (slot_ne (Or.inr (hw _ (List.mem_of_getElem? (i := 36) rfl))) (Or.inr (hw _ (List.mem_of_getElem? (i := 34) rfl))) (by decide) (t := (.array .byte)) (t' := .byte) (by decide) (by decide)))
  refine Rn.pu (g' := (mkF m 51 #[.val (.ref x), .val (.ref b), .val (.int (0 : Int32)), .val (.int (Int32.ofNat cs.length)), .val .null, .val (.ref d3)] [])) ?_ st5
  refine Rn.pu (T' := T5) (g' := (mkF m 52 #[.val (.ref x), .val (.ref b), .val (.int (0 : Int32)), .val (.int (Int32.ofNat cs.length)), .val .null, .val (.ref d3)] [(.ref x)])) ?_ fun _ zk => XS.aloadN H5.here hx rfl (hb hby d_jdk_42_m149_51) rfl rfl zk
  refine Rn.pu (T' := T5) (g' := (mkF m 54 #[.val (.ref x), .val (.ref b), .val (.int (0 : Int32)), .val (.int (Int32.ofNat cs.length)), .val .null, .val (.ref d3)] [(.ref d3), (.ref x)])) ?_ fun _ zk => XS.aload H5.here hx rfl (hb hby d_jdk_42_m149_52) rfl rfl zk
  obtain ⟨T6, h6, H6, K6, W6, st6⟩ := H5.putF (host := "") (Or.inl (hw _ (List.mem_of_getElem? (i := 35) rfl))) Via.refl F5_value E5 (Or.inr ⟨(hw _ (List.mem_of_getElem? (i := 36) rfl)), rfl, hnm⟩) (hw _ (List.mem_of_getElem? (i := 9) rfl)) (ty := (.array .byte)) (by decide) rfl rfl (Or.inl (List.mem_singleton.mpr rfl)) (g := (mkF m 54 #[.val (.ref x), .val (.ref b), .val (.int (0 : Int32)), .val (.int (Int32.ofNat cs.length)), .val .null, .val (.ref d3)] [(.ref d3), (.ref x)])) rfl rfl (hb hby d_jdk_42_m149_54)
  have zh6 := K6.1
  have F6_value : Fld Z h6 x "java/lang/String" "value" "[B" (.ref d3) := F5_value.same W6
  have E6 := E5.keep K6
  have F6_coder : Fld Z h6 x "java/lang/String" "coder" "B" (.int (1 : Int32)) := F5_coder.other W6 (Or.inr (slot_ne (Or.inr (hw _ (List.mem_of_getElem? (i := 34) rfl))) (Or.inr (hw _ (List.mem_of_getElem? (i := 36) rfl))) (by decide) (t := .byte) (t' := (.array .byte)) (by decide) (by decide)))
  refine Rn.pu (g' := (mkF m 57 #[.val (.ref x), .val (.ref b), .val (.int (0 : Int32)), .val (.int (Int32.ofNat cs.length)), .val .null, .val (.ref d3)] [])) ?_ st6
  exact H6.retV ends_N hlk hret (hb hby d_jdk_42_m149_57) (by decide) (by decide) (fun _ q => q) ⟨rfl, d3, ⟨hc, by omega, E6, F6_value, 1, _, _, _, F6_coder, ((A3.keep K5 (ninS (adne (by omega)) nin0)).keep K6 (ninS (adne (by omega)) nin0)), Or.inr ⟨rfl, rfl, rfl, hbig⟩⟩, by omega⟩
set_option maxRecDepth 65536 in
set_option maxHeartbeats 40000000 in
theorem c_nwu1 (l : Launch) {Z : State} {a0 : Array Value} {zc : Int32} {fm : Value} {aP : Addr} {aN : Addr} (B : Base Z a0 zc fm aP aN) (x b : Addr) (kC : ClassId) (dv : Value) (cs : List Int32) (h0 : Heap) (O : Ext Z.heap h0) (hn : cs.length ≤ 2) (h1 : 0 < cs.length) (hc : ∀ c ∈ cs, ¬ c < 0 ∧ ¬ (65535 : Int32) < c) (hbig : ∃ c ∈ cs, (255 : Int32) < c) (AB : Arv Z h0 b kC .char (Int32.ofNat cs.length) (cs.map Value.int) dv) (E : Exa Z h0 x "java/lang/String") (G1 : Fld Z h0 x "java/lang/String" "value" "[B" .null) (G2 : Fld Z h0 x "java/lang/String" "coder" "B" (.int (0 : Int32))) (gx : Z.heap.size ≤ x) :
    MetN l Z (⟨"java/lang/String", "<init>", "([C)V"⟩ : MethodName) jdk_42_method_3_code 2 none [] ({ frames := 5, cells := 2, slots := 6, locals := 74 } : Room) #[(.ref x), (.ref b)] h0 [x] (fun v h => v = none ∧ ∃ t, Str Z h x t cs ∧ h.size > t) := by
  obtain ⟨hw, SC0, hz0, SF1, rf1, SU2, SU3, SU4, SP, SN, XP, XN⟩ := B
  refine MetN.mk (plainFor_of_name pn_java_lang_String) (fun m => ef_c_nwu1 m x b) O ?_
  intro p e s m below meth c T0 hx hby hml hret hlk hnm hsh H0
  have zs : s.heap.size = h0.size := by rw [hsh]
  have lx := natlt (E).lt
  have lb := natlt (AB).lt
  have H0 := H0.weak (ws' := [x]) (fun _ q => nomatch q) (allS gx all0)
  refine Rn.pu (T' := T0) (g' := (mkF m 1 #[.val (.ref x), .val (.ref b)] [(.ref x)])) ?_ fun _ zk => XS.aloadN H0.here hx rfl (hb hby d_jdk_42_m3_0) rfl rfl zk
  refine Rn.pu (T' := T0) (g' := (mkF m 2 #[.val (.ref x), .val (.ref b)] [(.ref b), (.ref x)])) ?_ fun _ zk => XS.aloadN H0.here hx rfl (hb hby d_jdk_42_m3_1) rfl rfl zk
  refine Rn.pu (T' := T0) (g' := (mkF m 3 #[.val (.ref x), .val (.ref b)] [(.int (0 : Int32)), (.ref b), (.ref x)])) ?_ fun _ zk => XS.iconst H0.here hx rfl (hb hby d_jdk_42_m3_2) zk
  refine Rn.pu (T' := T0) (g' := (mkF m 4 #[.val (.ref x), .val (.ref b)] [(.ref b), (.int (0 : Int32)), (.ref b), (.ref x)])) ?_ fun _ zk => XS.aloadN H0.here hx rfl (hb hby d_jdk_42_m3_3) rfl rfl zk
  refine Rn.pu (g' := (mkF m 5 #[.val (.ref x), .val (.ref b)] [(.int (Int32.ofNat cs.length)), (.int (0 : Int32)), (.ref b), (.ref x)])) ?_ (H0.alen AB (g := (mkF m 4 #[.val (.ref x), .val (.ref b)] [(.ref b), (.int (0 : Int32)), (.ref b), (.ref x)])) rfl rfl (hb hby d_jdk_42_m3_4))
  refine Rn.pu (T' := T0) (g' := (mkF m 6 #[.val (.ref x), .val (.ref b)] [.null, (.int (Int32.ofNat cs.length)), (.int (0 : Int32)), (.ref b), (.ref x)])) ?_ fun _ zk => XS.aconstNull H0.here hx rfl (hb hby d_jdk_42_m3_5) zk
  obtain ⟨_, T1, h1, H1, ⟨rfl, t1, S1, lt1⟩, K1, st1⟩ := H0.callI rfl (hw _ (List.mem_of_getElem? (i := 14) rfl)) (hw _ (List.mem_of_getElem? (i := 15) rfl)) (hw _ (List.mem_of_getElem? (i := 17) rfl)) (by decide) (MetN.pay (W := 0) (c_nwu4 l ⟨hw, SC0, hz0, SF1, rf1, SU2, SU3, SU4, SP, SN, XP, XN⟩ x b kC dv cs h0 H0.old hn h1 hc hbig AB E G1 G2 gx) (hw _ (List.mem_of_getElem? (i := 17) rfl)) (hw _ (List.mem_of_getElem? (i := 10) rfl)) (by decide) (by decide)) (g := (mkF m 6 #[.val (.ref x), .val (.ref b)] [.null, (.int (Int32.ofNat cs.length)), (.int (0 : Int32)), (.ref b), (.ref x)])) rfl (by rw [hml]; rfl) (argsL := [(.ref b), (.int (0 : Int32)), (.int (Int32.ofNat cs.length)), .null]) (rest := []) (lenOf pd__ACIILjava_lang_Void__V rfl) rfl rfl (Nat.le_of_eq rfl) (hb hby d_jdk_42_m3_6) (by decide) (by decide) (allS (Or.inl (List.mem_singleton.mpr rfl)) all0)
  have zh1 := K1.1
  refine Rn.pu (g' := (mkF m 9 #[.val (.ref x), .val (.ref b)] [])) ?_ st1
  exact H1.retV ends_N hlk hret (hb hby d_jdk_42_m3_9) (by decide) (by decide) (fun _ q => q) ⟨rfl, t1, S1, by omega⟩
theorem payNewU {R : Room} {p : Program} {e : Env} {args : Array Value} {below : List Frame} (l : Launch) {Z : State} {a0 : Array Value} {zc : Int32} {fm : Value} {aP : Addr} {aN : Addr} (B : Base Z a0 zc fm aP aN) {W : Nat} {x b : Addr} {kC : ClassId} {dv : Value} {cs : List Int32} {n : Nat} {N : Int32} {h : Heap} (O : Ext Z.heap h) (hl : cs.length = n) (hN : N = Int32.ofNat n) (hn : n ≤ 2) (h1 : 0 < n) (hc : ∀ c ∈ cs, ¬ c < 0 ∧ ¬ (65535 : Int32) < c) (AB : Arv Z h b kC .char N (cs.map Value.int) dv) (E : Exa Z h x "java/lang/String") (G1 : Fld Z h x "java/lang/String" "value" "[B" .null) (G2 : Fld Z h x "java/lang/String" "coder" "B" (.int (0 : Int32))) (gx : Z.heap.size ≤ x) (hfr : 6 ≤ R.frames) (hlo : W + 87 ≤ R.locals) :
    PayM l R p e below args Z (⟨"java/lang/String", "<init>", "([C)V"⟩ : MethodName) W #[.ref x, .ref b] h 2 6 [x] (fun v h' => v = none ∧ ∃ t, Str Z h' x t cs ∧ h'.size > t) := by
  subst hl hN
  have B' := B
  obtain ⟨hw, SC0, hz0, SF1, rf1, SU2, SU3, SU4, SP, SN, XP, XN⟩ := B
  by_cases hbig : ∃ c ∈ cs, (255 : Int32) < c
  · exact ⟨2, 6, Nat.le_refl _, Nat.le_refl _, MetN.pay (W := W) (c_nwu1 l B' x b kC dv cs h O hn h1 hc hbig AB E G1 G2 gx) (hw _ (List.mem_of_getElem? (i := 13) rfl)) (hw _ (List.mem_of_getElem? (i := 10) rfl)) hfr (by show W + (2 + 11) + 74 ≤ R.locals; omega)⟩
  · refine ⟨1, cs.length, by omega, by omega, fun s hZ => Back.mono (payNew (cs := cs) (n := cs.length) (W := W) (hws_new hw) (hw _ (List.mem_of_getElem? (i := 9) rfl)) E G1 G2 AB (SC0.ext O) hz0 rfl rfl h1 (by omega) (fun c q => ⟨(hc c q).1, fun r => hbig ⟨c, q, r⟩⟩) (by omega) (by omega) s hZ) (fun P a hp => hp) (fun P a v B hp' hq => ?_)⟩
    obtain ⟨L, ⟨⟨q1, t, -, q2, q3⟩, q4, q5⟩, hr⟩ := hq
    exact ⟨L, ⟨⟨q1, t, q3, q2⟩, q4, q5⟩, hr⟩
set_option maxRecDepth 65536 in
set_option maxHeartbeats 40000000 in
theorem c_part (l : Launch) {Z : State} {a0 : Array Value} {zc : Int32} {fm : Value} {aP : Addr} {aN : Addr} (B : Base Z a0 zc fm aP aN) (pp : Int32) (h0 : Heap) (O : Ext Z.heap h0) :
    MetN l Z (⟨"com/example/veer32/veer32/bundle/TopicNameNamespaceNamePinLaw", "part", "(I)Ljava/lang/String;"⟩ : MethodName) method_3_code 4 (some (.object "java/lang/String")) [] ({ frames := 6, cells := 4, slots := 12, locals := 88 } : Room) #[(.int pp)] h0 [] (fun v h => ∃ a t cs, v = some (.ref a) ∧ Str Z h a t cs ∧ 0 < cs.length ∧ cs.length ≤ 2 ∧ (∀ c ∈ cs, ¬ c = 47) ∧ h0.size ≤ a ∧ h.size > a ∧ h.size > t) := by
  obtain ⟨hw, SC0, hz0, SF1, rf1, SU2, SU3, SU4, SP, SN, XP, XN⟩ := B
  refine MetN.mk (plainFor_of_name pn_com_example_veer32_veer32_bundle_TopicNameNamespaceNamePinLaw) (fun m => ef_c_part m pp) O ?_
  intro p e s m below meth c T0 hx hby hml hret hlk hnm hsh H0
  have zs : s.heap.size = h0.size := by rw [hsh]
  refine Rn.pu (T' := T0) (g' := (mkF m 1 #[.val (.int pp), .unset, .unset, .unset] [(.int pp)])) ?_ fun _ zk => XS.iloadN H0.here hx rfl (hb hby d_m3_0) rfl zk
  obtain ⟨_, T1, h1, H1, ⟨r1, rfl, rr1, rn1, rfl⟩, -, st1⟩ := H0.callS (hw _ (List.mem_of_getElem? (i := 4) rfl)) (hw _ (List.mem_of_getElem? (i := 5) rfl)) (hw _ (List.mem_of_getElem? (i := 2) rfl)) (hw _ (List.mem_of_getElem? (i := 6) rfl)) (by decide) (MetN.pay (W := 0) (c_ch l ⟨hw, SC0, hz0, SF1, rf1, SU2, SU3, SU4, SP, SN, XP, XN⟩ pp h0 H0.old) (hw _ (List.mem_of_getElem? (i := 6) rfl)) (hw _ (List.mem_of_getElem? (i := 2) rfl)) (by decide) (by decide)) (g := (mkF m 1 #[.val (.int pp), .unset, .unset, .unset] [(.int pp)])) rfl (by rw [hml]; rfl) (argsL := [(.int pp)]) (rest := []) (lenOf pd__I_C rfl) rfl rfl (Nat.le_of_eq rfl) (hb hby d_m3_1) (by decide) (by decide) all0
  refine Rn.pu (g' := (mkF m 4 #[.val (.int pp), .unset, .unset, .unset] [(.int r1)])) ?_ st1
  refine Rn.pu (T' := T1) (g' := (mkF m 5 #[.val (.int pp), .val (.int r1), .unset, .unset] [])) ?_ fun _ zk => XS.istoreN H1.here hx rfl (hb hby d_m3_4) rfl (l' := #[.val (.int pp), .val (.int r1), .unset, .unset]) rfl zk
  refine Rn.pu (T' := T1) (g' := (mkF m 6 #[.val (.int pp), .val (.int r1), .unset, .unset] [(.int pp)])) ?_ fun _ zk => XS.iloadN H1.here hx rfl (hb hby d_m3_5) rfl zk
  refine Rn.pu (T' := T1) (g' := (mkF m 8 #[.val (.int pp), .val (.int r1), .unset, .unset] [(.int (8 : Int32)), (.int pp)])) ?_ fun _ zk => XS.bipush H1.here hx rfl (hb hby d_m3_6) zk
  refine Rn.pu (T' := T1) (g' := (mkF m 9 #[.val (.int pp), .val (.int r1), .unset, .unset] [(.int (XT.ushr pp (8 : Int32)))])) ?_ fun _ zk => XT.iushr H1.here hx rfl (hb hby d_m3_8) rfl zk
  obtain ⟨_, T2, h2, H2, ⟨r2, rfl, rr2, rn2, rfl⟩, -, st2⟩ := H1.callS (hw _ (List.mem_of_getElem? (i := 4) rfl)) (hw _ (List.mem_of_getElem? (i := 5) rfl)) (hw _ (List.mem_of_getElem? (i := 2) rfl)) (hw _ (List.mem_of_getElem? (i := 6) rfl)) (by decide) (MetN.pay (W := 0) (c_ch l ⟨hw, SC0, hz0, SF1, rf1, SU2, SU3, SU4, SP, SN, XP, XN⟩ (XT.ushr pp (8 : Int32)) h0 H1.old) (hw _ (List.mem_of_getElem? (i := 6) rfl)) (hw _ (List.mem_of_getElem? (i := 2) rfl)) (by decide) (by decide)) (g := (mkF m 9 #[.val (.int pp), .val (.int r1), .unset, .unset] [(.int (XT.ushr pp (8 : Int32)))])) rfl (by rw [hml]; rfl) (argsL := [(.int (XT.ushr pp (8 : Int32)))]) (rest := []) (lenOf pd__I_C rfl) rfl rfl (Nat.le_of_eq rfl) (hb hby d_m3_9) (by decide) (by decide) all0
  refine Rn.pu (g' := (mkF m 12 #[.val (.int pp), .val (.int r1), .unset, .unset] [(.int r2)])) ?_ st2
  refine Rn.pu (T' := T2) (g' := (mkF m 13 #[.val (.int pp), .val (.int r1), .val (.int r2), .unset] [])) ?_ fun _ zk => XS.istoreN H2.here hx rfl (hb hby d_m3_12) rfl (l' := #[.val (.int pp), .val (.int r1), .val (.int r2), .unset]) rfl zk
  refine Rn.pu (T' := T2) (g' := (mkF m 14 #[.val (.int pp), .val (.int r1), .val (.int r2), .unset] [(.int pp)])) ?_ fun _ zk => XS.iloadN H2.here hx rfl (hb hby d_m3_13) rfl zk
  refine Rn.pu (T' := T2) (g' := (mkF m 16 #[.val (.int pp), .val (.int r1), .val (.int r2), .unset] [(.int (16 : Int32)), (.int pp)])) ?_ fun _ zk => XS.bipush H2.here hx rfl (hb hby d_m3_14) zk
  refine Rn.pu (T' := T2) (g' := (mkF m 17 #[.val (.int pp), .val (.int r1), .val (.int r2), .unset] [(.int (XT.ushr pp (16 : Int32)))])) ?_ fun _ zk => XT.iushr H2.here hx rfl (hb hby d_m3_16) rfl zk
  refine Rn.pu (T' := T2) (g' := (mkF m 18 #[.val (.int pp), .val (.int r1), .val (.int r2), .unset] [(.int (1 : Int32)), (.int (XT.ushr pp (16 : Int32)))])) ?_ fun _ zk => XS.iconst H2.here hx rfl (hb hby d_m3_17) zk
  refine Rn.pu (T' := T2) (g' := (mkF m 19 #[.val (.int pp), .val (.int r1), .val (.int r2), .unset] [(.int ((XT.ushr pp (16 : Int32)) &&& (1 : Int32)))])) ?_ fun _ zk => XS.iand H2.here hx rfl (hb hby d_m3_18) rfl zk
  by_cases b19_3 : ((XT.ushr pp (16 : Int32)) &&& (1 : Int32)) = 0
  ·
    refine Rn.pu (T' := T2) (g' := (mkF m 22 #[.val (.int pp), .val (.int r1), .val (.int r2), .unset] [])) ?_ fun _ zk => XS.ifNo H2.here hx rfl (hb hby d_m3_19) rfl (z_ne_f b19_3) zk
    refine Rn.pu (T' := T2) (g' := (mkF m 23 #[.val (.int pp), .val (.int r1), .val (.int r2), .unset] [(.int (1 : Int32))])) ?_ fun _ zk => XS.iconst H2.here hx rfl (hb hby d_m3_22) zk
    obtain ⟨a4, k4, T4, h4, e4, H4, K4, A4, st4⟩ := H2.newP (aty := .char) (hw _ (List.mem_of_getElem? (i := 7) rfl)) (g := (mkF m 23 #[.val (.int pp), .val (.int r1), .val (.int r2), .unset] [(.int (1 : Int32))])) rfl (hb hby d_m3_23) rfl (by decide) (cap := 1) (by decide) (by decide) (by decide) (by decide)
    have zh4 := K4.1
    have l4 := natlt (A4).lt
    have g4 : s.heap.size ≤ a4 := by omega
    refine Rn.pu (g' := (mkF m 25 #[.val (.int pp), .val (.int r1), .val (.int r2), .unset] [(.ref a4)])) ?_ st4
    refine Rn.pu (T' := T4) (g' := (mkF m 26 #[.val (.int pp), .val (.int r1), .val (.int r2), .val (.ref a4)] [])) ?_ fun _ zk => XS.astoreN H4.here hx rfl (hb hby d_m3_25) rfl rfl (l' := #[.val (.int pp), .val (.int r1), .val (.int r2), .val (.ref a4)]) rfl zk
    refine Rn.pu (T' := T4) (g' := (mkF m 27 #[.val (.int pp), .val (.int r1), .val (.int r2), .val (.ref a4)] [(.ref a4)])) ?_ fun _ zk => XS.aloadN H4.here hx rfl (hb hby d_m3_26) rfl rfl zk
    refine Rn.pu (T' := T4) (g' := (mkF m 28 #[.val (.int pp), .val (.int r1), .val (.int r2), .val (.ref a4)] [(.int (0 : Int32)), (.ref a4)])) ?_ fun _ zk => XS.iconst H4.here hx rfl (hb hby d_m3_27) zk
    refine Rn.pu (T' := T4) (g' := (mkF m 29 #[.val (.int pp), .val (.int r1), .val (.int r2), .val (.ref a4)] [(.int r1), (.int (0 : Int32)), (.ref a4)])) ?_ fun _ zk => XS.iloadN H4.here hx rfl (hb hby d_m3_28) rfl zk
    obtain ⟨T5, h5, H5, K5, A5, st5⟩ := H4.stC A4 (by decide) rfl (Or.inr (by omega)) (g := (mkF m 29 #[.val (.int pp), .val (.int r1), .val (.int r2), .val (.ref a4)] [(.int r1), (.int (0 : Int32)), (.ref a4)])) rfl rfl (hb hby d_m3_29)
    have zh5 := K5.1
    refine Rn.pu (g' := (mkF m 30 #[.val (.int pp), .val (.int r1), .val (.int r2), .val (.ref a4)] [])) ?_ st5
    have AC : Arv Z h5 a4 k4 .char (1 : Int32) [.int r1] (.int 0) := by have q := A5; simp only [List.nil_append, List.cons_append, List.map, nar_id rr1.1 rr1.2] at q; exact q
    obtain ⟨a6, T6, h6, e6, H6, K6, E6, D6, st6⟩ := H5.newO (hw _ (List.mem_of_getElem? (i := 8) rfl)) (hw _ (List.mem_of_getElem? (i := 9) rfl)) (hw _ (List.mem_of_getElem? (i := 10) rfl)) (g := (mkF m 30 #[.val (.int pp), .val (.int r1), .val (.int r2), .val (.ref a4)] [])) rfl (hb hby d_m3_30) (by decide) (by decide)
    have zh6 := K6.1
    have l6 := natlt (E6).lt
    have g6 : s.heap.size ≤ a6 := by omega
    have F6_coder : Fld Z h6 a6 "java/lang/String" "coder" "B" (.int (0 : Int32)) := D6 (Or.inr (hw _ (List.mem_of_getElem? (i := 34) rfl))) (ty := .byte) (by decide)
    have F6_value : Fld Z h6 a6 "java/lang/String" "value" "[B" .null := D6 (Or.inr (hw _ (List.mem_of_getElem? (i := 36) rfl))) (ty := (.array .byte)) (by decide)
    refine Rn.pu (g' := (mkF m 33 #[.val (.int pp), .val (.int r1), .val (.int r2), .val (.ref a4)] [(.ref a6)])) ?_ st6
    refine Rn.pu (T' := T6) (g' := (mkF m 34 #[.val (.int pp), .val (.int r1), .val (.int r2), .val (.ref a4)] [(.ref a6), (.ref a6)])) ?_ fun _ zk => XS.dup H6.here hx rfl (hb hby d_m3_33) rfl rfl zk
    refine Rn.pu (T' := T6) (g' := (mkF m 35 #[.val (.int pp), .val (.int r1), .val (.int r2), .val (.ref a4)] [(.ref a4), (.ref a6), (.ref a6)])) ?_ fun _ zk => XS.aloadN H6.here hx rfl (hb hby d_m3_34) rfl rfl zk
    obtain ⟨_, T7, h7, H7, ⟨rfl, t7, S7, lt7⟩, K7, st7⟩ := H6.callIm rfl (hw _ (List.mem_of_getElem? (i := 11) rfl)) (hw _ (List.mem_of_getElem? (i := 12) rfl)) (hw _ (List.mem_of_getElem? (i := 13) rfl)) (by decide) (payNewU (cs := [r1]) (n := 1) (W := 1) l ⟨hw, SC0, hz0, SF1, rf1, SU2, SU3, SU4, SP, SN, XP, XN⟩ H6.old rfl rfl (by decide) (by decide) (mem2 rr1 mem0) (AC.keep K6 nin0) E6 F6_value F6_coder (by have := H0.old.1; omega) (by decide) (by decide)) (g := (mkF m 35 #[.val (.int pp), .val (.int r1), .val (.int r2), .val (.ref a4)] [(.ref a4), (.ref a6), (.ref a6)])) rfl (by rw [hml]; rfl) (argsL := [(.ref a4)]) (rest := [(.ref a6)]) (lenOf pd__AC_V rfl) rfl rfl (Nat.le_of_eq rfl) (hb hby d_m3_35) (by decide) (by decide) (allS (Or.inr (by omega)) all0)
    have zh7 := K7.1
    have l7 := natlt (S7).lt
    refine Rn.pu (g' := (mkF m 38 #[.val (.int pp), .val (.int r1), .val (.int r2), .val (.ref a4)] [(.ref a6)])) ?_ st7
    have SX := S7
    have lSX := natlt (SX).lt
    have mSX := natlt (SX).ltt
    exact H7.retA ends_N hlk hret rfl rfl rfl (hb hby d_m3_38) (by decide) (by decide) (fun _ q => nomatch q) ⟨a6, t7, [r1], rfl, SX, by simp, by simp, (mem2 rn1 mem0), by omega, by omega, by omega⟩
  ·
    refine Rn.pu (T' := T2) (g' := (mkF m 39 #[.val (.int pp), .val (.int r1), .val (.int r2), .unset] [])) ?_ fun _ zk => XS.ifYes H2.here hx rfl (pc0 := 19) (pc' := 39) rfl (hb hby d_m3_19) rfl (z_ne_t b19_3) (by decide) (by decide) zk
    refine Rn.pu (T' := T2) (g' := (mkF m 40 #[.val (.int pp), .val (.int r1), .val (.int r2), .unset] [(.int (2 : Int32))])) ?_ fun _ zk => XS.iconst H2.here hx rfl (hb hby d_m3_39) zk
    obtain ⟨a8, k8, T8, h8, e8, H8, K8, A8, st8⟩ := H2.newP (aty := .char) (hw _ (List.mem_of_getElem? (i := 7) rfl)) (g := (mkF m 40 #[.val (.int pp), .val (.int r1), .val (.int r2), .unset] [(.int (2 : Int32))])) rfl (hb hby d_m3_40) rfl (by decide) (cap := 2) (by decide) (by decide) (by decide) (by decide)
    have zh8 := K8.1
    have l8 := natlt (A8).lt
    have g8 : s.heap.size ≤ a8 := by omega
    refine Rn.pu (g' := (mkF m 42 #[.val (.int pp), .val (.int r1), .val (.int r2), .unset] [(.ref a8)])) ?_ st8
    refine Rn.pu (T' := T8) (g' := (mkF m 43 #[.val (.int pp), .val (.int r1), .val (.int r2), .val (.ref a8)] [])) ?_ fun _ zk => XS.astoreN H8.here hx rfl (hb hby d_m3_42) rfl rfl (l' := #[.val (.int pp), .val (.int r1), .val (.int r2), .val (.ref a8)]) rfl zk
    refine Rn.pu (T' := T8) (g' := (mkF m 44 #[.val (.int pp), .val (.int r1), .val (.int r2), .val (.ref a8)] [(.ref a8)])) ?_ fun _ zk => XS.aloadN H8.here hx rfl (hb hby d_m3_43) rfl rfl zk
    refine Rn.pu (T' := T8) (g' := (mkF m 45 #[.val (.int pp), .val (.int r1), .val (.int r2), .val (.ref a8)] [(.int (0 : Int32)), (.ref a8)])) ?_ fun _ zk => XS.iconst H8.here hx rfl (hb hby d_m3_44) zk
    refine Rn.pu (T' := T8) (g' := (mkF m 46 #[.val (.int pp), .val (.int r1), .val (.int r2), .val (.ref a8)] [(.int r1), (.int (0 : Int32)), (.ref a8)])) ?_ fun _ zk => XS.iloadN H8.here hx rfl (hb hby d_m3_45) rfl zk
    obtain ⟨T9, h9, H9, K9, A9, st9⟩ := H8.stC A8 (by decide) rfl (Or.inr (by omega)) (g := (mkF m 46 #[.val (.int pp), .val (.int r1), .val (.int r2), .val (.ref a8)] [(.int r1), (.int (0 : Int32)), (.ref a8)])) rfl rfl (hb hby d_m3_46)
    have zh9 := K9.1
    refine Rn.pu (g' := (mkF m 47 #[.val (.int pp), .val (.int r1), .val (.int r2), .val (.ref a8)] [])) ?_ st9
    refine Rn.pu (T' := T9) (g' := (mkF m 48 #[.val (.int pp), .val (.int r1), .val (.int r2), .val (.ref a8)] [(.ref a8)])) ?_ fun _ zk => XS.aloadN H9.here hx rfl (hb hby d_m3_47) rfl rfl zk
    refine Rn.pu (T' := T9) (g' := (mkF m 49 #[.val (.int pp), .val (.int r1), .val (.int r2), .val (.ref a8)] [(.int (1 : Int32)), (.ref a8)])) ?_ fun _ zk => XS.iconst H9.here hx rfl (hb hby d_m3_48) zk
    refine Rn.pu (T' := T9) (g' := (mkF m 50 #[.val (.int pp), .val (.int r1), .val (.int r2), .val (.ref a8)] [(.int r2), (.int (1 : Int32)), (.ref a8)])) ?_ fun _ zk => XS.iloadN H9.here hx rfl (hb hby d_m3_49) rfl zk
    obtain ⟨T10, h10, H10, K10, A10, st10⟩ := H9.stC A9 (by decide) rfl (Or.inr (by omega)) (g := (mkF m 50 #[.val (.int pp), .val (.int r1), .val (.int r2), .val (.ref a8)] [(.int r2), (.int (1 : Int32)), (.ref a8)])) rfl rfl (hb hby d_m3_50)
    have zh10 := K10.1
    refine Rn.pu (g' := (mkF m 51 #[.val (.int pp), .val (.int r1), .val (.int r2), .val (.ref a8)] [])) ?_ st10
    have AC : Arv Z h10 a8 k8 .char (2 : Int32) [.int r1, .int r2] (.int 0) := by have q := A10; simp only [List.nil_append, List.cons_append, List.map, nar_id rr1.1 rr1.2, nar_id rr2.1 rr2.2] at q; exact q
    obtain ⟨a11, T11, h11, e11, H11, K11, E11, D11, st11⟩ := H10.newO (hw _ (List.mem_of_getElem? (i := 8) rfl)) (hw _ (List.mem_of_getElem? (i := 9) rfl)) (hw _ (List.mem_of_getElem? (i := 10) rfl)) (g := (mkF m 51 #[.val (.int pp), .val (.int r1), .val (.int r2), .val (.ref a8)] [])) rfl (hb hby d_m3_51) (by decide) (by decide)
    have zh11 := K11.1
    have l11 := natlt (E11).lt
    have g11 : s.heap.size ≤ a11 := by omega
    have F11_coder : Fld Z h11 a11 "java/lang/String" "coder" "B" (.int (0 : Int32)) := D11 (Or.inr (hw _ (List.mem_of_getElem? (i := 34) rfl))) (ty := .byte) (by decide)
    have F11_value : Fld Z h11 a11 "java/lang/String" "value" "[B" .null := D11 (Or.inr (hw _ (List.mem_of_getElem? (i := 36) rfl))) (ty := (.array .byte)) (by decide)
    refine Rn.pu (g' := (mkF m 54 #[.val (.int pp), .val (.int r1), .val (.int r2), .val (.ref a8)] [(.ref a11)])) ?_ st11
    refine Rn.pu (T' := T11) (g' := (mkF m 55 #[.val (.int pp), .val (.int r1), .val (.int r2), .val (.ref a8)] [(.ref a11), (.ref a11)])) ?_ fun _ zk => XS.dup H11.here hx rfl (hb hby d_m3_54) rfl rfl zk
    refine Rn.pu (T' := T11) (g' := (mkF m 56 #[.val (.int pp), .val (.int r1), .val (.int r2), .val (.ref a8)] [(.ref a8), (.ref a11), (.ref a11)])) ?_ fun _ zk => XS.aloadN H11.here hx rfl (hb hby d_m3_55) rfl rfl zk
    obtain ⟨_, T12, h12, H12, ⟨rfl, t12, S12, lt12⟩, K12, st12⟩ := H11.callIm rfl (hw _ (List.mem_of_getElem? (i := 11) rfl)) (hw _ (List.mem_of_getElem? (i := 12) rfl)) (hw _ (List.mem_of_getElem? (i := 13) rfl)) (by decide) (payNewU (cs := [r1, r2]) (n := 2) (W := 1) l ⟨hw, SC0, hz0, SF1, rf1, SU2, SU3, SU4, SP, SN, XP, XN⟩ H11.old rfl rfl (by decide) (by decide) (mem2 rr1 (mem2 rr2 mem0)) (AC.keep K11 nin0) E11 F11_value F11_coder (by have := H0.old.1; omega) (by decide) (by decide)) (g := (mkF m 56 #[.val (.int pp), .val (.int r1), .val (.int r2), .val (.ref a8)] [(.ref a8), (.ref a11), (.ref a11)])) rfl (by rw [hml]; rfl) (argsL := [(.ref a8)]) (rest := [(.ref a11)]) (lenOf pd__AC_V rfl) rfl rfl (Nat.le_of_eq rfl) (hb hby d_m3_56) (by decide) (by decide) (allS (Or.inr (by omega)) all0)
    have zh12 := K12.1
    have l12 := natlt (S12).lt
    refine Rn.pu (g' := (mkF m 59 #[.val (.int pp), .val (.int r1), .val (.int r2), .val (.ref a8)] [(.ref a11)])) ?_ st12
    have SX := S12
    have lSX := natlt (SX).lt
    have mSX := natlt (SX).ltt
    exact H12.retA ends_N hlk hret rfl rfl rfl (hb hby d_m3_59) (by decide) (by decide) (fun _ q => nomatch q) ⟨a11, t12, [r1, r2], rfl, SX, by simp, by simp, (mem2 rn1 (mem2 rn2 mem0)), by omega, by omega, by omega⟩
set_option maxRecDepth 65536 in
set_option maxHeartbeats 40000000 in
theorem c_max (l : Launch) {Z : State} {a0 : Array Value} {zc : Int32} {fm : Value} {aP : Addr} {aN : Addr} (B : Base Z a0 zc fm aP aN)  (h0 : Heap) (O : Ext Z.heap h0) :
    MetN l Z (⟨"java/lang/Math", "max", "(II)I"⟩ : MethodName) jdk_29_method_65_code 2 (some .int) [] ({ frames := 0, cells := 0, slots := 0, locals := 0 } : Room) #[(.int (0 : Int32)), (.int (0 : Int32))] h0 [] (fun v h => v = some (.int 0) ∧ h0 = h) := by
  obtain ⟨hw, SC0, hz0, SF1, rf1, SU2, SU3, SU4, SP, SN, XP, XN⟩ := B
  refine MetN.mk (by decide +kernel) (fun m => ef_c_max m (0 : Int32) (0 : Int32)) O ?_
  intro p e s m below meth c T0 hx hby hml hret hlk hnm hsh H0
  have zs : s.heap.size = h0.size := by rw [hsh]
  refine Rn.pu (T' := T0) (g' := (mkF m 1 #[.val (.int (0 : Int32)), .val (.int (0 : Int32))] [(.int (0 : Int32))])) ?_ fun _ zk => XS.iloadN H0.here hx rfl (hb hby d_jdk_29_m65_0) rfl zk
  refine Rn.pu (T' := T0) (g' := (mkF m 2 #[.val (.int (0 : Int32)), .val (.int (0 : Int32))] [(.int (0 : Int32)), (.int (0 : Int32))])) ?_ fun _ zk => XS.iloadN H0.here hx rfl (hb hby d_jdk_29_m65_1) rfl zk
  refine Rn.pu (T' := T0) (g' := (mkF m 5 #[.val (.int (0 : Int32)), .val (.int (0 : Int32))] [])) ?_ fun _ zk => XS.icmpNo H0.here hx rfl (hb hby d_jdk_29_m65_2) rfl (c_lt_f (by decide)) zk
  refine Rn.pu (T' := T0) (g' := (mkF m 6 #[.val (.int (0 : Int32)), .val (.int (0 : Int32))] [(.int (0 : Int32))])) ?_ fun _ zk => XS.iloadN H0.here hx rfl (hb hby d_jdk_29_m65_5) rfl zk
  refine Rn.pu (T' := T0) (g' := (mkF m 10 #[.val (.int (0 : Int32)), .val (.int (0 : Int32))] [(.int (0 : Int32))])) ?_ fun _ zk => XS.goto H0.here hx rfl (pc0 := 6) (pc' := 10) rfl (hb hby d_jdk_29_m65_6) (by decide) (by decide) zk
  exact H0.retI ends_N hlk hret (hb hby d_jdk_29_m65_10) (by decide) (by decide) (fun _ q => nomatch q) ⟨rfl, rfl⟩
set_option maxRecDepth 65536 in
set_option maxHeartbeats 40000000 in
theorem c_min (l : Launch) {Z : State} {a0 : Array Value} {zc : Int32} {fm : Value} {aP : Addr} {aN : Addr} (B : Base Z a0 zc fm aP aN) (n : Int32) (h0 : Heap) (O : Ext Z.heap h0) :
    MetN l Z (⟨"java/lang/Math", "min", "(II)I"⟩ : MethodName) jdk_29_method_69_code 2 (some .int) [] ({ frames := 0, cells := 0, slots := 0, locals := 0 } : Room) #[(.int n), (.int n)] h0 [] (fun v h => v = some (.int n) ∧ h0 = h) := by
  obtain ⟨hw, SC0, hz0, SF1, rf1, SU2, SU3, SU4, SP, SN, XP, XN⟩ := B
  refine MetN.mk (by decide +kernel) (fun m => ef_c_min m n n) O ?_
  intro p e s m below meth c T0 hx hby hml hret hlk hnm hsh H0
  have zs : s.heap.size = h0.size := by rw [hsh]
  refine Rn.pu (T' := T0) (g' := (mkF m 1 #[.val (.int n), .val (.int n)] [(.int n)])) ?_ fun _ zk => XS.iloadN H0.here hx rfl (hb hby d_jdk_29_m69_0) rfl zk
  refine Rn.pu (T' := T0) (g' := (mkF m 2 #[.val (.int n), .val (.int n)] [(.int n), (.int n)])) ?_ fun _ zk => XS.iloadN H0.here hx rfl (hb hby d_jdk_29_m69_1) rfl zk
  refine Rn.pu (T' := T0) (g' := (mkF m 5 #[.val (.int n), .val (.int n)] [])) ?_ fun _ zk => XS.icmpNo H0.here hx rfl (hb hby d_jdk_29_m69_2) rfl (c_gt_f (fun r => Int32.lt_irrefl r)) zk
  refine Rn.pu (T' := T0) (g' := (mkF m 6 #[.val (.int n), .val (.int n)] [(.int n)])) ?_ fun _ zk => XS.iloadN H0.here hx rfl (hb hby d_jdk_29_m69_5) rfl zk
  refine Rn.pu (T' := T0) (g' := (mkF m 10 #[.val (.int n), .val (.int n)] [(.int n)])) ?_ fun _ zk => XS.goto H0.here hx rfl (pc0 := 6) (pc' := 10) rfl (hb hby d_jdk_29_m69_6) (by decide) (by decide) zk
  exact H0.retI ends_N hlk hret (hb hby d_jdk_29_m69_10) (by decide) (by decide) (fun _ q => nomatch q) ⟨rfl, rfl⟩
set_option maxRecDepth 65536 in
set_option maxHeartbeats 40000000 in
theorem c_can (l : Launch) {Z : State} {a0 : Array Value} {zc : Int32} {fm : Value} {aP : Addr} {aN : Addr} (B : Base Z a0 zc fm aP aN)  (h0 : Heap) (O : Ext Z.heap h0) :
    MetN l Z (⟨"java/lang/StringLatin1", "canEncode", "(I)Z"⟩ : MethodName) jdk_43_method_4_code 1 (some .boolean) [] ({ frames := 0, cells := 0, slots := 0, locals := 0 } : Room) #[(.int (47 : Int32))] h0 [] (fun v h => v = some (.int 1) ∧ h0 = h) := by
  obtain ⟨hw, SC0, hz0, SF1, rf1, SU2, SU3, SU4, SP, SN, XP, XN⟩ := B
  refine MetN.mk (plainFor_of_name pn_java_lang_StringLatin1) (fun m => ef_c_can m (47 : Int32)) O ?_
  intro p e s m below meth c T0 hx hby hml hret hlk hnm hsh H0
  have zs : s.heap.size = h0.size := by rw [hsh]
  refine Rn.pu (T' := T0) (g' := (mkF m 1 #[.val (.int (47 : Int32))] [(.int (47 : Int32))])) ?_ fun _ zk => XS.iloadN H0.here hx rfl (hb hby d_jdk_43_m4_0) rfl zk
  refine Rn.pu (T' := T0) (g' := (mkF m 4 #[.val (.int (47 : Int32))] [])) ?_ fun _ zk => XS.ifNo H0.here hx rfl (hb hby d_jdk_43_m4_1) rfl (z_lt_f (by decide)) zk
  refine Rn.pu (T' := T0) (g' := (mkF m 5 #[.val (.int (47 : Int32))] [(.int (47 : Int32))])) ?_ fun _ zk => XS.iloadN H0.here hx rfl (hb hby d_jdk_43_m4_4) rfl zk
  refine Rn.pu (T' := T0) (g' := (mkF m 8 #[.val (.int (47 : Int32))] [(.int (255 : Int32)), (.int (47 : Int32))])) ?_ fun _ zk => XS.sipush H0.here hx rfl (hb hby d_jdk_43_m4_5) zk
  refine Rn.pu (T' := T0) (g' := (mkF m 11 #[.val (.int (47 : Int32))] [])) ?_ fun _ zk => XS.icmpNo H0.here hx rfl (hb hby d_jdk_43_m4_8) rfl (c_gt_f (by decide)) zk
  refine Rn.pu (T' := T0) (g' := (mkF m 12 #[.val (.int (47 : Int32))] [(.int (1 : Int32))])) ?_ fun _ zk => XS.iconst H0.here hx rfl (hb hby d_jdk_43_m4_11) zk
  refine Rn.pu (T' := T0) (g' := (mkF m 16 #[.val (.int (47 : Int32))] [(.int (1 : Int32))])) ?_ fun _ zk => XS.goto H0.here hx rfl (pc0 := 12) (pc' := 16) rfl (hb hby d_jdk_43_m4_12) (by decide) (by decide) zk
  exact H0.retS ends_N hlk (t := .boolean) hret (by simp) (hb hby d_jdk_43_m4_16) (by decide) (by decide) (fun _ q => nomatch q) ⟨rfl, rfl⟩
set_option maxRecDepth 65536 in
set_option maxHeartbeats 40000000 in
theorem c_lic (l : Launch) {Z : State} {a0 : Array Value} {zc : Int32} {fm : Value} {aP : Addr} {aN : Addr} (B : Base Z a0 zc fm aP aN) (d : Addr) (kB : ClassId) (cs : List Int32) (h0 : Heap) (O : Ext Z.heap h0) (hn : cs.length ≤ 2) (hl : ∀ c ∈ cs, ¬ c < 0 ∧ ¬ (255 : Int32) < c) (he : ∀ c ∈ cs, ¬ c = 47) (AD : Arv Z h0 d kB .byte (Int32.ofNat cs.length) (cs.map fun c => Value.int (StrChars.lo8 c)) (.int 0)) :
    MetN l Z (⟨"java/lang/StringLatin1", "indexOfChar", "([BIII)I"⟩ : MethodName) jdk_43_method_23_code 6 (some .int) [] ({ frames := 0, cells := 0, slots := 0, locals := 0 } : Room) #[(.ref d), (.int (47 : Int32)), (.int (0 : Int32)), (.int (Int32.ofNat cs.length))] h0 [] (fun v h => v = some (.int (-1)) ∧ h0 = h) := by
  obtain ⟨hw, SC0, hz0, SF1, rf1, SU2, SU3, SU4, SP, SN, XP, XN⟩ := B
  refine MetN.mk (plainFor_of_name pn_java_lang_StringLatin1) (fun m => ef_c_lic m d (47 : Int32) (0 : Int32) (Int32.ofNat cs.length)) O ?_
  intro p e s m below meth c T0 hx hby hml hret hlk hnm hsh H0
  have zs : s.heap.size = h0.size := by rw [hsh]
  refine Rn.pu (T' := T0) (g' := (mkF m 1 #[.val (.ref d), .val (.int (47 : Int32)), .val (.int (0 : Int32)), .val (.int (Int32.ofNat cs.length)), .unset, .unset] [(.int (47 : Int32))])) ?_ fun _ zk => XS.iloadN H0.here hx rfl (hb hby d_jdk_43_m23_0) rfl zk
  refine Rn.pu (T' := T0) (g' := (mkF m 2 #[.val (.ref d), .val (.int (47 : Int32)), .val (.int (0 : Int32)), .val (.int (Int32.ofNat cs.length)), .unset, .unset] [(.int (nar .byte (47 : Int32)))])) ?_ fun _ zk => XT.i2b H0.here hx rfl (hb hby d_jdk_43_m23_1) rfl zk
  refine Rn.pu (T' := T0) (g' := (mkF m 4 #[.val (.ref d), .val (.int (47 : Int32)), .val (.int (0 : Int32)), .val (.int (Int32.ofNat cs.length)), .val (.int (nar .byte (47 : Int32))), .unset] [])) ?_ fun _ zk => XS.istore H0.here hx rfl (hb hby d_jdk_43_m23_2) rfl (l' := #[.val (.ref d), .val (.int (47 : Int32)), .val (.int (0 : Int32)), .val (.int (Int32.ofNat cs.length)), .val (.int (nar .byte (47 : Int32))), .unset]) rfl zk
  refine Rn.pu (T' := T0) (g' := (mkF m 5 #[.val (.ref d), .val (.int (47 : Int32)), .val (.int (0 : Int32)), .val (.int (Int32.ofNat cs.length)), .val (.int (nar .byte (47 : Int32))), .unset] [(.int (0 : Int32))])) ?_ fun _ zk => XS.iloadN H0.here hx rfl (hb hby d_jdk_43_m23_4) rfl zk
  refine Rn.pu (T' := T0) (g' := (mkF m 7 #[.val (.ref d), .val (.int (47 : Int32)), .val (.int (0 : Int32)), .val (.int (Int32.ofNat cs.length)), .val (.int (nar .byte (47 : Int32))), .val (.int (0 : Int32))] [])) ?_ fun _ zk => XS.istore H0.here hx rfl (hb hby d_jdk_43_m23_5) rfl (l' := #[.val (.ref d), .val (.int (47 : Int32)), .val (.int (0 : Int32)), .val (.int (Int32.ofNat cs.length)), .val (.int (nar .byte (47 : Int32))), .val (.int (0 : Int32))]) rfl zk
  have LP : ∀ (k i : Nat) (T : State), i + k = cs.length → Hs p l e ({ frames := 0, cells := 0, slots := 0, locals := 0 } : Room) s m #[(.ref d), (.int (47 : Int32)), (.int (0 : Int32)), (.int (Int32.ofNat cs.length))] below meth c Z "java/lang/StringLatin1" [] (fun v => v = s.vm) T h0 0 0 → Rn p e below s FrameEnd [] (({ frames := 0, cells := 0, slots := 0, locals := 0 } : Room)).cells (({ frames := 0, cells := 0, slots := 0, locals := 0 } : Room)).slots (fun v _ h => v = some (.int (-1)) ∧ h0 = h) T (mkF m 7 #[.val (.ref d), .val (.int 47), .val (.int 0), .val (.int (Int32.ofNat cs.length)), .val (.int (nar .byte (47 : Int32))), .val (.int (Int32.ofNat i))] []) := by
    intro k
    induction k with
    | zero =>
      intro i T hi HL
      obtain rfl : i = cs.length := by omega
      refine Rn.pu (T' := T) (g' := (mkF m 9 #[.val (.ref d), .val (.int (47 : Int32)), .val (.int (0 : Int32)), .val (.int (Int32.ofNat cs.length)), .val (.int (nar .byte (47 : Int32))), .val (.int (Int32.ofNat cs.length))] [(.int (Int32.ofNat cs.length))])) ?_ fun _ zk => XS.iload HL.here hx rfl (hb hby d_jdk_43_m23_7) rfl zk
      refine Rn.pu (T' := T) (g' := (mkF m 10 #[.val (.ref d), .val (.int (47 : Int32)), .val (.int (0 : Int32)), .val (.int (Int32.ofNat cs.length)), .val (.int (nar .byte (47 : Int32))), .val (.int (Int32.ofNat cs.length))] [(.int (Int32.ofNat cs.length)), (.int (Int32.ofNat cs.length))])) ?_ fun _ zk => XS.iloadN HL.here hx rfl (hb hby d_jdk_43_m23_9) rfl zk
      refine Rn.pu (T' := T) (g' := (mkF m 31 #[.val (.ref d), .val (.int (47 : Int32)), .val (.int (0 : Int32)), .val (.int (Int32.ofNat cs.length)), .val (.int (nar .byte (47 : Int32))), .val (.int (Int32.ofNat cs.length))] [])) ?_ fun _ zk => XS.icmpYes HL.here hx rfl (pc0 := 10) (pc' := 31) rfl (hb hby d_jdk_43_m23_10) rfl (c_ge_t u_nlt) (by decide) (by decide) zk
      refine Rn.pu (T' := T) (g' := (mkF m 32 #[.val (.ref d), .val (.int (47 : Int32)), .val (.int (0 : Int32)), .val (.int (Int32.ofNat cs.length)), .val (.int (nar .byte (47 : Int32))), .val (.int (Int32.ofNat cs.length))] [(.int (-1 : Int32))])) ?_ fun _ zk => XS.iconst HL.here hx rfl (hb hby d_jdk_43_m23_31) zk
      exact HL.retI ends_N hlk hret (hb hby d_jdk_43_m23_32) (by decide) (by decide) (fun _ q => nomatch q) ⟨rfl, rfl⟩
    | succ k ih =>
      intro i T hi HL
      have hlt : i < cs.length := by omega
      refine Rn.pu (T' := T) (g' := (mkF m 9 #[.val (.ref d), .val (.int (47 : Int32)), .val (.int (0 : Int32)), .val (.int (Int32.ofNat cs.length)), .val (.int (nar .byte (47 : Int32))), .val (.int (Int32.ofNat i))] [(.int (Int32.ofNat i))])) ?_ fun _ zk => XS.iload HL.here hx rfl (hb hby d_jdk_43_m23_7) rfl zk
      refine Rn.pu (T' := T) (g' := (mkF m 10 #[.val (.ref d), .val (.int (47 : Int32)), .val (.int (0 : Int32)), .val (.int (Int32.ofNat cs.length)), .val (.int (nar .byte (47 : Int32))), .val (.int (Int32.ofNat i))] [(.int (Int32.ofNat cs.length)), (.int (Int32.ofNat i))])) ?_ fun _ zk => XS.iloadN HL.here hx rfl (hb hby d_jdk_43_m23_9) rfl zk
      refine Rn.pu (T' := T) (g' := (mkF m 13 #[.val (.ref d), .val (.int (47 : Int32)), .val (.int (0 : Int32)), .val (.int (Int32.ofNat cs.length)), .val (.int (nar .byte (47 : Int32))), .val (.int (Int32.ofNat i))] [])) ?_ fun _ zk => XS.icmpNo HL.here hx rfl (hb hby d_jdk_43_m23_10) rfl (c_ge_f (u_lt hlt (by omega))) zk
      refine Rn.pu (T' := T) (g' := (mkF m 14 #[.val (.ref d), .val (.int (47 : Int32)), .val (.int (0 : Int32)), .val (.int (Int32.ofNat cs.length)), .val (.int (nar .byte (47 : Int32))), .val (.int (Int32.ofNat i))] [(.ref d)])) ?_ fun _ zk => XS.aloadN HL.here hx rfl (hb hby d_jdk_43_m23_13) rfl rfl zk
      refine Rn.pu (T' := T) (g' := (mkF m 16 #[.val (.ref d), .val (.int (47 : Int32)), .val (.int (0 : Int32)), .val (.int (Int32.ofNat cs.length)), .val (.int (nar .byte (47 : Int32))), .val (.int (Int32.ofNat i))] [(.int (Int32.ofNat i)), (.ref d)])) ?_ fun _ zk => XS.iload HL.here hx rfl (hb hby d_jdk_43_m23_14) rfl zk
      refine Rn.pu (g' := (mkF m 17 #[.val (.ref d), .val (.int (47 : Int32)), .val (.int (0 : Int32)), .val (.int (Int32.ofNat cs.length)), .val (.int (nar .byte (47 : Int32))), .val (.int (Int32.ofNat i))] [(.int (StrChars.lo8 (cs.getD i 0)))])) ?_ (HL.bald AD ⟨u_nn (by omega), u_lt hlt (by omega)⟩ (v := .int (StrChars.lo8 (cs.getD i 0))) (by rw [u_cl (by omega)]; exact StrChars.Road.low_at _ cs i hlt) (g := (mkF m 16 #[.val (.ref d), .val (.int (47 : Int32)), .val (.int (0 : Int32)), .val (.int (Int32.ofNat cs.length)), .val (.int (nar .byte (47 : Int32))), .val (.int (Int32.ofNat i))] [(.int (Int32.ofNat i)), (.ref d)])) rfl rfl (hb hby d_jdk_43_m23_16))
      refine Rn.pu (T' := T) (g' := (mkF m 19 #[.val (.ref d), .val (.int (47 : Int32)), .val (.int (0 : Int32)), .val (.int (Int32.ofNat cs.length)), .val (.int (nar .byte (47 : Int32))), .val (.int (Int32.ofNat i))] [(.int (nar .byte (47 : Int32))), (.int (StrChars.lo8 (cs.getD i 0)))])) ?_ fun _ zk => XS.iload HL.here hx rfl (hb hby d_jdk_43_m23_17) rfl zk
      refine Rn.pu (T' := T) (g' := (mkF m 25 #[.val (.ref d), .val (.int (47 : Int32)), .val (.int (0 : Int32)), .val (.int (Int32.ofNat cs.length)), .val (.int (nar .byte (47 : Int32))), .val (.int (Int32.ofNat i))] [])) ?_ fun _ zk => XS.icmpYes HL.here hx rfl (pc0 := 19) (pc' := 25) rfl (hb hby d_jdk_43_m23_19) rfl (c_ne_t (own_lo47 (u_mem hlt hl) (u_mem hlt he))) (by decide) (by decide) zk
      refine Rn.pu (T' := T) (g' := (mkF m 28 #[.val (.ref d), .val (.int (47 : Int32)), .val (.int (0 : Int32)), .val (.int (Int32.ofNat cs.length)), .val (.int (nar .byte (47 : Int32))), .val (.int ((Int32.ofNat i) + (1 : Int32)))] [])) ?_ fun _ zk => XS.iinc HL.here hx rfl (hb hby d_jdk_43_m23_25) rfl (l' := #[.val (.ref d), .val (.int (47 : Int32)), .val (.int (0 : Int32)), .val (.int (Int32.ofNat cs.length)), .val (.int (nar .byte (47 : Int32))), .val (.int ((Int32.ofNat i) + (1 : Int32)))]) rfl zk
      refine Rn.pu (T' := T) (g' := (mkF m 7 #[.val (.ref d), .val (.int (47 : Int32)), .val (.int (0 : Int32)), .val (.int (Int32.ofNat cs.length)), .val (.int (nar .byte (47 : Int32))), .val (.int ((Int32.ofNat i) + (1 : Int32)))] [])) ?_ fun _ zk => XS.goto HL.here hx rfl (pc0 := 28) (pc' := 7) rfl (hb hby d_jdk_43_m23_28) (by decide) (by decide) zk
      rw [u_succ]
      exact ih (i + 1) _ (by omega) HL
  exact LP cs.length 0 _ (by omega) H0
set_option maxRecDepth 65536 in
set_option maxHeartbeats 40000000 in
theorem c_lio (l : Launch) {Z : State} {a0 : Array Value} {zc : Int32} {fm : Value} {aP : Addr} {aN : Addr} (B : Base Z a0 zc fm aP aN) (d : Addr) (kB : ClassId) (cs : List Int32) (h0 : Heap) (O : Ext Z.heap h0) (h1 : 0 < cs.length) (hn : cs.length ≤ 2) (hl : ∀ c ∈ cs, ¬ c < 0 ∧ ¬ (255 : Int32) < c) (he : ∀ c ∈ cs, ¬ c = 47) (AD : Arv Z h0 d kB .byte (Int32.ofNat cs.length) (cs.map fun c => Value.int (StrChars.lo8 c)) (.int 0)) :
    MetN l Z (⟨"java/lang/StringLatin1", "indexOf", "([BIII)I"⟩ : MethodName) jdk_43_method_22_code 4 (some .int) [] ({ frames := 1, cells := 0, slots := 0, locals := 17 } : Room) #[(.ref d), (.int (47 : Int32)), (.int (0 : Int32)), (.int (Int32.ofNat cs.length))] h0 [] (fun v h => v = some (.int (-1)) ∧ h0 = h) := by
  obtain ⟨hw, SC0, hz0, SF1, rf1, SU2, SU3, SU4, SP, SN, XP, XN⟩ := B
  refine MetN.mk (plainFor_of_name pn_java_lang_StringLatin1) (fun m => ef_c_lio m d (47 : Int32) (0 : Int32) (Int32.ofNat cs.length)) O ?_
  intro p e s m below meth c T0 hx hby hml hret hlk hnm hsh H0
  have zs : s.heap.size = h0.size := by rw [hsh]
  refine Rn.pu (T' := T0) (g' := (mkF m 1 #[.val (.ref d), .val (.int (47 : Int32)), .val (.int (0 : Int32)), .val (.int (Int32.ofNat cs.length))] [(.int (47 : Int32))])) ?_ fun _ zk => XS.iloadN H0.here hx rfl (hb hby d_jdk_43_m22_0) rfl zk
  obtain ⟨_, T1, h1, H1, ⟨rfl, rfl⟩, -, st1⟩ := H0.callS (hw _ (List.mem_of_getElem? (i := 99) rfl)) (hw _ (List.mem_of_getElem? (i := 100) rfl)) (hw _ (List.mem_of_getElem? (i := 97) rfl)) (hw _ (List.mem_of_getElem? (i := 101) rfl)) (by decide) (MetN.pay (W := 0) (c_can l ⟨hw, SC0, hz0, SF1, rf1, SU2, SU3, SU4, SP, SN, XP, XN⟩  h0 H0.old) (hw _ (List.mem_of_getElem? (i := 101) rfl)) (hw _ (List.mem_of_getElem? (i := 97) rfl)) (by decide) (by decide)) (g := (mkF m 1 #[.val (.ref d), .val (.int (47 : Int32)), .val (.int (0 : Int32)), .val (.int (Int32.ofNat cs.length))] [(.int (47 : Int32))])) rfl (by rw [hml]; rfl) (argsL := [(.int (47 : Int32))]) (rest := []) (lenOf pd__I_Z rfl) rfl rfl (Nat.le_of_eq rfl) (hb hby d_jdk_43_m22_1) (by decide) (by decide) all0
  refine Rn.pu (g' := (mkF m 4 #[.val (.ref d), .val (.int (47 : Int32)), .val (.int (0 : Int32)), .val (.int (Int32.ofNat cs.length))] [(.int (1 : Int32))])) ?_ st1
  refine Rn.pu (T' := T1) (g' := (mkF m 9 #[.val (.ref d), .val (.int (47 : Int32)), .val (.int (0 : Int32)), .val (.int (Int32.ofNat cs.length))] [])) ?_ fun _ zk => XS.ifYes H1.here hx rfl (pc0 := 4) (pc' := 9) rfl (hb hby d_jdk_43_m22_4) rfl (z_ne_t (by decide)) (by decide) (by decide) zk
  refine Rn.pu (T' := T1) (g' := (mkF m 10 #[.val (.ref d), .val (.int (47 : Int32)), .val (.int (0 : Int32)), .val (.int (Int32.ofNat cs.length))] [(.int (0 : Int32))])) ?_ fun _ zk => XS.iloadN H1.here hx rfl (hb hby d_jdk_43_m22_9) rfl zk
  refine Rn.pu (T' := T1) (g' := (mkF m 11 #[.val (.ref d), .val (.int (47 : Int32)), .val (.int (0 : Int32)), .val (.int (Int32.ofNat cs.length))] [(.int (0 : Int32)), (.int (0 : Int32))])) ?_ fun _ zk => XS.iconst H1.here hx rfl (hb hby d_jdk_43_m22_10) zk
  obtain ⟨_, T2, h2, H2, ⟨rfl, rfl⟩, -, st2⟩ := H1.callS (hw _ (List.mem_of_getElem? (i := 102) rfl)) (hw _ (List.mem_of_getElem? (i := 103) rfl)) (hw _ (List.mem_of_getElem? (i := 104) rfl)) (hw _ (List.mem_of_getElem? (i := 105) rfl)) (by decide) (MetN.pay (W := 0) (c_max l ⟨hw, SC0, hz0, SF1, rf1, SU2, SU3, SU4, SP, SN, XP, XN⟩  h0 H1.old) (hw _ (List.mem_of_getElem? (i := 105) rfl)) (hw _ (List.mem_of_getElem? (i := 104) rfl)) (by decide) (by decide)) (g := (mkF m 11 #[.val (.ref d), .val (.int (47 : Int32)), .val (.int (0 : Int32)), .val (.int (Int32.ofNat cs.length))] [(.int (0 : Int32)), (.int (0 : Int32))])) rfl (by rw [hml]; rfl) (argsL := [(.int (0 : Int32)), (.int (0 : Int32))]) (rest := []) (lenOf pd__II_I rfl) rfl rfl (Nat.le_of_eq rfl) (hb hby d_jdk_43_m22_11) (by decide) (by decide) all0
  refine Rn.pu (g' := (mkF m 14 #[.val (.ref d), .val (.int (47 : Int32)), .val (.int (0 : Int32)), .val (.int (Int32.ofNat cs.length))] [(.int (0 : Int32))])) ?_ st2
  refine Rn.pu (T' := T2) (g' := (mkF m 15 #[.val (.ref d), .val (.int (47 : Int32)), .val (.int (0 : Int32)), .val (.int (Int32.ofNat cs.length))] [])) ?_ fun _ zk => XS.istoreN H2.here hx rfl (hb hby d_jdk_43_m22_14) rfl (l' := #[.val (.ref d), .val (.int (47 : Int32)), .val (.int (0 : Int32)), .val (.int (Int32.ofNat cs.length))]) rfl zk
  refine Rn.pu (T' := T2) (g' := (mkF m 16 #[.val (.ref d), .val (.int (47 : Int32)), .val (.int (0 : Int32)), .val (.int (Int32.ofNat cs.length))] [(.int (Int32.ofNat cs.length))])) ?_ fun _ zk => XS.iloadN H2.here hx rfl (hb hby d_jdk_43_m22_15) rfl zk
  refine Rn.pu (T' := T2) (g' := (mkF m 17 #[.val (.ref d), .val (.int (47 : Int32)), .val (.int (0 : Int32)), .val (.int (Int32.ofNat cs.length))] [(.ref d), (.int (Int32.ofNat cs.length))])) ?_ fun _ zk => XS.aloadN H2.here hx rfl (hb hby d_jdk_43_m22_16) rfl rfl zk
  refine Rn.pu (g' := (mkF m 18 #[.val (.ref d), .val (.int (47 : Int32)), .val (.int (0 : Int32)), .val (.int (Int32.ofNat cs.length))] [(.int (Int32.ofNat cs.length)), (.int (Int32.ofNat cs.length))])) ?_ (H2.alen AD (g := (mkF m 17 #[.val (.ref d), .val (.int (47 : Int32)), .val (.int (0 : Int32)), .val (.int (Int32.ofNat cs.length))] [(.ref d), (.int (Int32.ofNat cs.length))])) rfl rfl (hb hby d_jdk_43_m22_17))
  obtain ⟨_, T3, h3, H3, ⟨rfl, rfl⟩, -, st3⟩ := H2.callS (hw _ (List.mem_of_getElem? (i := 106) rfl)) (hw _ (List.mem_of_getElem? (i := 107) rfl)) (hw _ (List.mem_of_getElem? (i := 104) rfl)) (hw _ (List.mem_of_getElem? (i := 108) rfl)) (by decide) (MetN.pay (W := 0) (c_min l ⟨hw, SC0, hz0, SF1, rf1, SU2, SU3, SU4, SP, SN, XP, XN⟩ (Int32.ofNat cs.length) h0 H2.old) (hw _ (List.mem_of_getElem? (i := 108) rfl)) (hw _ (List.mem_of_getElem? (i := 104) rfl)) (by decide) (by decide)) (g := (mkF m 18 #[.val (.ref d), .val (.int (47 : Int32)), .val (.int (0 : Int32)), .val (.int (Int32.ofNat cs.length))] [(.int (Int32.ofNat cs.length)), (.int (Int32.ofNat cs.length))])) rfl (by rw [hml]; rfl) (argsL := [(.int (Int32.ofNat cs.length)), (.int (Int32.ofNat cs.length))]) (rest := []) (lenOf pd__II_I rfl) rfl rfl (Nat.le_of_eq rfl) (hb hby d_jdk_43_m22_18) (by decide) (by decide) all0
  refine Rn.pu (g' := (mkF m 21 #[.val (.ref d), .val (.int (47 : Int32)), .val (.int (0 : Int32)), .val (.int (Int32.ofNat cs.length))] [(.int (Int32.ofNat cs.length))])) ?_ st3
  refine Rn.pu (T' := T3) (g' := (mkF m 22 #[.val (.ref d), .val (.int (47 : Int32)), .val (.int (0 : Int32)), .val (.int (Int32.ofNat cs.length))] [])) ?_ fun _ zk => XS.istoreN H3.here hx rfl (hb hby d_jdk_43_m22_21) rfl (l' := #[.val (.ref d), .val (.int (47 : Int32)), .val (.int (0 : Int32)), .val (.int (Int32.ofNat cs.length))]) rfl zk
  refine Rn.pu (T' := T3) (g' := (mkF m 23 #[.val (.ref d), .val (.int (47 : Int32)), .val (.int (0 : Int32)), .val (.int (Int32.ofNat cs.length))] [(.int (0 : Int32))])) ?_ fun _ zk => XS.iloadN H3.here hx rfl (hb hby d_jdk_43_m22_22) rfl zk
  refine Rn.pu (T' := T3) (g' := (mkF m 24 #[.val (.ref d), .val (.int (47 : Int32)), .val (.int (0 : Int32)), .val (.int (Int32.ofNat cs.length))] [(.int (Int32.ofNat cs.length)), (.int (0 : Int32))])) ?_ fun _ zk => XS.iloadN H3.here hx rfl (hb hby d_jdk_43_m22_23) rfl zk
  refine Rn.pu (T' := T3) (g' := (mkF m 29 #[.val (.ref d), .val (.int (47 : Int32)), .val (.int (0 : Int32)), .val (.int (Int32.ofNat cs.length))] [])) ?_ fun _ zk => XS.icmpYes H3.here hx rfl (pc0 := 24) (pc' := 29) rfl (hb hby d_jdk_43_m22_24) rfl (c_lt_t (u_lt (i := 0) h1 (by omega))) (by decide) (by decide) zk
  refine Rn.pu (T' := T3) (g' := (mkF m 30 #[.val (.ref d), .val (.int (47 : Int32)), .val (.int (0 : Int32)), .val (.int (Int32.ofNat cs.length))] [(.ref d)])) ?_ fun _ zk => XS.aloadN H3.here hx rfl (hb hby d_jdk_43_m22_29) rfl rfl zk
  refine Rn.pu (T' := T3) (g' := (mkF m 31 #[.val (.ref d), .val (.int (47 : Int32)), .val (.int (0 : Int32)), .val (.int (Int32.ofNat cs.length))] [(.int (47 : Int32)), (.ref d)])) ?_ fun _ zk => XS.iloadN H3.here hx rfl (hb hby d_jdk_43_m22_30) rfl zk
  refine Rn.pu (T' := T3) (g' := (mkF m 32 #[.val (.ref d), .val (.int (47 : Int32)), .val (.int (0 : Int32)), .val (.int (Int32.ofNat cs.length))] [(.int (0 : Int32)), (.int (47 : Int32)), (.ref d)])) ?_ fun _ zk => XS.iloadN H3.here hx rfl (hb hby d_jdk_43_m22_31) rfl zk
  refine Rn.pu (T' := T3) (g' := (mkF m 33 #[.val (.ref d), .val (.int (47 : Int32)), .val (.int (0 : Int32)), .val (.int (Int32.ofNat cs.length))] [(.int (Int32.ofNat cs.length)), (.int (0 : Int32)), (.int (47 : Int32)), (.ref d)])) ?_ fun _ zk => XS.iloadN H3.here hx rfl (hb hby d_jdk_43_m22_32) rfl zk
  obtain ⟨_, T4, h4, H4, ⟨rfl, rfl⟩, -, st4⟩ := H3.callS (hw _ (List.mem_of_getElem? (i := 109) rfl)) (hw _ (List.mem_of_getElem? (i := 110) rfl)) (hw _ (List.mem_of_getElem? (i := 97) rfl)) (hw _ (List.mem_of_getElem? (i := 111) rfl)) (by decide) (MetN.pay (W := 0) (c_lic l ⟨hw, SC0, hz0, SF1, rf1, SU2, SU3, SU4, SP, SN, XP, XN⟩ d kB cs h0 H3.old hn hl he AD) (hw _ (List.mem_of_getElem? (i := 111) rfl)) (hw _ (List.mem_of_getElem? (i := 97) rfl)) (by decide) (by decide)) (g := (mkF m 33 #[.val (.ref d), .val (.int (47 : Int32)), .val (.int (0 : Int32)), .val (.int (Int32.ofNat cs.length))] [(.int (Int32.ofNat cs.length)), (.int (0 : Int32)), (.int (47 : Int32)), (.ref d)])) rfl (by rw [hml]; rfl) (argsL := [(.ref d), (.int (47 : Int32)), (.int (0 : Int32)), (.int (Int32.ofNat cs.length))]) (rest := []) (lenOf pd__ABIII_I rfl) rfl rfl (Nat.le_of_eq rfl) (hb hby d_jdk_43_m22_33) (by decide) (by decide) all0
  refine Rn.pu (g' := (mkF m 36 #[.val (.ref d), .val (.int (47 : Int32)), .val (.int (0 : Int32)), .val (.int (Int32.ofNat cs.length))] [(.int (-1 : Int32))])) ?_ st4
  exact H4.retI ends_N hlk hret (hb hby d_jdk_43_m22_36) (by decide) (by decide) (fun _ q => nomatch q) ⟨rfl, rfl⟩
set_option maxRecDepth 65536 in
set_option maxHeartbeats 40000000 in
theorem c_ulen (l : Launch) {Z : State} {a0 : Array Value} {zc : Int32} {fm : Value} {aP : Addr} {aN : Addr} (B : Base Z a0 zc fm aP aN) (d : Addr) (kB : ClassId) (vs : List Value) (cs : List Int32) (h0 : Heap) (O : Ext Z.heap h0) (hn : cs.length ≤ 2) (AD : Arv Z h0 d kB .byte (Int32.ofNat (2 * cs.length)) vs (.int 0)) :
    MetN l Z (⟨"java/lang/StringUTF16", "length", "([B)I"⟩ : MethodName) jdk_52_method_6_code 1 (some .int) [] ({ frames := 0, cells := 0, slots := 0, locals := 0 } : Room) #[(.ref d)] h0 [] (fun v h => v = some (.int (Int32.ofNat cs.length)) ∧ h0 = h) := by
  obtain ⟨hw, SC0, hz0, SF1, rf1, SU2, SU3, SU4, SP, SN, XP, XN⟩ := B
  refine MetN.mk (plainFor_of_name pn_java_lang_StringUTF16) (fun m => ef_c_ulen m d) O ?_
  intro p e s m below meth c T0 hx hby hml hret hlk hnm hsh H0
  have zs : s.heap.size = h0.size := by rw [hsh]
  refine Rn.pu (T' := T0) (g' := (mkF m 1 #[.val (.ref d)] [(.ref d)])) ?_ fun _ zk => XS.aloadN H0.here hx rfl (hb hby d_jdk_52_m6_0) rfl rfl zk
  refine Rn.pu (g' := (mkF m 2 #[.val (.ref d)] [(.int (Int32.ofNat (2 * cs.length)))])) ?_ (H0.alen AD (g := (mkF m 1 #[.val (.ref d)] [(.ref d)])) rfl rfl (hb hby d_jdk_52_m6_1))
  refine Rn.pu (T' := T0) (g' := (mkF m 3 #[.val (.ref d)] [(.int (1 : Int32)), (.int (Int32.ofNat (2 * cs.length)))])) ?_ fun _ zk => XS.iconst H0.here hx rfl (hb hby d_jdk_52_m6_2) zk
  refine Rn.pu (T' := T0) (g' := (mkF m 4 #[.val (.ref d)] [(.int ((Int32.ofNat (2 * cs.length)) >>> ((1 : Int32) &&& 31)))])) ?_ fun _ zk => XT.ishr H0.here hx rfl (hb hby d_jdk_52_m6_3) rfl zk
  exact H0.retI ends_N hlk hret (hb hby d_jdk_52_m6_4) (by decide) (by decide) (fun _ q => nomatch q) ⟨by rw [StrChars.shr1 (by omega)], rfl⟩
set_option maxRecDepth 65536 in
set_option maxHeartbeats 40000000 in
theorem c_pcfN (l : Launch) {Z : State} {a0 : Array Value} {zc : Int32} {fm : Value} {aP : Addr} {aN : Addr} (B : Base Z a0 zc fm aP aN) (n : Nat) (h0 : Heap) (O : Ext Z.heap h0) (hn : n ≤ 8000) :
    MetN l Z (⟨"jdk/internal/util/Preconditions", "checkFromToIndex", "(IIILjava/util/function/BiFunction;)I"⟩ : MethodName) jdk_41_method_12_code 4 (some .int) [] ({ frames := 0, cells := 0, slots := 0, locals := 0 } : Room) #[(.int (0 : Int32)), (.int (Int32.ofNat n)), (.int (Int32.ofNat n)), .null] h0 [] (fun v h => v = some (.int 0) ∧ h0 = h) := by
  obtain ⟨hw, SC0, hz0, SF1, rf1, SU2, SU3, SU4, SP, SN, XP, XN⟩ := B
  refine MetN.mk (plainFor_of_name pn_jdk_internal_util_Preconditions) (fun m => ef_c_pcfN m (0 : Int32) (Int32.ofNat n) (Int32.ofNat n)) O ?_
  intro p e s m below meth c T0 hx hby hml hret hlk hnm hsh H0
  have zs : s.heap.size = h0.size := by rw [hsh]
  refine Rn.pu (T' := T0) (g' := (mkF m 1 #[.val (.int (0 : Int32)), .val (.int (Int32.ofNat n)), .val (.int (Int32.ofNat n)), .val .null] [(.int (0 : Int32))])) ?_ fun _ zk => XS.iloadN H0.here hx rfl (hb hby d_jdk_41_m12_0) rfl zk
  refine Rn.pu (T' := T0) (g' := (mkF m 4 #[.val (.int (0 : Int32)), .val (.int (Int32.ofNat n)), .val (.int (Int32.ofNat n)), .val .null] [])) ?_ fun _ zk => XS.ifNo H0.here hx rfl (hb hby d_jdk_41_m12_1) rfl (z_lt_f (by decide)) zk
  refine Rn.pu (T' := T0) (g' := (mkF m 5 #[.val (.int (0 : Int32)), .val (.int (Int32.ofNat n)), .val (.int (Int32.ofNat n)), .val .null] [(.int (0 : Int32))])) ?_ fun _ zk => XS.iloadN H0.here hx rfl (hb hby d_jdk_41_m12_4) rfl zk
  refine Rn.pu (T' := T0) (g' := (mkF m 6 #[.val (.int (0 : Int32)), .val (.int (Int32.ofNat n)), .val (.int (Int32.ofNat n)), .val .null] [(.int (Int32.ofNat n)), (.int (0 : Int32))])) ?_ fun _ zk => XS.iloadN H0.here hx rfl (hb hby d_jdk_41_m12_5) rfl zk
  refine Rn.pu (T' := T0) (g' := (mkF m 9 #[.val (.int (0 : Int32)), .val (.int (Int32.ofNat n)), .val (.int (Int32.ofNat n)), .val .null] [])) ?_ fun _ zk => XS.icmpNo H0.here hx rfl (hb hby d_jdk_41_m12_6) rfl (c_gt_f (u_nn hn)) zk
  refine Rn.pu (T' := T0) (g' := (mkF m 10 #[.val (.int (0 : Int32)), .val (.int (Int32.ofNat n)), .val (.int (Int32.ofNat n)), .val .null] [(.int (Int32.ofNat n))])) ?_ fun _ zk => XS.iloadN H0.here hx rfl (hb hby d_jdk_41_m12_9) rfl zk
  refine Rn.pu (T' := T0) (g' := (mkF m 11 #[.val (.int (0 : Int32)), .val (.int (Int32.ofNat n)), .val (.int (Int32.ofNat n)), .val .null] [(.int (Int32.ofNat n)), (.int (Int32.ofNat n))])) ?_ fun _ zk => XS.iloadN H0.here hx rfl (hb hby d_jdk_41_m12_10) rfl zk
  refine Rn.pu (T' := T0) (g' := (mkF m 22 #[.val (.int (0 : Int32)), .val (.int (Int32.ofNat n)), .val (.int (Int32.ofNat n)), .val .null] [])) ?_ fun _ zk => XS.icmpYes H0.here hx rfl (pc0 := 11) (pc' := 22) rfl (hb hby d_jdk_41_m12_11) rfl (c_le_t u_nlt) (by decide) (by decide) zk
  refine Rn.pu (T' := T0) (g' := (mkF m 23 #[.val (.int (0 : Int32)), .val (.int (Int32.ofNat n)), .val (.int (Int32.ofNat n)), .val .null] [(.int (0 : Int32))])) ?_ fun _ zk => XS.iloadN H0.here hx rfl (hb hby d_jdk_41_m12_22) rfl zk
  exact H0.retI ends_N hlk hret (hb hby d_jdk_41_m12_23) (by decide) (by decide) (fun _ q => nomatch q) ⟨rfl, rfl⟩
set_option maxRecDepth 65536 in
set_option maxHeartbeats 40000000 in
theorem c_pcfR (l : Launch) {Z : State} {a0 : Array Value} {zc : Int32} {fm : Value} {aP : Addr} {aN : Addr} (B : Base Z a0 zc fm aP aN) (n : Nat) (fr : Addr) (h0 : Heap) (O : Ext Z.heap h0) (hn : n ≤ 8000) :
    MetN l Z (⟨"jdk/internal/util/Preconditions", "checkFromToIndex", "(IIILjava/util/function/BiFunction;)I"⟩ : MethodName) jdk_41_method_12_code 4 (some .int) [] ({ frames := 0, cells := 0, slots := 0, locals := 0 } : Room) #[(.int (0 : Int32)), (.int (Int32.ofNat n)), (.int (Int32.ofNat n)), (.ref fr)] h0 [] (fun v h => v = some (.int 0) ∧ h0 = h) := by
  obtain ⟨hw, SC0, hz0, SF1, rf1, SU2, SU3, SU4, SP, SN, XP, XN⟩ := B
  refine MetN.mk (plainFor_of_name pn_jdk_internal_util_Preconditions) (fun m => ef_c_pcfR m (0 : Int32) (Int32.ofNat n) (Int32.ofNat n) fr) O ?_
  intro p e s m below meth c T0 hx hby hml hret hlk hnm hsh H0
  have zs : s.heap.size = h0.size := by rw [hsh]
  refine Rn.pu (T' := T0) (g' := (mkF m 1 #[.val (.int (0 : Int32)), .val (.int (Int32.ofNat n)), .val (.int (Int32.ofNat n)), .val (.ref fr)] [(.int (0 : Int32))])) ?_ fun _ zk => XS.iloadN H0.here hx rfl (hb hby d_jdk_41_m12_0) rfl zk
  refine Rn.pu (T' := T0) (g' := (mkF m 4 #[.val (.int (0 : Int32)), .val (.int (Int32.ofNat n)), .val (.int (Int32.ofNat n)), .val (.ref fr)] [])) ?_ fun _ zk => XS.ifNo H0.here hx rfl (hb hby d_jdk_41_m12_1) rfl (z_lt_f (by decide)) zk
  refine Rn.pu (T' := T0) (g' := (mkF m 5 #[.val (.int (0 : Int32)), .val (.int (Int32.ofNat n)), .val (.int (Int32.ofNat n)), .val (.ref fr)] [(.int (0 : Int32))])) ?_ fun _ zk => XS.iloadN H0.here hx rfl (hb hby d_jdk_41_m12_4) rfl zk
  refine Rn.pu (T' := T0) (g' := (mkF m 6 #[.val (.int (0 : Int32)), .val (.int (Int32.ofNat n)), .val (.int (Int32.ofNat n)), .val (.ref fr)] [(.int (Int32.ofNat n)), (.int (0 : Int32))])) ?_ fun _ zk => XS.iloadN H0.here hx rfl (hb hby d_jdk_41_m12_5) rfl zk
  refine Rn.pu (T' := T0) (g' := (mkF m 9 #[.val (.int (0 : Int32)), .val (.int (Int32.ofNat n)), .val (.int (Int32.ofNat n)), .val (.ref fr)] [])) ?_ fun _ zk => XS.icmpNo H0.here hx rfl (hb hby d_jdk_41_m12_6) rfl (c_gt_f (u_nn hn)) zk
  refine Rn.pu (T' := T0) (g' := (mkF m 10 #[.val (.int (0 : Int32)), .val (.int (Int32.ofNat n)), .val (.int (Int32.ofNat n)), .val (.ref fr)] [(.int (Int32.ofNat n))])) ?_ fun _ zk => XS.iloadN H0.here hx rfl (hb hby d_jdk_41_m12_9) rfl zk
  refine Rn.pu (T' := T0) (g' := (mkF m 11 #[.val (.int (0 : Int32)), .val (.int (Int32.ofNat n)), .val (.int (Int32.ofNat n)), .val (.ref fr)] [(.int (Int32.ofNat n)), (.int (Int32.ofNat n))])) ?_ fun _ zk => XS.iloadN H0.here hx rfl (hb hby d_jdk_41_m12_10) rfl zk
  refine Rn.pu (T' := T0) (g' := (mkF m 22 #[.val (.int (0 : Int32)), .val (.int (Int32.ofNat n)), .val (.int (Int32.ofNat n)), .val (.ref fr)] [])) ?_ fun _ zk => XS.icmpYes H0.here hx rfl (pc0 := 11) (pc' := 22) rfl (hb hby d_jdk_41_m12_11) rfl (c_le_t u_nlt) (by decide) (by decide) zk
  refine Rn.pu (T' := T0) (g' := (mkF m 23 #[.val (.int (0 : Int32)), .val (.int (Int32.ofNat n)), .val (.int (Int32.ofNat n)), .val (.ref fr)] [(.int (0 : Int32))])) ?_ fun _ zk => XS.iloadN H0.here hx rfl (hb hby d_jdk_41_m12_22) rfl zk
  exact H0.retI ends_N hlk hret (hb hby d_jdk_41_m12_23) (by decide) (by decide) (fun _ q => nomatch q) ⟨rfl, rfl⟩
set_option maxRecDepth 65536 in
set_option maxHeartbeats 40000000 in
theorem c_sbb (l : Launch) {Z : State} {a0 : Array Value} {zc : Int32} {fm : Value} {aP : Addr} {aN : Addr} (B : Base Z a0 zc fm aP aN) (n : Nat) (h0 : Heap) (O : Ext Z.heap h0) (hn : n ≤ 8000) :
    MetN l Z (⟨"java/lang/String", "checkBoundsBeginEnd", "(III)V"⟩ : MethodName) jdk_42_method_158_code 3 none [] ({ frames := 1, cells := 0, slots := 0, locals := 15 } : Room) #[(.int (0 : Int32)), (.int (Int32.ofNat n)), (.int (Int32.ofNat n))] h0 [] (fun v h => v = none ∧ h0 = h) := by
  obtain ⟨hw, SC0, hz0, SF1, rf1, SU2, SU3, SU4, SP, SN, XP, XN⟩ := B
  refine MetN.mk (plainFor_of_name pn_java_lang_String) (fun m => ef_c_sbb m (0 : Int32) (Int32.ofNat n) (Int32.ofNat n)) O ?_
  intro p e s m below meth c T0 hx hby hml hret hlk hnm hsh H0
  have zs : s.heap.size = h0.size := by rw [hsh]
  rcases u_ref rf1 with rfl | ⟨fr, rfl⟩
  ·
    refine Rn.pu (T' := T0) (g' := (mkF m 1 #[.val (.int (0 : Int32)), .val (.int (Int32.ofNat n)), .val (.int (Int32.ofNat n))] [(.int (0 : Int32))])) ?_ fun _ zk => XS.iloadN H0.here hx rfl (hb hby d_jdk_42_m158_0) rfl zk
    refine Rn.pu (T' := T0) (g' := (mkF m 2 #[.val (.int (0 : Int32)), .val (.int (Int32.ofNat n)), .val (.int (Int32.ofNat n))] [(.int (Int32.ofNat n)), (.int (0 : Int32))])) ?_ fun _ zk => XS.iloadN H0.here hx rfl (hb hby d_jdk_42_m158_1) rfl zk
    refine Rn.pu (T' := T0) (g' := (mkF m 3 #[.val (.int (0 : Int32)), .val (.int (Int32.ofNat n)), .val (.int (Int32.ofNat n))] [(.int (Int32.ofNat n)), (.int (Int32.ofNat n)), (.int (0 : Int32))])) ?_ fun _ zk => XS.iloadN H0.here hx rfl (hb hby d_jdk_42_m158_2) rfl zk
    obtain ⟨T1, H1, st1⟩ := H0.getS (host := "") (Or.inl (hw _ (List.mem_of_getElem? (i := 194) rfl))) Via.refl (SF1.ext H0.old) (g := (mkF m 3 #[.val (.int (0 : Int32)), .val (.int (Int32.ofNat n)), .val (.int (Int32.ofNat n))] [(.int (Int32.ofNat n)), (.int (Int32.ofNat n)), (.int (0 : Int32))])) rfl (hb hby d_jdk_42_m158_3)
    refine Rn.pu (g' := (mkF m 6 #[.val (.int (0 : Int32)), .val (.int (Int32.ofNat n)), .val (.int (Int32.ofNat n))] [.null, (.int (Int32.ofNat n)), (.int (Int32.ofNat n)), (.int (0 : Int32))])) ?_ st1
    obtain ⟨_, T2, h2, H2, ⟨rfl, rfl⟩, -, st2⟩ := H1.callS (hw _ (List.mem_of_getElem? (i := 196) rfl)) (hw _ (List.mem_of_getElem? (i := 197) rfl)) (hw _ (List.mem_of_getElem? (i := 195) rfl)) (hw _ (List.mem_of_getElem? (i := 198) rfl)) (by decide) (MetN.pay (W := 0) (c_pcfN l ⟨hw, SC0, hz0, SF1, rf1, SU2, SU3, SU4, SP, SN, XP, XN⟩ n h0 H1.old hn) (hw _ (List.mem_of_getElem? (i := 198) rfl)) (hw _ (List.mem_of_getElem? (i := 195) rfl)) (by decide) (by decide)) (g := (mkF m 6 #[.val (.int (0 : Int32)), .val (.int (Int32.ofNat n)), .val (.int (Int32.ofNat n))] [.null, (.int (Int32.ofNat n)), (.int (Int32.ofNat n)), (.int (0 : Int32))])) rfl (by rw [hml]; rfl) (argsL := [(.int (0 : Int32)), (.int (Int32.ofNat n)), (.int (Int32.ofNat n)), .null]) (rest := []) (lenOf pd__IIILjava_util_function_BiFunction__I rfl) rfl rfl (Nat.le_of_eq rfl) (hb hby d_jdk_42_m158_6) (by decide) (by decide) all0
    refine Rn.pu (g' := (mkF m 9 #[.val (.int (0 : Int32)), .val (.int (Int32.ofNat n)), .val (.int (Int32.ofNat n))] [(.int (0 : Int32))])) ?_ st2
    refine Rn.pu (T' := T2) (g' := (mkF m 10 #[.val (.int (0 : Int32)), .val (.int (Int32.ofNat n)), .val (.int (Int32.ofNat n))] [])) ?_ fun _ zk => XT.pop H2.here hx rfl (hb hby d_jdk_42_m158_9) rfl rfl zk
    exact H2.retV ends_N hlk hret (hb hby d_jdk_42_m158_10) (by decide) (by decide) (fun _ q => nomatch q) ⟨rfl, rfl⟩
  ·
    refine Rn.pu (T' := T0) (g' := (mkF m 1 #[.val (.int (0 : Int32)), .val (.int (Int32.ofNat n)), .val (.int (Int32.ofNat n))] [(.int (0 : Int32))])) ?_ fun _ zk => XS.iloadN H0.here hx rfl (hb hby d_jdk_42_m158_0) rfl zk
    refine Rn.pu (T' := T0) (g' := (mkF m 2 #[.val (.int (0 : Int32)), .val (.int (Int32.ofNat n)), .val (.int (Int32.ofNat n))] [(.int (Int32.ofNat n)), (.int (0 : Int32))])) ?_ fun _ zk => XS.iloadN H0.here hx rfl (hb hby d_jdk_42_m158_1) rfl zk
    refine Rn.pu (T' := T0) (g' := (mkF m 3 #[.val (.int (0 : Int32)), .val (.int (Int32.ofNat n)), .val (.int (Int32.ofNat n))] [(.int (Int32.ofNat n)), (.int (Int32.ofNat n)), (.int (0 : Int32))])) ?_ fun _ zk => XS.iloadN H0.here hx rfl (hb hby d_jdk_42_m158_2) rfl zk
    obtain ⟨T3, H3, st3⟩ := H0.getS (host := "") (Or.inl (hw _ (List.mem_of_getElem? (i := 194) rfl))) Via.refl (SF1.ext H0.old) (g := (mkF m 3 #[.val (.int (0 : Int32)), .val (.int (Int32.ofNat n)), .val (.int (Int32.ofNat n))] [(.int (Int32.ofNat n)), (.int (Int32.ofNat n)), (.int (0 : Int32))])) rfl (hb hby d_jdk_42_m158_3)
    refine Rn.pu (g' := (mkF m 6 #[.val (.int (0 : Int32)), .val (.int (Int32.ofNat n)), .val (.int (Int32.ofNat n))] [(.ref fr), (.int (Int32.ofNat n)), (.int (Int32.ofNat n)), (.int (0 : Int32))])) ?_ st3
    obtain ⟨_, T4, h4, H4, ⟨rfl, rfl⟩, -, st4⟩ := H3.callS (hw _ (List.mem_of_getElem? (i := 196) rfl)) (hw _ (List.mem_of_getElem? (i := 197) rfl)) (hw _ (List.mem_of_getElem? (i := 195) rfl)) (hw _ (List.mem_of_getElem? (i := 198) rfl)) (by decide) (MetN.pay (W := 0) (c_pcfR l ⟨hw, SC0, hz0, SF1, rf1, SU2, SU3, SU4, SP, SN, XP, XN⟩ n fr h0 H3.old hn) (hw _ (List.mem_of_getElem? (i := 198) rfl)) (hw _ (List.mem_of_getElem? (i := 195) rfl)) (by decide) (by decide)) (g := (mkF m 6 #[.val (.int (0 : Int32)), .val (.int (Int32.ofNat n)), .val (.int (Int32.ofNat n))] [(.ref fr), (.int (Int32.ofNat n)), (.int (Int32.ofNat n)), (.int (0 : Int32))])) rfl (by rw [hml]; rfl) (argsL := [(.int (0 : Int32)), (.int (Int32.ofNat n)), (.int (Int32.ofNat n)), (.ref fr)]) (rest := []) (lenOf pd__IIILjava_util_function_BiFunction__I rfl) rfl rfl (Nat.le_of_eq rfl) (hb hby d_jdk_42_m158_6) (by decide) (by decide) all0
    refine Rn.pu (g' := (mkF m 9 #[.val (.int (0 : Int32)), .val (.int (Int32.ofNat n)), .val (.int (Int32.ofNat n))] [(.int (0 : Int32))])) ?_ st4
    refine Rn.pu (T' := T4) (g' := (mkF m 10 #[.val (.int (0 : Int32)), .val (.int (Int32.ofNat n)), .val (.int (Int32.ofNat n))] [])) ?_ fun _ zk => XT.pop H4.here hx rfl (hb hby d_jdk_42_m158_9) rfl rfl zk
    exact H4.retV ends_N hlk hret (hb hby d_jdk_42_m158_10) (by decide) (by decide) (fun _ q => nomatch q) ⟨rfl, rfl⟩
set_option maxRecDepth 65536 in
set_option maxHeartbeats 40000000 in
theorem c_ubb (l : Launch) {Z : State} {a0 : Array Value} {zc : Int32} {fm : Value} {aP : Addr} {aN : Addr} (B : Base Z a0 zc fm aP aN) (d : Addr) (kB : ClassId) (cs : List Int32) (h0 : Heap) (O : Ext Z.heap h0) (hn : cs.length ≤ 2) (AD : Arv Z h0 d kB .byte (Int32.ofNat (2 * cs.length)) (StrChars.Road.wideBytes cs) (.int 0)) :
    MetN l Z (⟨"java/lang/StringUTF16", "checkBoundsBeginEnd", "(II[B)V"⟩ : MethodName) jdk_52_method_93_code 3 none [] ({ frames := 2, cells := 0, slots := 0, locals := 29 } : Room) #[(.int (0 : Int32)), (.int (Int32.ofNat cs.length)), (.ref d)] h0 [] (fun v h => v = none ∧ h0 = h) := by
  obtain ⟨hw, SC0, hz0, SF1, rf1, SU2, SU3, SU4, SP, SN, XP, XN⟩ := B
  refine MetN.mk (plainFor_of_name pn_java_lang_StringUTF16) (fun m => ef_c_ubb m (0 : Int32) (Int32.ofNat cs.length) d) O ?_
  intro p e s m below meth c T0 hx hby hml hret hlk hnm hsh H0
  have zs : s.heap.size = h0.size := by rw [hsh]
  refine Rn.pu (T' := T0) (g' := (mkF m 1 #[.val (.int (0 : Int32)), .val (.int (Int32.ofNat cs.length)), .val (.ref d)] [(.int (0 : Int32))])) ?_ fun _ zk => XS.iloadN H0.here hx rfl (hb hby d_jdk_52_m93_0) rfl zk
  refine Rn.pu (T' := T0) (g' := (mkF m 2 #[.val (.int (0 : Int32)), .val (.int (Int32.ofNat cs.length)), .val (.ref d)] [(.int (Int32.ofNat cs.length)), (.int (0 : Int32))])) ?_ fun _ zk => XS.iloadN H0.here hx rfl (hb hby d_jdk_52_m93_1) rfl zk
  refine Rn.pu (T' := T0) (g' := (mkF m 3 #[.val (.int (0 : Int32)), .val (.int (Int32.ofNat cs.length)), .val (.ref d)] [(.ref d), (.int (Int32.ofNat cs.length)), (.int (0 : Int32))])) ?_ fun _ zk => XS.aloadN H0.here hx rfl (hb hby d_jdk_52_m93_2) rfl rfl zk
  obtain ⟨_, T1, h1, H1, ⟨rfl, rfl⟩, -, st1⟩ := H0.callS (hw _ (List.mem_of_getElem? (i := 188) rfl)) (hw _ (List.mem_of_getElem? (i := 189) rfl)) (hw _ (List.mem_of_getElem? (i := 24) rfl)) (hw _ (List.mem_of_getElem? (i := 190) rfl)) (by decide) (MetN.pay (W := 2) (c_ulen l ⟨hw, SC0, hz0, SF1, rf1, SU2, SU3, SU4, SP, SN, XP, XN⟩ d kB _ cs h0 H0.old hn AD) (hw _ (List.mem_of_getElem? (i := 190) rfl)) (hw _ (List.mem_of_getElem? (i := 24) rfl)) (by decide) (by decide)) (g := (mkF m 3 #[.val (.int (0 : Int32)), .val (.int (Int32.ofNat cs.length)), .val (.ref d)] [(.ref d), (.int (Int32.ofNat cs.length)), (.int (0 : Int32))])) rfl (by rw [hml]; rfl) (argsL := [(.ref d)]) (rest := [(.int (Int32.ofNat cs.length)), (.int (0 : Int32))]) (lenOf pd__AB_I rfl) rfl rfl (Nat.le_of_eq rfl) (hb hby d_jdk_52_m93_3) (by decide) (by decide) all0
  refine Rn.pu (g' := (mkF m 6 #[.val (.int (0 : Int32)), .val (.int (Int32.ofNat cs.length)), .val (.ref d)] [(.int (Int32.ofNat cs.length)), (.int (Int32.ofNat cs.length)), (.int (0 : Int32))])) ?_ st1
  obtain ⟨_, T2, h2, H2, ⟨rfl, rfl⟩, -, st2⟩ := H1.callS (hw _ (List.mem_of_getElem? (i := 191) rfl)) (hw _ (List.mem_of_getElem? (i := 192) rfl)) (hw _ (List.mem_of_getElem? (i := 10) rfl)) (hw _ (List.mem_of_getElem? (i := 193) rfl)) (by decide) (MetN.pay (W := 0) (c_sbb l ⟨hw, SC0, hz0, SF1, rf1, SU2, SU3, SU4, SP, SN, XP, XN⟩ cs.length h0 H1.old (by omega)) (hw _ (List.mem_of_getElem? (i := 193) rfl)) (hw _ (List.mem_of_getElem? (i := 10) rfl)) (by decide) (by decide)) (g := (mkF m 6 #[.val (.int (0 : Int32)), .val (.int (Int32.ofNat cs.length)), .val (.ref d)] [(.int (Int32.ofNat cs.length)), (.int (Int32.ofNat cs.length)), (.int (0 : Int32))])) rfl (by rw [hml]; rfl) (argsL := [(.int (0 : Int32)), (.int (Int32.ofNat cs.length)), (.int (Int32.ofNat cs.length))]) (rest := []) (lenOf pd__III_V rfl) rfl rfl (Nat.le_of_eq rfl) (hb hby d_jdk_52_m93_6) (by decide) (by decide) all0
  refine Rn.pu (g' := (mkF m 9 #[.val (.int (0 : Int32)), .val (.int (Int32.ofNat cs.length)), .val (.ref d)] [])) ?_ st2
  exact H2.retV ends_N hlk hret (hb hby d_jdk_52_m93_9) (by decide) (by decide) (fun _ q => nomatch q) ⟨rfl, rfl⟩
set_option maxRecDepth 65536 in
set_option maxHeartbeats 40000000 in
theorem c_uiu (l : Launch) {Z : State} {a0 : Array Value} {zc : Int32} {fm : Value} {aP : Addr} {aN : Addr} (B : Base Z a0 zc fm aP aN) (d : Addr) (kB : ClassId) (cs : List Int32) (h0 : Heap) (O : Ext Z.heap h0) (hn : cs.length ≤ 2) (hc : ∀ c ∈ cs, ¬ c < 0 ∧ ¬ (65535 : Int32) < c) (he : ∀ c ∈ cs, ¬ c = 47) (AD : Arv Z h0 d kB .byte (Int32.ofNat (2 * cs.length)) (StrChars.Road.wideBytes cs) (.int 0)) :
    MetN l Z (⟨"java/lang/StringUTF16", "indexOfCharUnsafe", "([BIII)I"⟩ : MethodName) jdk_52_method_48_code 5 (some .int) [] ({ frames := 1, cells := 0, slots := 0, locals := 13 } : Room) #[(.ref d), (.int (47 : Int32)), (.int (0 : Int32)), (.int (Int32.ofNat cs.length))] h0 [] (fun v h => v = some (.int (-1)) ∧ h0 = h) := by
  obtain ⟨hw, SC0, hz0, SF1, rf1, SU2, SU3, SU4, SP, SN, XP, XN⟩ := B
  refine MetN.mk (plainFor_of_name pn_java_lang_StringUTF16) (fun m => ef_c_uiu m d (47 : Int32) (0 : Int32) (Int32.ofNat cs.length)) O ?_
  intro p e s m below meth c T0 hx hby hml hret hlk hnm hsh H0
  have zs : s.heap.size = h0.size := by rw [hsh]
  refine Rn.pu (T' := T0) (g' := (mkF m 1 #[.val (.ref d), .val (.int (47 : Int32)), .val (.int (0 : Int32)), .val (.int (Int32.ofNat cs.length)), .unset] [(.int (0 : Int32))])) ?_ fun _ zk => XS.iloadN H0.here hx rfl (hb hby d_jdk_52_m48_0) rfl zk
  refine Rn.pu (T' := T0) (g' := (mkF m 3 #[.val (.ref d), .val (.int (47 : Int32)), .val (.int (0 : Int32)), .val (.int (Int32.ofNat cs.length)), .val (.int (0 : Int32))] [])) ?_ fun _ zk => XS.istore H0.here hx rfl (hb hby d_jdk_52_m48_1) rfl (l' := #[.val (.ref d), .val (.int (47 : Int32)), .val (.int (0 : Int32)), .val (.int (Int32.ofNat cs.length)), .val (.int (0 : Int32))]) rfl zk
  have LP : ∀ (k i : Nat) (T : State), i + k = cs.length → Hs p l e ({ frames := 1, cells := 0, slots := 0, locals := 13 } : Room) s m #[(.ref d), (.int (47 : Int32)), (.int (0 : Int32)), (.int (Int32.ofNat cs.length))] below meth c Z "java/lang/StringUTF16" [] (fun v => v = s.vm) T h0 0 0 → Rn p e below s FrameEnd [] (({ frames := 1, cells := 0, slots := 0, locals := 13 } : Room)).cells (({ frames := 1, cells := 0, slots := 0, locals := 13 } : Room)).slots (fun v _ h => v = some (.int (-1)) ∧ h0 = h) T (mkF m 3 #[.val (.ref d), .val (.int 47), .val (.int 0), .val (.int (Int32.ofNat cs.length)), .val (.int (Int32.ofNat i))] []) := by
    intro k
    induction k with
    | zero =>
      intro i T hi HL
      obtain rfl : i = cs.length := by omega
      refine Rn.pu (T' := T) (g' := (mkF m 5 #[.val (.ref d), .val (.int (47 : Int32)), .val (.int (0 : Int32)), .val (.int (Int32.ofNat cs.length)), .val (.int (Int32.ofNat cs.length))] [(.int (Int32.ofNat cs.length))])) ?_ fun _ zk => XS.iload HL.here hx rfl (hb hby d_jdk_52_m48_3) rfl zk
      refine Rn.pu (T' := T) (g' := (mkF m 6 #[.val (.ref d), .val (.int (47 : Int32)), .val (.int (0 : Int32)), .val (.int (Int32.ofNat cs.length)), .val (.int (Int32.ofNat cs.length))] [(.int (Int32.ofNat cs.length)), (.int (Int32.ofNat cs.length))])) ?_ fun _ zk => XS.iloadN HL.here hx rfl (hb hby d_jdk_52_m48_5) rfl zk
      refine Rn.pu (T' := T) (g' := (mkF m 28 #[.val (.ref d), .val (.int (47 : Int32)), .val (.int (0 : Int32)), .val (.int (Int32.ofNat cs.length)), .val (.int (Int32.ofNat cs.length))] [])) ?_ fun _ zk => XS.icmpYes HL.here hx rfl (pc0 := 6) (pc' := 28) rfl (hb hby d_jdk_52_m48_6) rfl (c_ge_t u_nlt) (by decide) (by decide) zk
      refine Rn.pu (T' := T) (g' := (mkF m 29 #[.val (.ref d), .val (.int (47 : Int32)), .val (.int (0 : Int32)), .val (.int (Int32.ofNat cs.length)), .val (.int (Int32.ofNat cs.length))] [(.int (-1 : Int32))])) ?_ fun _ zk => XS.iconst HL.here hx rfl (hb hby d_jdk_52_m48_28) zk
      exact HL.retI ends_N hlk hret (hb hby d_jdk_52_m48_29) (by decide) (by decide) (fun _ q => nomatch q) ⟨rfl, rfl⟩
    | succ k ih =>
      intro i T hi HL
      have hlt : i < cs.length := by omega
      refine Rn.pu (T' := T) (g' := (mkF m 5 #[.val (.ref d), .val (.int (47 : Int32)), .val (.int (0 : Int32)), .val (.int (Int32.ofNat cs.length)), .val (.int (Int32.ofNat i))] [(.int (Int32.ofNat i))])) ?_ fun _ zk => XS.iload HL.here hx rfl (hb hby d_jdk_52_m48_3) rfl zk
      refine Rn.pu (T' := T) (g' := (mkF m 6 #[.val (.ref d), .val (.int (47 : Int32)), .val (.int (0 : Int32)), .val (.int (Int32.ofNat cs.length)), .val (.int (Int32.ofNat i))] [(.int (Int32.ofNat cs.length)), (.int (Int32.ofNat i))])) ?_ fun _ zk => XS.iloadN HL.here hx rfl (hb hby d_jdk_52_m48_5) rfl zk
      refine Rn.pu (T' := T) (g' := (mkF m 9 #[.val (.ref d), .val (.int (47 : Int32)), .val (.int (0 : Int32)), .val (.int (Int32.ofNat cs.length)), .val (.int (Int32.ofNat i))] [])) ?_ fun _ zk => XS.icmpNo HL.here hx rfl (hb hby d_jdk_52_m48_6) rfl (c_ge_f (u_lt hlt (by omega))) zk
      refine Rn.pu (T' := T) (g' := (mkF m 10 #[.val (.ref d), .val (.int (47 : Int32)), .val (.int (0 : Int32)), .val (.int (Int32.ofNat cs.length)), .val (.int (Int32.ofNat i))] [(.ref d)])) ?_ fun _ zk => XS.aloadN HL.here hx rfl (hb hby d_jdk_52_m48_9) rfl rfl zk
      refine Rn.pu (T' := T) (g' := (mkF m 12 #[.val (.ref d), .val (.int (47 : Int32)), .val (.int (0 : Int32)), .val (.int (Int32.ofNat cs.length)), .val (.int (Int32.ofNat i))] [(.int (Int32.ofNat i)), (.ref d)])) ?_ fun _ zk => XS.iload HL.here hx rfl (hb hby d_jdk_52_m48_10) rfl zk
      obtain ⟨_, T1, h1, H1, ⟨rfl, rfl⟩, -, st1⟩ := HL.callS (hw _ (List.mem_of_getElem? (i := 173) rfl)) (hw _ (List.mem_of_getElem? (i := 174) rfl)) (hw _ (List.mem_of_getElem? (i := 24) rfl)) (hw _ (List.mem_of_getElem? (i := 175) rfl)) (by decide) (MetN.pay (W := 0) (c_getc l ⟨hw, SC0, hz0, SF1, rf1, SU2, SU3, SU4, SP, SN, XP, XN⟩ d kB cs i h0 HL.old hlt hn hc AD) (hw _ (List.mem_of_getElem? (i := 175) rfl)) (hw _ (List.mem_of_getElem? (i := 24) rfl)) (by decide) (by decide)) (g := (mkF m 12 #[.val (.ref d), .val (.int (47 : Int32)), .val (.int (0 : Int32)), .val (.int (Int32.ofNat cs.length)), .val (.int (Int32.ofNat i))] [(.int (Int32.ofNat i)), (.ref d)])) rfl (by rw [hml]; rfl) (argsL := [(.ref d), (.int (Int32.ofNat i))]) (rest := []) (lenOf pd__ABI_C rfl) rfl rfl (Nat.le_of_eq rfl) (hb hby d_jdk_52_m48_12) (by decide) (by decide) all0
      refine Rn.pu (g' := (mkF m 15 #[.val (.ref d), .val (.int (47 : Int32)), .val (.int (0 : Int32)), .val (.int (Int32.ofNat cs.length)), .val (.int (Int32.ofNat i))] [(.int (cs.getD i 0))])) ?_ st1
      refine Rn.pu (T' := T1) (g' := (mkF m 16 #[.val (.ref d), .val (.int (47 : Int32)), .val (.int (0 : Int32)), .val (.int (Int32.ofNat cs.length)), .val (.int (Int32.ofNat i))] [(.int (47 : Int32)), (.int (cs.getD i 0))])) ?_ fun _ zk => XS.iloadN H1.here hx rfl (hb hby d_jdk_52_m48_15) rfl zk
      refine Rn.pu (T' := T1) (g' := (mkF m 22 #[.val (.ref d), .val (.int (47 : Int32)), .val (.int (0 : Int32)), .val (.int (Int32.ofNat cs.length)), .val (.int (Int32.ofNat i))] [])) ?_ fun _ zk => XS.icmpYes H1.here hx rfl (pc0 := 16) (pc' := 22) rfl (hb hby d_jdk_52_m48_16) rfl (c_ne_t (u_mem hlt he)) (by decide) (by decide) zk
      refine Rn.pu (T' := T1) (g' := (mkF m 25 #[.val (.ref d), .val (.int (47 : Int32)), .val (.int (0 : Int32)), .val (.int (Int32.ofNat cs.length)), .val (.int ((Int32.ofNat i) + (1 : Int32)))] [])) ?_ fun _ zk => XS.iinc H1.here hx rfl (hb hby d_jdk_52_m48_22) rfl (l' := #[.val (.ref d), .val (.int (47 : Int32)), .val (.int (0 : Int32)), .val (.int (Int32.ofNat cs.length)), .val (.int ((Int32.ofNat i) + (1 : Int32)))]) rfl zk
      refine Rn.pu (T' := T1) (g' := (mkF m 3 #[.val (.ref d), .val (.int (47 : Int32)), .val (.int (0 : Int32)), .val (.int (Int32.ofNat cs.length)), .val (.int ((Int32.ofNat i) + (1 : Int32)))] [])) ?_ fun _ zk => XS.goto H1.here hx rfl (pc0 := 25) (pc' := 3) rfl (hb hby d_jdk_52_m48_25) (by decide) (by decide) zk
      rw [u_succ]
      exact ih (i + 1) _ (by omega) H1
  exact LP cs.length 0 _ (by omega) H0
set_option maxRecDepth 65536 in
set_option maxHeartbeats 40000000 in
theorem c_uic (l : Launch) {Z : State} {a0 : Array Value} {zc : Int32} {fm : Value} {aP : Addr} {aN : Addr} (B : Base Z a0 zc fm aP aN) (d : Addr) (kB : ClassId) (cs : List Int32) (h0 : Heap) (O : Ext Z.heap h0) (hn : cs.length ≤ 2) (hc : ∀ c ∈ cs, ¬ c < 0 ∧ ¬ (65535 : Int32) < c) (he : ∀ c ∈ cs, ¬ c = 47) (AD : Arv Z h0 d kB .byte (Int32.ofNat (2 * cs.length)) (StrChars.Road.wideBytes cs) (.int 0)) :
    MetN l Z (⟨"java/lang/StringUTF16", "indexOfChar", "([BIII)I"⟩ : MethodName) jdk_52_method_47_code 4 (some .int) [] ({ frames := 3, cells := 0, slots := 0, locals := 43 } : Room) #[(.ref d), (.int (47 : Int32)), (.int (0 : Int32)), (.int (Int32.ofNat cs.length))] h0 [] (fun v h => v = some (.int (-1)) ∧ h0 = h) := by
  obtain ⟨hw, SC0, hz0, SF1, rf1, SU2, SU3, SU4, SP, SN, XP, XN⟩ := B
  refine MetN.mk (plainFor_of_name pn_java_lang_StringUTF16) (fun m => ef_c_uic m d (47 : Int32) (0 : Int32) (Int32.ofNat cs.length)) O ?_
  intro p e s m below meth c T0 hx hby hml hret hlk hnm hsh H0
  have zs : s.heap.size = h0.size := by rw [hsh]
  refine Rn.pu (T' := T0) (g' := (mkF m 1 #[.val (.ref d), .val (.int (47 : Int32)), .val (.int (0 : Int32)), .val (.int (Int32.ofNat cs.length))] [(.int (0 : Int32))])) ?_ fun _ zk => XS.iloadN H0.here hx rfl (hb hby d_jdk_52_m47_0) rfl zk
  refine Rn.pu (T' := T0) (g' := (mkF m 2 #[.val (.ref d), .val (.int (47 : Int32)), .val (.int (0 : Int32)), .val (.int (Int32.ofNat cs.length))] [(.int (Int32.ofNat cs.length)), (.int (0 : Int32))])) ?_ fun _ zk => XS.iloadN H0.here hx rfl (hb hby d_jdk_52_m47_1) rfl zk
  refine Rn.pu (T' := T0) (g' := (mkF m 3 #[.val (.ref d), .val (.int (47 : Int32)), .val (.int (0 : Int32)), .val (.int (Int32.ofNat cs.length))] [(.ref d), (.int (Int32.ofNat cs.length)), (.int (0 : Int32))])) ?_ fun _ zk => XS.aloadN H0.here hx rfl (hb hby d_jdk_52_m47_2) rfl rfl zk
  obtain ⟨_, T1, h1, H1, ⟨rfl, rfl⟩, -, st1⟩ := H0.callS (hw _ (List.mem_of_getElem? (i := 185) rfl)) (hw _ (List.mem_of_getElem? (i := 186) rfl)) (hw _ (List.mem_of_getElem? (i := 24) rfl)) (hw _ (List.mem_of_getElem? (i := 187) rfl)) (by decide) (MetN.pay (W := 0) (c_ubb l ⟨hw, SC0, hz0, SF1, rf1, SU2, SU3, SU4, SP, SN, XP, XN⟩ d kB cs h0 H0.old hn AD) (hw _ (List.mem_of_getElem? (i := 187) rfl)) (hw _ (List.mem_of_getElem? (i := 24) rfl)) (by decide) (by decide)) (g := (mkF m 3 #[.val (.ref d), .val (.int (47 : Int32)), .val (.int (0 : Int32)), .val (.int (Int32.ofNat cs.length))] [(.ref d), (.int (Int32.ofNat cs.length)), (.int (0 : Int32))])) rfl (by rw [hml]; rfl) (argsL := [(.int (0 : Int32)), (.int (Int32.ofNat cs.length)), (.ref d)]) (rest := []) (lenOf pd__IIAB_V rfl) rfl rfl (Nat.le_of_eq rfl) (hb hby d_jdk_52_m47_3) (by decide) (by decide) all0
  refine Rn.pu (g' := (mkF m 6 #[.val (.ref d), .val (.int (47 : Int32)), .val (.int (0 : Int32)), .val (.int (Int32.ofNat cs.length))] [])) ?_ st1
  refine Rn.pu (T' := T1) (g' := (mkF m 7 #[.val (.ref d), .val (.int (47 : Int32)), .val (.int (0 : Int32)), .val (.int (Int32.ofNat cs.length))] [(.ref d)])) ?_ fun _ zk => XS.aloadN H1.here hx rfl (hb hby d_jdk_52_m47_6) rfl rfl zk
  refine Rn.pu (T' := T1) (g' := (mkF m 8 #[.val (.ref d), .val (.int (47 : Int32)), .val (.int (0 : Int32)), .val (.int (Int32.ofNat cs.length))] [(.int (47 : Int32)), (.ref d)])) ?_ fun _ zk => XS.iloadN H1.here hx rfl (hb hby d_jdk_52_m47_7) rfl zk
  refine Rn.pu (T' := T1) (g' := (mkF m 9 #[.val (.ref d), .val (.int (47 : Int32)), .val (.int (0 : Int32)), .val (.int (Int32.ofNat cs.length))] [(.int (0 : Int32)), (.int (47 : Int32)), (.ref d)])) ?_ fun _ zk => XS.iloadN H1.here hx rfl (hb hby d_jdk_52_m47_8) rfl zk
  refine Rn.pu (T' := T1) (g' := (mkF m 10 #[.val (.ref d), .val (.int (47 : Int32)), .val (.int (0 : Int32)), .val (.int (Int32.ofNat cs.length))] [(.int (Int32.ofNat cs.length)), (.int (0 : Int32)), (.int (47 : Int32)), (.ref d)])) ?_ fun _ zk => XS.iloadN H1.here hx rfl (hb hby d_jdk_52_m47_9) rfl zk
  obtain ⟨_, T2, h2, H2, ⟨rfl, rfl⟩, -, st2⟩ := H1.callS (hw _ (List.mem_of_getElem? (i := 199) rfl)) (hw _ (List.mem_of_getElem? (i := 200) rfl)) (hw _ (List.mem_of_getElem? (i := 24) rfl)) (hw _ (List.mem_of_getElem? (i := 201) rfl)) (by decide) (MetN.pay (W := 0) (c_uiu l ⟨hw, SC0, hz0, SF1, rf1, SU2, SU3, SU4, SP, SN, XP, XN⟩ d kB cs h0 H1.old hn hc he AD) (hw _ (List.mem_of_getElem? (i := 201) rfl)) (hw _ (List.mem_of_getElem? (i := 24) rfl)) (by decide) (by decide)) (g := (mkF m 10 #[.val (.ref d), .val (.int (47 : Int32)), .val (.int (0 : Int32)), .val (.int (Int32.ofNat cs.length))] [(.int (Int32.ofNat cs.length)), (.int (0 : Int32)), (.int (47 : Int32)), (.ref d)])) rfl (by rw [hml]; rfl) (argsL := [(.ref d), (.int (47 : Int32)), (.int (0 : Int32)), (.int (Int32.ofNat cs.length))]) (rest := []) (lenOf pd__ABIII_I rfl) rfl rfl (Nat.le_of_eq rfl) (hb hby d_jdk_52_m47_10) (by decide) (by decide) all0
  refine Rn.pu (g' := (mkF m 13 #[.val (.ref d), .val (.int (47 : Int32)), .val (.int (0 : Int32)), .val (.int (Int32.ofNat cs.length))] [(.int (-1 : Int32))])) ?_ st2
  exact H2.retI ends_N hlk hret (hb hby d_jdk_52_m47_13) (by decide) (by decide) (fun _ q => nomatch q) ⟨rfl, rfl⟩
set_option maxRecDepth 65536 in
set_option maxHeartbeats 40000000 in
theorem c_uio (l : Launch) {Z : State} {a0 : Array Value} {zc : Int32} {fm : Value} {aP : Addr} {aN : Addr} (B : Base Z a0 zc fm aP aN) (d : Addr) (kB : ClassId) (cs : List Int32) (h0 : Heap) (O : Ext Z.heap h0) (h1 : 0 < cs.length) (hn : cs.length ≤ 2) (hc : ∀ c ∈ cs, ¬ c < 0 ∧ ¬ (65535 : Int32) < c) (he : ∀ c ∈ cs, ¬ c = 47) (AD : Arv Z h0 d kB .byte (Int32.ofNat (2 * cs.length)) (StrChars.Road.wideBytes cs) (.int 0)) :
    MetN l Z (⟨"java/lang/StringUTF16", "indexOf", "([BIII)I"⟩ : MethodName) jdk_52_method_40_code 4 (some .int) [] ({ frames := 4, cells := 0, slots := 0, locals := 58 } : Room) #[(.ref d), (.int (47 : Int32)), (.int (0 : Int32)), (.int (Int32.ofNat cs.length))] h0 [] (fun v h => v = some (.int (-1)) ∧ h0 = h) := by
  obtain ⟨hw, SC0, hz0, SF1, rf1, SU2, SU3, SU4, SP, SN, XP, XN⟩ := B
  refine MetN.mk (plainFor_of_name pn_java_lang_StringUTF16) (fun m => ef_c_uio m d (47 : Int32) (0 : Int32) (Int32.ofNat cs.length)) O ?_
  intro p e s m below meth c T0 hx hby hml hret hlk hnm hsh H0
  have zs : s.heap.size = h0.size := by rw [hsh]
  refine Rn.pu (T' := T0) (g' := (mkF m 1 #[.val (.ref d), .val (.int (47 : Int32)), .val (.int (0 : Int32)), .val (.int (Int32.ofNat cs.length))] [(.int (0 : Int32))])) ?_ fun _ zk => XS.iloadN H0.here hx rfl (hb hby d_jdk_52_m40_0) rfl zk
  refine Rn.pu (T' := T0) (g' := (mkF m 2 #[.val (.ref d), .val (.int (47 : Int32)), .val (.int (0 : Int32)), .val (.int (Int32.ofNat cs.length))] [(.int (0 : Int32)), (.int (0 : Int32))])) ?_ fun _ zk => XS.iconst H0.here hx rfl (hb hby d_jdk_52_m40_1) zk
  obtain ⟨_, T1, h1, H1, ⟨rfl, rfl⟩, -, st1⟩ := H0.callS (hw _ (List.mem_of_getElem? (i := 179) rfl)) (hw _ (List.mem_of_getElem? (i := 103) rfl)) (hw _ (List.mem_of_getElem? (i := 104) rfl)) (hw _ (List.mem_of_getElem? (i := 105) rfl)) (by decide) (MetN.pay (W := 0) (c_max l ⟨hw, SC0, hz0, SF1, rf1, SU2, SU3, SU4, SP, SN, XP, XN⟩  h0 H0.old) (hw _ (List.mem_of_getElem? (i := 105) rfl)) (hw _ (List.mem_of_getElem? (i := 104) rfl)) (by decide) (by decide)) (g := (mkF m 2 #[.val (.ref d), .val (.int (47 : Int32)), .val (.int (0 : Int32)), .val (.int (Int32.ofNat cs.length))] [(.int (0 : Int32)), (.int (0 : Int32))])) rfl (by rw [hml]; rfl) (argsL := [(.int (0 : Int32)), (.int (0 : Int32))]) (rest := []) (lenOf pd__II_I rfl) rfl rfl (Nat.le_of_eq rfl) (hb hby d_jdk_52_m40_2) (by decide) (by decide) all0
  refine Rn.pu (g' := (mkF m 5 #[.val (.ref d), .val (.int (47 : Int32)), .val (.int (0 : Int32)), .val (.int (Int32.ofNat cs.length))] [(.int (0 : Int32))])) ?_ st1
  refine Rn.pu (T' := T1) (g' := (mkF m 6 #[.val (.ref d), .val (.int (47 : Int32)), .val (.int (0 : Int32)), .val (.int (Int32.ofNat cs.length))] [])) ?_ fun _ zk => XS.istoreN H1.here hx rfl (hb hby d_jdk_52_m40_5) rfl (l' := #[.val (.ref d), .val (.int (47 : Int32)), .val (.int (0 : Int32)), .val (.int (Int32.ofNat cs.length))]) rfl zk
  refine Rn.pu (T' := T1) (g' := (mkF m 7 #[.val (.ref d), .val (.int (47 : Int32)), .val (.int (0 : Int32)), .val (.int (Int32.ofNat cs.length))] [(.int (Int32.ofNat cs.length))])) ?_ fun _ zk => XS.iloadN H1.here hx rfl (hb hby d_jdk_52_m40_6) rfl zk
  refine Rn.pu (T' := T1) (g' := (mkF m 8 #[.val (.ref d), .val (.int (47 : Int32)), .val (.int (0 : Int32)), .val (.int (Int32.ofNat cs.length))] [(.ref d), (.int (Int32.ofNat cs.length))])) ?_ fun _ zk => XS.aloadN H1.here hx rfl (hb hby d_jdk_52_m40_7) rfl rfl zk
  refine Rn.pu (g' := (mkF m 9 #[.val (.ref d), .val (.int (47 : Int32)), .val (.int (0 : Int32)), .val (.int (Int32.ofNat cs.length))] [(.int (Int32.ofNat (2 * cs.length))), (.int (Int32.ofNat cs.length))])) ?_ (H1.alen AD (g := (mkF m 8 #[.val (.ref d), .val (.int (47 : Int32)), .val (.int (0 : Int32)), .val (.int (Int32.ofNat cs.length))] [(.ref d), (.int (Int32.ofNat cs.length))])) rfl rfl (hb hby d_jdk_52_m40_8))
  refine Rn.pu (T' := T1) (g' := (mkF m 10 #[.val (.ref d), .val (.int (47 : Int32)), .val (.int (0 : Int32)), .val (.int (Int32.ofNat cs.length))] [(.int (1 : Int32)), (.int (Int32.ofNat (2 * cs.length))), (.int (Int32.ofNat cs.length))])) ?_ fun _ zk => XS.iconst H1.here hx rfl (hb hby d_jdk_52_m40_9) zk
  refine Rn.pu (T' := T1) (g' := (mkF m 11 #[.val (.ref d), .val (.int (47 : Int32)), .val (.int (0 : Int32)), .val (.int (Int32.ofNat cs.length))] [(.int ((Int32.ofNat (2 * cs.length)) >>> ((1 : Int32) &&& 31))), (.int (Int32.ofNat cs.length))])) ?_ fun _ zk => XT.ishr H1.here hx rfl (hb hby d_jdk_52_m40_10) rfl zk
  rw [StrChars.shr1 (by omega)]
  obtain ⟨_, T2, h2, H2, ⟨rfl, rfl⟩, -, st2⟩ := H1.callS (hw _ (List.mem_of_getElem? (i := 180) rfl)) (hw _ (List.mem_of_getElem? (i := 107) rfl)) (hw _ (List.mem_of_getElem? (i := 104) rfl)) (hw _ (List.mem_of_getElem? (i := 108) rfl)) (by decide) (MetN.pay (W := 0) (c_min l ⟨hw, SC0, hz0, SF1, rf1, SU2, SU3, SU4, SP, SN, XP, XN⟩ (Int32.ofNat cs.length) h0 H1.old) (hw _ (List.mem_of_getElem? (i := 108) rfl)) (hw _ (List.mem_of_getElem? (i := 104) rfl)) (by decide) (by decide)) (g := (mkF m 11 #[.val (.ref d), .val (.int (47 : Int32)), .val (.int (0 : Int32)), .val (.int (Int32.ofNat cs.length))] [(.int (Int32.ofNat cs.length)), (.int (Int32.ofNat cs.length))])) rfl (by rw [hml]; rfl) (argsL := [(.int (Int32.ofNat cs.length)), (.int (Int32.ofNat cs.length))]) (rest := []) (lenOf pd__II_I rfl) rfl rfl (Nat.le_of_eq rfl) (hb hby d_jdk_52_m40_11) (by decide) (by decide) all0
  refine Rn.pu (g' := (mkF m 14 #[.val (.ref d), .val (.int (47 : Int32)), .val (.int (0 : Int32)), .val (.int (Int32.ofNat cs.length))] [(.int (Int32.ofNat cs.length))])) ?_ st2
  refine Rn.pu (T' := T2) (g' := (mkF m 15 #[.val (.ref d), .val (.int (47 : Int32)), .val (.int (0 : Int32)), .val (.int (Int32.ofNat cs.length))] [])) ?_ fun _ zk => XS.istoreN H2.here hx rfl (hb hby d_jdk_52_m40_14) rfl (l' := #[.val (.ref d), .val (.int (47 : Int32)), .val (.int (0 : Int32)), .val (.int (Int32.ofNat cs.length))]) rfl zk
  refine Rn.pu (T' := T2) (g' := (mkF m 16 #[.val (.ref d), .val (.int (47 : Int32)), .val (.int (0 : Int32)), .val (.int (Int32.ofNat cs.length))] [(.int (0 : Int32))])) ?_ fun _ zk => XS.iloadN H2.here hx rfl (hb hby d_jdk_52_m40_15) rfl zk
  refine Rn.pu (T' := T2) (g' := (mkF m 17 #[.val (.ref d), .val (.int (47 : Int32)), .val (.int (0 : Int32)), .val (.int (Int32.ofNat cs.length))] [(.int (Int32.ofNat cs.length)), (.int (0 : Int32))])) ?_ fun _ zk => XS.iloadN H2.here hx rfl (hb hby d_jdk_52_m40_16) rfl zk
  refine Rn.pu (T' := T2) (g' := (mkF m 22 #[.val (.ref d), .val (.int (47 : Int32)), .val (.int (0 : Int32)), .val (.int (Int32.ofNat cs.length))] [])) ?_ fun _ zk => XS.icmpYes H2.here hx rfl (pc0 := 17) (pc' := 22) rfl (hb hby d_jdk_52_m40_17) rfl (c_lt_t (u_lt (i := 0) h1 (by omega))) (by decide) (by decide) zk
  refine Rn.pu (T' := T2) (g' := (mkF m 23 #[.val (.ref d), .val (.int (47 : Int32)), .val (.int (0 : Int32)), .val (.int (Int32.ofNat cs.length))] [(.int (47 : Int32))])) ?_ fun _ zk => XS.iloadN H2.here hx rfl (hb hby d_jdk_52_m40_22) rfl zk
  refine Rn.pu (g' := (mkF m 25 #[.val (.ref d), .val (.int (47 : Int32)), .val (.int (0 : Int32)), .val (.int (Int32.ofNat cs.length))] [(.int (65536 : Int32)), (.int (47 : Int32))])) ?_ (H2.ldcI (hw _ (List.mem_of_getElem? (i := 181) rfl)) (g := (mkF m 23 #[.val (.ref d), .val (.int (47 : Int32)), .val (.int (0 : Int32)), .val (.int (Int32.ofNat cs.length))] [(.int (47 : Int32))])) rfl (hb hby d_jdk_52_m40_23))
  refine Rn.pu (T' := T2) (g' := (mkF m 28 #[.val (.ref d), .val (.int (47 : Int32)), .val (.int (0 : Int32)), .val (.int (Int32.ofNat cs.length))] [])) ?_ fun _ zk => XS.icmpNo H2.here hx rfl (hb hby d_jdk_52_m40_25) rfl (c_ge_f (by decide)) zk
  refine Rn.pu (T' := T2) (g' := (mkF m 29 #[.val (.ref d), .val (.int (47 : Int32)), .val (.int (0 : Int32)), .val (.int (Int32.ofNat cs.length))] [(.ref d)])) ?_ fun _ zk => XS.aloadN H2.here hx rfl (hb hby d_jdk_52_m40_28) rfl rfl zk
  refine Rn.pu (T' := T2) (g' := (mkF m 30 #[.val (.ref d), .val (.int (47 : Int32)), .val (.int (0 : Int32)), .val (.int (Int32.ofNat cs.length))] [(.int (47 : Int32)), (.ref d)])) ?_ fun _ zk => XS.iloadN H2.here hx rfl (hb hby d_jdk_52_m40_29) rfl zk
  refine Rn.pu (T' := T2) (g' := (mkF m 31 #[.val (.ref d), .val (.int (47 : Int32)), .val (.int (0 : Int32)), .val (.int (Int32.ofNat cs.length))] [(.int (0 : Int32)), (.int (47 : Int32)), (.ref d)])) ?_ fun _ zk => XS.iloadN H2.here hx rfl (hb hby d_jdk_52_m40_30) rfl zk
  refine Rn.pu (T' := T2) (g' := (mkF m 32 #[.val (.ref d), .val (.int (47 : Int32)), .val (.int (0 : Int32)), .val (.int (Int32.ofNat cs.length))] [(.int (Int32.ofNat cs.length)), (.int (0 : Int32)), (.int (47 : Int32)), (.ref d)])) ?_ fun _ zk => XS.iloadN H2.here hx rfl (hb hby d_jdk_52_m40_31) rfl zk
  obtain ⟨_, T3, h3, H3, ⟨rfl, rfl⟩, -, st3⟩ := H2.callS (hw _ (List.mem_of_getElem? (i := 182) rfl)) (hw _ (List.mem_of_getElem? (i := 183) rfl)) (hw _ (List.mem_of_getElem? (i := 24) rfl)) (hw _ (List.mem_of_getElem? (i := 184) rfl)) (by decide) (MetN.pay (W := 0) (c_uic l ⟨hw, SC0, hz0, SF1, rf1, SU2, SU3, SU4, SP, SN, XP, XN⟩ d kB cs h0 H2.old hn hc he AD) (hw _ (List.mem_of_getElem? (i := 184) rfl)) (hw _ (List.mem_of_getElem? (i := 24) rfl)) (by decide) (by decide)) (g := (mkF m 32 #[.val (.ref d), .val (.int (47 : Int32)), .val (.int (0 : Int32)), .val (.int (Int32.ofNat cs.length))] [(.int (Int32.ofNat cs.length)), (.int (0 : Int32)), (.int (47 : Int32)), (.ref d)])) rfl (by rw [hml]; rfl) (argsL := [(.ref d), (.int (47 : Int32)), (.int (0 : Int32)), (.int (Int32.ofNat cs.length))]) (rest := []) (lenOf pd__ABIII_I rfl) rfl rfl (Nat.le_of_eq rfl) (hb hby d_jdk_52_m40_32) (by decide) (by decide) all0
  refine Rn.pu (g' := (mkF m 35 #[.val (.ref d), .val (.int (47 : Int32)), .val (.int (0 : Int32)), .val (.int (Int32.ofNat cs.length))] [(.int (-1 : Int32))])) ?_ st3
  exact H3.retI ends_N hlk hret (hb hby d_jdk_52_m40_35) (by decide) (by decide) (fun _ q => nomatch q) ⟨rfl, rfl⟩
set_option maxRecDepth 65536 in
set_option maxHeartbeats 40000000 in
theorem c_isl0 (l : Launch) {Z : State} {a0 : Array Value} {zc : Int32} {fm : Value} {aP : Addr} {aN : Addr} (B : Base Z a0 zc fm aP aN) (x : Addr) (h0 : Heap) (O : Ext Z.heap h0) (G2 : Fld Z h0 x "java/lang/String" "coder" "B" (.int (0 : Int32))) :
    MetN l Z (⟨"java/lang/String", "isLatin1", "()Z"⟩ : MethodName) jdk_42_method_154_code 1 (some .boolean) [] ({ frames := 0, cells := 0, slots := 0, locals := 0 } : Room) #[(.ref x)] h0 [] (fun v h => v = some (.int 1) ∧ h0 = h) := by
  obtain ⟨hw, SC0, hz0, SF1, rf1, SU2, SU3, SU4, SP, SN, XP, XN⟩ := B
  refine MetN.mk (plainFor_of_name pn_java_lang_String) (fun m => ef_c_isl0 m x) O ?_
  intro p e s m below meth c T0 hx hby hml hret hlk hnm hsh H0
  have zs : s.heap.size = h0.size := by rw [hsh]
  obtain ⟨T1, H1, st1⟩ := H0.getS (host := "") (Or.inl (hw _ (List.mem_of_getElem? (i := 21) rfl))) Via.refl (SC0.ext H0.old) (g := (mkF m 0 #[.val (.ref x)] [])) rfl (hb hby d_jdk_42_m154_0)
  refine Rn.pu (g' := (mkF m 3 #[.val (.ref x)] [(.int zc)])) ?_ st1
  refine Rn.pu (T' := T1) (g' := (mkF m 6 #[.val (.ref x)] [])) ?_ fun _ zk => XS.ifNo H1.here hx rfl (hb hby d_jdk_42_m154_3) rfl (z_eq_f hz0) zk
  refine Rn.pu (T' := T1) (g' := (mkF m 7 #[.val (.ref x)] [(.ref x)])) ?_ fun _ zk => XS.aloadN H1.here hx rfl (hb hby d_jdk_42_m154_6) rfl rfl zk
  obtain ⟨T2, H2, st2⟩ := H1.getF (host := "") (Or.inl (hw _ (List.mem_of_getElem? (i := 33) rfl))) Via.refl G2 (g := (mkF m 7 #[.val (.ref x)] [(.ref x)])) rfl rfl (hb hby d_jdk_42_m154_7)
  refine Rn.pu (g' := (mkF m 10 #[.val (.ref x)] [(.int (0 : Int32))])) ?_ st2
  refine Rn.pu (T' := T2) (g' := (mkF m 13 #[.val (.ref x)] [])) ?_ fun _ zk => XS.ifNo H2.here hx rfl (hb hby d_jdk_42_m154_10) rfl (z_ne_f rfl) zk
  refine Rn.pu (T' := T2) (g' := (mkF m 14 #[.val (.ref x)] [(.int (1 : Int32))])) ?_ fun _ zk => XS.iconst H2.here hx rfl (hb hby d_jdk_42_m154_13) zk
  refine Rn.pu (T' := T2) (g' := (mkF m 18 #[.val (.ref x)] [(.int (1 : Int32))])) ?_ fun _ zk => XS.goto H2.here hx rfl (pc0 := 14) (pc' := 18) rfl (hb hby d_jdk_42_m154_14) (by decide) (by decide) zk
  exact H2.retS ends_N hlk (t := .boolean) hret (by simp) (hb hby d_jdk_42_m154_18) (by decide) (by decide) (fun _ q => nomatch q) ⟨rfl, rfl⟩
set_option maxRecDepth 65536 in
set_option maxHeartbeats 40000000 in
theorem c_isl1 (l : Launch) {Z : State} {a0 : Array Value} {zc : Int32} {fm : Value} {aP : Addr} {aN : Addr} (B : Base Z a0 zc fm aP aN) (x : Addr) (h0 : Heap) (O : Ext Z.heap h0) (G2 : Fld Z h0 x "java/lang/String" "coder" "B" (.int (1 : Int32))) :
    MetN l Z (⟨"java/lang/String", "isLatin1", "()Z"⟩ : MethodName) jdk_42_method_154_code 1 (some .boolean) [] ({ frames := 0, cells := 0, slots := 0, locals := 0 } : Room) #[(.ref x)] h0 [] (fun v h => v = some (.int 0) ∧ h0 = h) := by
  obtain ⟨hw, SC0, hz0, SF1, rf1, SU2, SU3, SU4, SP, SN, XP, XN⟩ := B
  refine MetN.mk (plainFor_of_name pn_java_lang_String) (fun m => ef_c_isl1 m x) O ?_
  intro p e s m below meth c T0 hx hby hml hret hlk hnm hsh H0
  have zs : s.heap.size = h0.size := by rw [hsh]
  obtain ⟨T1, H1, st1⟩ := H0.getS (host := "") (Or.inl (hw _ (List.mem_of_getElem? (i := 21) rfl))) Via.refl (SC0.ext H0.old) (g := (mkF m 0 #[.val (.ref x)] [])) rfl (hb hby d_jdk_42_m154_0)
  refine Rn.pu (g' := (mkF m 3 #[.val (.ref x)] [(.int zc)])) ?_ st1
  refine Rn.pu (T' := T1) (g' := (mkF m 6 #[.val (.ref x)] [])) ?_ fun _ zk => XS.ifNo H1.here hx rfl (hb hby d_jdk_42_m154_3) rfl (z_eq_f hz0) zk
  refine Rn.pu (T' := T1) (g' := (mkF m 7 #[.val (.ref x)] [(.ref x)])) ?_ fun _ zk => XS.aloadN H1.here hx rfl (hb hby d_jdk_42_m154_6) rfl rfl zk
  obtain ⟨T2, H2, st2⟩ := H1.getF (host := "") (Or.inl (hw _ (List.mem_of_getElem? (i := 33) rfl))) Via.refl G2 (g := (mkF m 7 #[.val (.ref x)] [(.ref x)])) rfl rfl (hb hby d_jdk_42_m154_7)
  refine Rn.pu (g' := (mkF m 10 #[.val (.ref x)] [(.int (1 : Int32))])) ?_ st2
  refine Rn.pu (T' := T2) (g' := (mkF m 17 #[.val (.ref x)] [])) ?_ fun _ zk => XS.ifYes H2.here hx rfl (pc0 := 10) (pc' := 17) rfl (hb hby d_jdk_42_m154_10) rfl (z_ne_t (by decide)) (by decide) (by decide) zk
  refine Rn.pu (T' := T2) (g' := (mkF m 18 #[.val (.ref x)] [(.int (0 : Int32))])) ?_ fun _ zk => XS.iconst H2.here hx rfl (hb hby d_jdk_42_m154_17) zk
  exact H2.retS ends_N hlk (t := .boolean) hret (by simp) (hb hby d_jdk_42_m154_18) (by decide) (by decide) (fun _ q => nomatch q) ⟨rfl, rfl⟩
set_option maxRecDepth 65536 in
set_option maxHeartbeats 40000000 in
theorem c_ix2 (l : Launch) {Z : State} {a0 : Array Value} {zc : Int32} {fm : Value} {aP : Addr} {aN : Addr} (B : Base Z a0 zc fm aP aN) (x d : Addr) (cs : List Int32) (h0 : Heap) (O : Ext Z.heap h0) (h1 : 0 < cs.length) (hn : cs.length ≤ 2) (he : ∀ c ∈ cs, ¬ c = 47) (F : Str Z h0 x d cs) :
    MetN l Z (⟨"java/lang/String", "indexOf", "(II)I"⟩ : MethodName) jdk_42_method_80_code 3 (some .int) [] ({ frames := 5, cells := 0, slots := 0, locals := 73 } : Room) #[(.ref x), (.int (47 : Int32)), (.int (0 : Int32))] h0 [] (fun v h => v = some (.int (-1)) ∧ h0 = h) := by
  obtain ⟨hw, SC0, hz0, SF1, rf1, SU2, SU3, SU4, SP, SN, XP, XN⟩ := B
  refine MetN.mk (plainFor_of_name pn_java_lang_String) (fun m => ef_c_ix2 m x (47 : Int32) (0 : Int32)) O ?_
  intro p e s m below meth c T0 hx hby hml hret hlk hnm hsh H0
  have zs : s.heap.size = h0.size := by rw [hsh]
  have F0 := F
  obtain ⟨hc, -, E, G1, cd, NZ, vs, kB, G2, AD, CO⟩ := F0
  rcases CO with ⟨rfl, rfl, rfl, hl0⟩ | ⟨rfl, rfl, rfl, -⟩
  ·
    have hl : ∀ c ∈ cs, ¬ c < 0 ∧ ¬ (255 : Int32) < c := fun c q => ⟨(hc c q).1, hl0 c q⟩
    refine Rn.pu (T' := T0) (g' := (mkF m 1 #[.val (.ref x), .val (.int (47 : Int32)), .val (.int (0 : Int32))] [(.ref x)])) ?_ fun _ zk => XS.aloadN H0.here hx rfl (hb hby d_jdk_42_m80_0) rfl rfl zk
    obtain ⟨_, T1, h1, H1, ⟨rfl, rfl⟩, -, st1⟩ := H0.callV (C := "java/lang/String") (hw _ (List.mem_of_getElem? (i := 80) rfl)) (hw _ (List.mem_of_getElem? (i := 81) rfl)) (hw _ (List.mem_of_getElem? (i := 83) rfl)) (hw _ (List.mem_of_getElem? (i := 82) rfl)) (by decide) (MetN.pay (W := 0) (c_isl0 l ⟨hw, SC0, hz0, SF1, rf1, SU2, SU3, SU4, SP, SN, XP, XN⟩ x h0 H0.old G2) (hw _ (List.mem_of_getElem? (i := 84) rfl)) (hw _ (List.mem_of_getElem? (i := 10) rfl)) (by decide) (by decide)) E (g := (mkF m 1 #[.val (.ref x), .val (.int (47 : Int32)), .val (.int (0 : Int32))] [(.ref x)])) rfl (by rw [hml]; rfl) (argsL := []) (rest := []) (lenOf pd___Z rfl) rfl rfl (Nat.le_of_eq rfl) (hb hby d_jdk_42_m80_1) (by decide) (by decide) all0
    refine Rn.pu (g' := (mkF m 4 #[.val (.ref x), .val (.int (47 : Int32)), .val (.int (0 : Int32))] [(.int (1 : Int32))])) ?_ st1
    refine Rn.pu (T' := T1) (g' := (mkF m 7 #[.val (.ref x), .val (.int (47 : Int32)), .val (.int (0 : Int32))] [])) ?_ fun _ zk => XS.ifNo H1.here hx rfl (hb hby d_jdk_42_m80_4) rfl (z_eq_f (by decide)) zk
    refine Rn.pu (T' := T1) (g' := (mkF m 8 #[.val (.ref x), .val (.int (47 : Int32)), .val (.int (0 : Int32))] [(.ref x)])) ?_ fun _ zk => XS.aloadN H1.here hx rfl (hb hby d_jdk_42_m80_7) rfl rfl zk
    obtain ⟨T2, H2, st2⟩ := H1.getF (host := "") (Or.inl (hw _ (List.mem_of_getElem? (i := 35) rfl))) Via.refl G1 (g := (mkF m 8 #[.val (.ref x), .val (.int (47 : Int32)), .val (.int (0 : Int32))] [(.ref x)])) rfl rfl (hb hby d_jdk_42_m80_8)
    refine Rn.pu (g' := (mkF m 11 #[.val (.ref x), .val (.int (47 : Int32)), .val (.int (0 : Int32))] [(.ref d)])) ?_ st2
    refine Rn.pu (T' := T2) (g' := (mkF m 12 #[.val (.ref x), .val (.int (47 : Int32)), .val (.int (0 : Int32))] [(.int (47 : Int32)), (.ref d)])) ?_ fun _ zk => XS.iloadN H2.here hx rfl (hb hby d_jdk_42_m80_11) rfl zk
    refine Rn.pu (T' := T2) (g' := (mkF m 13 #[.val (.ref x), .val (.int (47 : Int32)), .val (.int (0 : Int32))] [(.int (0 : Int32)), (.int (47 : Int32)), (.ref d)])) ?_ fun _ zk => XS.iloadN H2.here hx rfl (hb hby d_jdk_42_m80_12) rfl zk
    refine Rn.pu (T' := T2) (g' := (mkF m 14 #[.val (.ref x), .val (.int (47 : Int32)), .val (.int (0 : Int32))] [(.ref x), (.int (0 : Int32)), (.int (47 : Int32)), (.ref d)])) ?_ fun _ zk => XS.aloadN H2.here hx rfl (hb hby d_jdk_42_m80_13) rfl rfl zk
    obtain ⟨_, T3, h3, H3, ⟨rfl, rfl⟩, -, st3⟩ := H2.callV (C := "java/lang/String") (hw _ (List.mem_of_getElem? (i := 85) rfl)) (hw _ (List.mem_of_getElem? (i := 86) rfl)) (hw _ (List.mem_of_getElem? (i := 88) rfl)) (hw _ (List.mem_of_getElem? (i := 87) rfl)) (by decide) (payLen (W := 3) (hws_len hw) (hw _ (List.mem_of_getElem? (i := 9) rfl)) F (SC0.ext H2.old) hz0 (by decide) (by decide)) E (g := (mkF m 14 #[.val (.ref x), .val (.int (47 : Int32)), .val (.int (0 : Int32))] [(.ref x), (.int (0 : Int32)), (.int (47 : Int32)), (.ref d)])) rfl (by rw [hml]; rfl) (argsL := []) (rest := [(.int (0 : Int32)), (.int (47 : Int32)), (.ref d)]) (lenOf pd___I rfl) rfl rfl (Nat.le_of_eq rfl) (hb hby d_jdk_42_m80_14) (by decide) (by decide) all0
    refine Rn.pu (g' := (mkF m 17 #[.val (.ref x), .val (.int (47 : Int32)), .val (.int (0 : Int32))] [(.int (Int32.ofNat (cs).length)), (.int (0 : Int32)), (.int (47 : Int32)), (.ref d)])) ?_ st3
    obtain ⟨_, T4, h4, H4, ⟨rfl, rfl⟩, -, st4⟩ := H3.callS (hw _ (List.mem_of_getElem? (i := 95) rfl)) (hw _ (List.mem_of_getElem? (i := 96) rfl)) (hw _ (List.mem_of_getElem? (i := 97) rfl)) (hw _ (List.mem_of_getElem? (i := 98) rfl)) (by decide) (MetN.pay (W := 0) (c_lio l ⟨hw, SC0, hz0, SF1, rf1, SU2, SU3, SU4, SP, SN, XP, XN⟩ d kB cs h0 H3.old h1 hn hl he AD) (hw _ (List.mem_of_getElem? (i := 98) rfl)) (hw _ (List.mem_of_getElem? (i := 97) rfl)) (by decide) (by decide)) (g := (mkF m 17 #[.val (.ref x), .val (.int (47 : Int32)), .val (.int (0 : Int32))] [(.int (Int32.ofNat (cs).length)), (.int (0 : Int32)), (.int (47 : Int32)), (.ref d)])) rfl (by rw [hml]; rfl) (argsL := [(.ref d), (.int (47 : Int32)), (.int (0 : Int32)), (.int (Int32.ofNat (cs).length))]) (rest := []) (lenOf pd__ABIII_I rfl) rfl rfl (Nat.le_of_eq rfl) (hb hby d_jdk_42_m80_17) (by decide) (by decide) all0
    refine Rn.pu (g' := (mkF m 20 #[.val (.ref x), .val (.int (47 : Int32)), .val (.int (0 : Int32))] [(.int (-1 : Int32))])) ?_ st4
    refine Rn.pu (T' := T4) (g' := (mkF m 36 #[.val (.ref x), .val (.int (47 : Int32)), .val (.int (0 : Int32))] [(.int (-1 : Int32))])) ?_ fun _ zk => XS.goto H4.here hx rfl (pc0 := 20) (pc' := 36) rfl (hb hby d_jdk_42_m80_20) (by decide) (by decide) zk
    exact H4.retI ends_N hlk hret (hb hby d_jdk_42_m80_36) (by decide) (by decide) (fun _ q => nomatch q) ⟨rfl, rfl⟩
  ·
    refine Rn.pu (T' := T0) (g' := (mkF m 1 #[.val (.ref x), .val (.int (47 : Int32)), .val (.int (0 : Int32))] [(.ref x)])) ?_ fun _ zk => XS.aloadN H0.here hx rfl (hb hby d_jdk_42_m80_0) rfl rfl zk
    obtain ⟨_, T5, h5, H5, ⟨rfl, rfl⟩, -, st5⟩ := H0.callV (C := "java/lang/String") (hw _ (List.mem_of_getElem? (i := 80) rfl)) (hw _ (List.mem_of_getElem? (i := 81) rfl)) (hw _ (List.mem_of_getElem? (i := 83) rfl)) (hw _ (List.mem_of_getElem? (i := 82) rfl)) (by decide) (MetN.pay (W := 0) (c_isl1 l ⟨hw, SC0, hz0, SF1, rf1, SU2, SU3, SU4, SP, SN, XP, XN⟩ x h0 H0.old G2) (hw _ (List.mem_of_getElem? (i := 84) rfl)) (hw _ (List.mem_of_getElem? (i := 10) rfl)) (by decide) (by decide)) E (g := (mkF m 1 #[.val (.ref x), .val (.int (47 : Int32)), .val (.int (0 : Int32))] [(.ref x)])) rfl (by rw [hml]; rfl) (argsL := []) (rest := []) (lenOf pd___Z rfl) rfl rfl (Nat.le_of_eq rfl) (hb hby d_jdk_42_m80_1) (by decide) (by decide) all0
    refine Rn.pu (g' := (mkF m 4 #[.val (.ref x), .val (.int (47 : Int32)), .val (.int (0 : Int32))] [(.int (0 : Int32))])) ?_ st5
    refine Rn.pu (T' := T5) (g' := (mkF m 23 #[.val (.ref x), .val (.int (47 : Int32)), .val (.int (0 : Int32))] [])) ?_ fun _ zk => XS.ifYes H5.here hx rfl (pc0 := 4) (pc' := 23) rfl (hb hby d_jdk_42_m80_4) rfl (z_eq_t rfl) (by decide) (by decide) zk
    refine Rn.pu (T' := T5) (g' := (mkF m 24 #[.val (.ref x), .val (.int (47 : Int32)), .val (.int (0 : Int32))] [(.ref x)])) ?_ fun _ zk => XS.aloadN H5.here hx rfl (hb hby d_jdk_42_m80_23) rfl rfl zk
    obtain ⟨T6, H6, st6⟩ := H5.getF (host := "") (Or.inl (hw _ (List.mem_of_getElem? (i := 35) rfl))) Via.refl G1 (g := (mkF m 24 #[.val (.ref x), .val (.int (47 : Int32)), .val (.int (0 : Int32))] [(.ref x)])) rfl rfl (hb hby d_jdk_42_m80_24)
    refine Rn.pu (g' := (mkF m 27 #[.val (.ref x), .val (.int (47 : Int32)), .val (.int (0 : Int32))] [(.ref d)])) ?_ st6
    refine Rn.pu (T' := T6) (g' := (mkF m 28 #[.val (.ref x), .val (.int (47 : Int32)), .val (.int (0 : Int32))] [(.int (47 : Int32)), (.ref d)])) ?_ fun _ zk => XS.iloadN H6.here hx rfl (hb hby d_jdk_42_m80_27) rfl zk
    refine Rn.pu (T' := T6) (g' := (mkF m 29 #[.val (.ref x), .val (.int (47 : Int32)), .val (.int (0 : Int32))] [(.int (0 : Int32)), (.int (47 : Int32)), (.ref d)])) ?_ fun _ zk => XS.iloadN H6.here hx rfl (hb hby d_jdk_42_m80_28) rfl zk
    refine Rn.pu (T' := T6) (g' := (mkF m 30 #[.val (.ref x), .val (.int (47 : Int32)), .val (.int (0 : Int32))] [(.ref x), (.int (0 : Int32)), (.int (47 : Int32)), (.ref d)])) ?_ fun _ zk => XS.aloadN H6.here hx rfl (hb hby d_jdk_42_m80_29) rfl rfl zk
    obtain ⟨_, T7, h7, H7, ⟨rfl, rfl⟩, -, st7⟩ := H6.callV (C := "java/lang/String") (hw _ (List.mem_of_getElem? (i := 85) rfl)) (hw _ (List.mem_of_getElem? (i := 86) rfl)) (hw _ (List.mem_of_getElem? (i := 88) rfl)) (hw _ (List.mem_of_getElem? (i := 87) rfl)) (by decide) (payLen (W := 3) (hws_len hw) (hw _ (List.mem_of_getElem? (i := 9) rfl)) F (SC0.ext H6.old) hz0 (by decide) (by decide)) E (g := (mkF m 30 #[.val (.ref x), .val (.int (47 : Int32)), .val (.int (0 : Int32))] [(.ref x), (.int (0 : Int32)), (.int (47 : Int32)), (.ref d)])) rfl (by rw [hml]; rfl) (argsL := []) (rest := [(.int (0 : Int32)), (.int (47 : Int32)), (.ref d)]) (lenOf pd___I rfl) rfl rfl (Nat.le_of_eq rfl) (hb hby d_jdk_42_m80_30) (by decide) (by decide) all0
    refine Rn.pu (g' := (mkF m 33 #[.val (.ref x), .val (.int (47 : Int32)), .val (.int (0 : Int32))] [(.int (Int32.ofNat (cs).length)), (.int (0 : Int32)), (.int (47 : Int32)), (.ref d)])) ?_ st7
    obtain ⟨_, T8, h8, H8, ⟨rfl, rfl⟩, -, st8⟩ := H7.callS (hw _ (List.mem_of_getElem? (i := 176) rfl)) (hw _ (List.mem_of_getElem? (i := 177) rfl)) (hw _ (List.mem_of_getElem? (i := 24) rfl)) (hw _ (List.mem_of_getElem? (i := 178) rfl)) (by decide) (MetN.pay (W := 0) (c_uio l ⟨hw, SC0, hz0, SF1, rf1, SU2, SU3, SU4, SP, SN, XP, XN⟩ d kB cs h0 H7.old h1 hn hc he AD) (hw _ (List.mem_of_getElem? (i := 178) rfl)) (hw _ (List.mem_of_getElem? (i := 24) rfl)) (by decide) (by decide)) (g := (mkF m 33 #[.val (.ref x), .val (.int (47 : Int32)), .val (.int (0 : Int32))] [(.int (Int32.ofNat (cs).length)), (.int (0 : Int32)), (.int (47 : Int32)), (.ref d)])) rfl (by rw [hml]; rfl) (argsL := [(.ref d), (.int (47 : Int32)), (.int (0 : Int32)), (.int (Int32.ofNat (cs).length))]) (rest := []) (lenOf pd__ABIII_I rfl) rfl rfl (Nat.le_of_eq rfl) (hb hby d_jdk_42_m80_33) (by decide) (by decide) all0
    refine Rn.pu (g' := (mkF m 36 #[.val (.ref x), .val (.int (47 : Int32)), .val (.int (0 : Int32))] [(.int (-1 : Int32))])) ?_ st8
    exact H8.retI ends_N hlk hret (hb hby d_jdk_42_m80_36) (by decide) (by decide) (fun _ q => nomatch q) ⟨rfl, rfl⟩
set_option maxRecDepth 65536 in
set_option maxHeartbeats 40000000 in
theorem c_ix1 (l : Launch) {Z : State} {a0 : Array Value} {zc : Int32} {fm : Value} {aP : Addr} {aN : Addr} (B : Base Z a0 zc fm aP aN) (x d : Addr) (cs : List Int32) (h0 : Heap) (O : Ext Z.heap h0) (h1 : 0 < cs.length) (hn : cs.length ≤ 2) (he : ∀ c ∈ cs, ¬ c = 47) (F : Str Z h0 x d cs) :
    MetN l Z (⟨"java/lang/String", "indexOf", "(I)I"⟩ : MethodName) jdk_42_method_79_code 2 (some .int) [] ({ frames := 6, cells := 0, slots := 0, locals := 87 } : Room) #[(.ref x), (.int (47 : Int32))] h0 [] (fun v h => v = some (.int (-1)) ∧ h0 = h) := by
  obtain ⟨hw, SC0, hz0, SF1, rf1, SU2, SU3, SU4, SP, SN, XP, XN⟩ := B
  refine MetN.mk (plainFor_of_name pn_java_lang_String) (fun m => ef_c_ix1 m x (47 : Int32)) O ?_
  intro p e s m below meth c T0 hx hby hml hret hlk hnm hsh H0
  have zs : s.heap.size = h0.size := by rw [hsh]
  refine Rn.pu (T' := T0) (g' := (mkF m 1 #[.val (.ref x), .val (.int (47 : Int32))] [(.ref x)])) ?_ fun _ zk => XS.aloadN H0.here hx rfl (hb hby d_jdk_42_m79_0) rfl rfl zk
  refine Rn.pu (T' := T0) (g' := (mkF m 2 #[.val (.ref x), .val (.int (47 : Int32))] [(.int (47 : Int32)), (.ref x)])) ?_ fun _ zk => XS.iloadN H0.here hx rfl (hb hby d_jdk_42_m79_1) rfl zk
  refine Rn.pu (T' := T0) (g' := (mkF m 3 #[.val (.ref x), .val (.int (47 : Int32))] [(.int (0 : Int32)), (.int (47 : Int32)), (.ref x)])) ?_ fun _ zk => XS.iconst H0.here hx rfl (hb hby d_jdk_42_m79_2) zk
  obtain ⟨_, T1, h1, H1, ⟨rfl, rfl⟩, -, st1⟩ := H0.callV (C := "java/lang/String") (hw _ (List.mem_of_getElem? (i := 75) rfl)) (hw _ (List.mem_of_getElem? (i := 76) rfl)) (hw _ (List.mem_of_getElem? (i := 78) rfl)) (hw _ (List.mem_of_getElem? (i := 77) rfl)) (by decide) (MetN.pay (W := 0) (c_ix2 l ⟨hw, SC0, hz0, SF1, rf1, SU2, SU3, SU4, SP, SN, XP, XN⟩ x d cs h0 H0.old h1 hn he F) (hw _ (List.mem_of_getElem? (i := 79) rfl)) (hw _ (List.mem_of_getElem? (i := 10) rfl)) (by decide) (by decide)) F.exa (g := (mkF m 3 #[.val (.ref x), .val (.int (47 : Int32))] [(.int (0 : Int32)), (.int (47 : Int32)), (.ref x)])) rfl (by rw [hml]; rfl) (argsL := [(.int (47 : Int32)), (.int (0 : Int32))]) (rest := []) (lenOf pd__II_I rfl) rfl rfl (Nat.le_of_eq rfl) (hb hby d_jdk_42_m79_3) (by decide) (by decide) all0
  refine Rn.pu (g' := (mkF m 6 #[.val (.ref x), .val (.int (47 : Int32))] [(.int (-1 : Int32))])) ?_ st1
  exact H1.retI ends_N hlk hret (hb hby d_jdk_42_m79_6) (by decide) (by decide) (fun _ q => nomatch q) ⟨rfl, rfl⟩
set_option maxRecDepth 65536 in
set_option maxHeartbeats 40000000 in
theorem c_rnn (l : Launch) {Z : State} {a0 : Array Value} {zc : Int32} {fm : Value} {aP : Addr} {aN : Addr} (B : Base Z a0 zc fm aP aN) (x s0 : Addr) (h0 : Heap) (O : Ext Z.heap h0) :
    MetN l Z (⟨"java/util/Objects", "requireNonNull", "(Ljava/lang/Object;Ljava/lang/String;)Ljava/lang/Object;"⟩ : MethodName) jdk_31_method_11_code 2 (some (.object "java/lang/Object")) [] ({ frames := 0, cells := 0, slots := 0, locals := 0 } : Room) #[(.ref x), (.ref s0)] h0 [] (fun v h => v = some (.ref x) ∧ h0 = h) := by
  obtain ⟨hw, SC0, hz0, SF1, rf1, SU2, SU3, SU4, SP, SN, XP, XN⟩ := B
  refine MetN.mk (plainFor_of_name pn_java_util_Objects) (fun m => ef_c_rnn m x s0) O ?_
  intro p e s m below meth c T0 hx hby hml hret hlk hnm hsh H0
  have zs : s.heap.size = h0.size := by rw [hsh]
  refine Rn.pu (T' := T0) (g' := (mkF m 1 #[.val (.ref x), .val (.ref s0)] [(.ref x)])) ?_ fun _ zk => XS.aloadN H0.here hx rfl (hb hby d_jdk_31_m11_0) rfl rfl zk
  refine Rn.pu (T' := T0) (g' := (mkF m 13 #[.val (.ref x), .val (.ref s0)] [])) ?_ fun _ zk => XT.ifnonnullYes H0.here hx rfl (pc0 := 1) (pc' := 13) rfl (hb hby d_jdk_31_m11_1) rfl (by decide) (by decide) zk
  refine Rn.pu (T' := T0) (g' := (mkF m 14 #[.val (.ref x), .val (.ref s0)] [(.ref x)])) ?_ fun _ zk => XS.aloadN H0.here hx rfl (hb hby d_jdk_31_m11_13) rfl rfl zk
  exact H0.retA ends_N hlk hret rfl rfl rfl (hb hby d_jdk_31_m11_14) (by decide) (by decide) (fun _ q => nomatch q) ⟨rfl, rfl⟩
set_option maxRecDepth 65536 in
set_option maxHeartbeats 40000000 in
theorem c_rec (l : Launch) {Z : State} {a0 : Array Value} {zc : Int32} {fm : Value} {aP : Addr} {aN : Addr} (B : Base Z a0 zc fm aP aN) (x : Addr) (h0 : Heap) (O : Ext Z.heap h0) :
    MetN l Z (⟨"java/lang/Record", "<init>", "()V"⟩ : MethodName) jdk_30_method_1_code 1 none [] ({ frames := 1, cells := 0, slots := 0, locals := 12 } : Room) #[(.ref x)] h0 [] (fun v h => v = none ∧ h0 = h) := by
  obtain ⟨hw, SC0, hz0, SF1, rf1, SU2, SU3, SU4, SP, SN, XP, XN⟩ := B
  refine MetN.mk (plainFor_of_name pn_java_lang_Record) (fun m => ef_c_rec m x) O ?_
  intro p e s m below meth c T0 hx hby hml hret hlk hnm hsh H0
  have zs : s.heap.size = h0.size := by rw [hsh]
  refine Rn.pu (T' := T0) (g' := (mkF m 1 #[.val (.ref x)] [(.ref x)])) ?_ fun _ zk => XS.aloadN H0.here hx rfl (hb hby d_jdk_30_m1_0) rfl rfl zk
  obtain ⟨T1, H1, st1⟩ := H0.initO (hw _ (List.mem_of_getElem? (i := 51) rfl)) (hw _ (List.mem_of_getElem? (i := 19) rfl)) (hw _ (List.mem_of_getElem? (i := 20) rfl)) (g := (mkF m 1 #[.val (.ref x)] [(.ref x)])) rfl (by rw [hml]; rfl) rfl (hb hby d_jdk_30_m1_1) (by decide) (W := 0) (Nat.le_of_eq rfl) (by decide)
  refine Rn.pu (g' := (mkF m 4 #[.val (.ref x)] [])) ?_ st1
  exact H1.retV ends_N hlk hret (hb hby d_jdk_30_m1_4) (by decide) (by decide) (fun _ q => nomatch q) ⟨rfl, rfl⟩
set_option maxRecDepth 65536 in
set_option maxHeartbeats 40000000 in
theorem c_chk (l : Launch) {Z : State} {a0 : Array Value} {zc : Int32} {fm : Value} {aP : Addr} {aN : Addr} (B : Base Z a0 zc fm aP aN) (s0 x d : Addr) (cs : List Int32) (h0 : Heap) (O : Ext Z.heap h0) (h1 : 0 < cs.length) (hn : cs.length ≤ 2) (he : ∀ c ∈ cs, ¬ c = 47) (F : Str Z h0 x d cs) :
    MetN l Z (⟨"com/example/veer32/veer32/bundle/NamespaceName", "checkPart", "(Ljava/lang/String;Ljava/lang/String;)V"⟩ : MethodName) prog_3_method_3_code 2 none [] ({ frames := 7, cells := 0, slots := 0, locals := 100 } : Room) #[(.ref s0), (.ref x)] h0 [] (fun v h => v = none ∧ h0 = h) := by
  obtain ⟨hw, SC0, hz0, SF1, rf1, SU2, SU3, SU4, SP, SN, XP, XN⟩ := B
  refine MetN.mk (plainFor_of_name pn_com_example_veer32_veer32_bundle_NamespaceName) (fun m => ef_c_chk m s0 x) O ?_
  intro p e s m below meth c T0 hx hby hml hret hlk hnm hsh H0
  have zs : s.heap.size = h0.size := by rw [hsh]
  refine Rn.pu (T' := T0) (g' := (mkF m 1 #[.val (.ref s0), .val (.ref x)] [(.ref x)])) ?_ fun _ zk => XS.aloadN H0.here hx rfl (hb hby d_prog_3_m3_0) rfl rfl zk
  refine Rn.pu (T' := T0) (g' := (mkF m 2 #[.val (.ref s0), .val (.ref x)] [(.ref s0), (.ref x)])) ?_ fun _ zk => XS.aloadN H0.here hx rfl (hb hby d_prog_3_m3_1) rfl rfl zk
  obtain ⟨_, T1, h1, H1, ⟨rfl, rfl⟩, -, st1⟩ := H0.callS (hw _ (List.mem_of_getElem? (i := 64) rfl)) (hw _ (List.mem_of_getElem? (i := 56) rfl)) (hw _ (List.mem_of_getElem? (i := 57) rfl)) (hw _ (List.mem_of_getElem? (i := 58) rfl)) (by decide) (MetN.pay (W := 0) (c_rnn l ⟨hw, SC0, hz0, SF1, rf1, SU2, SU3, SU4, SP, SN, XP, XN⟩ x s0 h0 H0.old) (hw _ (List.mem_of_getElem? (i := 58) rfl)) (hw _ (List.mem_of_getElem? (i := 57) rfl)) (by decide) (by decide)) (g := (mkF m 2 #[.val (.ref s0), .val (.ref x)] [(.ref s0), (.ref x)])) rfl (by rw [hml]; rfl) (argsL := [(.ref x), (.ref s0)]) (rest := []) (lenOf pd__Ljava_lang_Object_Ljava_lang_String__Ljava_lang_Object_ rfl) rfl rfl (Nat.le_of_eq rfl) (hb hby d_prog_3_m3_2) (by decide) (by decide) all0
  refine Rn.pu (g' := (mkF m 5 #[.val (.ref s0), .val (.ref x)] [(.ref x)])) ?_ st1
  refine Rn.pu (T' := T1) (g' := (mkF m 6 #[.val (.ref s0), .val (.ref x)] [])) ?_ fun _ zk => XT.pop H1.here hx rfl (hb hby d_prog_3_m3_5) rfl rfl zk
  refine Rn.pu (T' := T1) (g' := (mkF m 7 #[.val (.ref s0), .val (.ref x)] [(.ref x)])) ?_ fun _ zk => XS.aloadN H1.here hx rfl (hb hby d_prog_3_m3_6) rfl rfl zk
  obtain ⟨_, T2, h2, H2, ⟨rfl, rfl⟩, -, st2⟩ := H1.callV (C := "java/lang/String") (hw _ (List.mem_of_getElem? (i := 65) rfl)) (hw _ (List.mem_of_getElem? (i := 66) rfl)) (hw _ (List.mem_of_getElem? (i := 68) rfl)) (hw _ (List.mem_of_getElem? (i := 67) rfl)) (by decide) (payEmp (W := 0) (hws_emp hw) (hw _ (List.mem_of_getElem? (i := 9) rfl)) F (by decide) (by decide)) F.exa (g := (mkF m 7 #[.val (.ref s0), .val (.ref x)] [(.ref x)])) rfl (by rw [hml]; rfl) (argsL := []) (rest := []) (lenOf pd___Z rfl) rfl rfl (Nat.le_of_eq rfl) (hb hby d_prog_3_m3_7) (by decide) (by decide) all0
  refine Rn.pu (g' := (mkF m 10 #[.val (.ref s0), .val (.ref x)] [(.int (if (cs).length = 0 then 1 else 0))])) ?_ st2
  refine Rn.pu (T' := T2) (g' := (mkF m 27 #[.val (.ref s0), .val (.ref x)] [])) ?_ fun _ zk => XS.ifYes H2.here hx rfl (pc0 := 10) (pc' := 27) rfl (hb hby d_prog_3_m3_10) rfl (z_eq_t (if_neg (by omega))) (by decide) (by decide) zk
  refine Rn.pu (T' := T2) (g' := (mkF m 28 #[.val (.ref s0), .val (.ref x)] [(.ref x)])) ?_ fun _ zk => XS.aloadN H2.here hx rfl (hb hby d_prog_3_m3_27) rfl rfl zk
  refine Rn.pu (T' := T2) (g' := (mkF m 30 #[.val (.ref s0), .val (.ref x)] [(.int (47 : Int32)), (.ref x)])) ?_ fun _ zk => XS.bipush H2.here hx rfl (hb hby d_prog_3_m3_28) zk
  obtain ⟨_, T3, h3, H3, ⟨rfl, rfl⟩, -, st3⟩ := H2.callV (C := "java/lang/String") (hw _ (List.mem_of_getElem? (i := 70) rfl)) (hw _ (List.mem_of_getElem? (i := 71) rfl)) (hw _ (List.mem_of_getElem? (i := 73) rfl)) (hw _ (List.mem_of_getElem? (i := 72) rfl)) (by decide) (MetN.pay (W := 0) (c_ix1 l ⟨hw, SC0, hz0, SF1, rf1, SU2, SU3, SU4, SP, SN, XP, XN⟩ x d cs h0 H2.old h1 hn he F) (hw _ (List.mem_of_getElem? (i := 74) rfl)) (hw _ (List.mem_of_getElem? (i := 10) rfl)) (by decide) (by decide)) F.exa (g := (mkF m 30 #[.val (.ref s0), .val (.ref x)] [(.int (47 : Int32)), (.ref x)])) rfl (by rw [hml]; rfl) (argsL := [(.int (47 : Int32))]) (rest := []) (lenOf pd__I_I rfl) rfl rfl (Nat.le_of_eq rfl) (hb hby d_prog_3_m3_30) (by decide) (by decide) all0
  refine Rn.pu (g' := (mkF m 33 #[.val (.ref s0), .val (.ref x)] [(.int (-1 : Int32))])) ?_ st3
  refine Rn.pu (T' := T3) (g' := (mkF m 51 #[.val (.ref s0), .val (.ref x)] [])) ?_ fun _ zk => XS.ifYes H3.here hx rfl (pc0 := 33) (pc' := 51) rfl (hb hby d_prog_3_m3_33) rfl (z_lt_t (by decide)) (by decide) (by decide) zk
  exact H3.retV ends_N hlk hret (hb hby d_prog_3_m3_51) (by decide) (by decide) (fun _ q => nomatch q) ⟨rfl, rfl⟩
set_option maxRecDepth 65536 in
set_option maxHeartbeats 40000000 in
theorem c_nsi (l : Launch) {Z : State} {a0 : Array Value} {zc : Int32} {fm : Value} {aP : Addr} {aN : Addr} (B : Base Z a0 zc fm aP aN) (x s1 t1 s2 t2 : Addr) (c1 c2 : List Int32) (h0 : Heap) (O : Ext Z.heap h0) (E : Exa Z h0 x "com/example/veer32/veer32/bundle/NamespaceName") (G0 : Fld Z h0 x "com/example/veer32/veer32/bundle/NamespaceName" "tenant" "Ljava/lang/String;" .null) (G1 : Fld Z h0 x "com/example/veer32/veer32/bundle/NamespaceName" "localName" "Ljava/lang/String;" .null) (gx : Z.heap.size ≤ x) (nx1 : @Ne Nat s1 x) (ny1 : @Ne Nat t1 x) (nx2 : @Ne Nat s2 x) (ny2 : @Ne Nat t2 x) (u1 : Str Z h0 s1 t1 c1) (p1 : 0 < c1.length) (q1 : c1.length ≤ 2) (ez1 : ∀ c ∈ c1, ¬ c = 47) (u2 : Str Z h0 s2 t2 c2) (p2 : 0 < c2.length) (q2 : c2.length ≤ 2) (ez2 : ∀ c ∈ c2, ¬ c = 47) :
    MetW l Z (⟨"com/example/veer32/veer32/bundle/NamespaceName", "<init>", "(Ljava/lang/String;Ljava/lang/String;)V"⟩ : MethodName) prog_3_method_1_code 3 none [] ({ frames := 8, cells := 4, slots := 68, locals := 115 } : Room) #[(.ref x), (.ref s1), (.ref s2)] h0 [x] ((fun _ => True)) (fun v vm h => v = none ∧ Exa Z h x "com/example/veer32/veer32/bundle/NamespaceName" ∧ Fld Z h x "com/example/veer32/veer32/bundle/NamespaceName" "tenant" "Ljava/lang/String;" (.ref s1) ∧ Fld Z h x "com/example/veer32/veer32/bundle/NamespaceName" "localName" "Ljava/lang/String;" (.ref s2)) := by
  obtain ⟨hw, SC0, hz0, SF1, rf1, SU2, SU3, SU4, SP, SN, XP, XN⟩ := B
  refine MetW.mk (plainFor_of_name pn_com_example_veer32_veer32_bundle_NamespaceName) (fun m => ef_c_nsi m x s1 s2) O ?_
  intro p e s m below meth c T0 hx hby hml hret hlk hnm hsh H0
  have zs : s.heap.size = h0.size := by rw [hsh]
  have lx := natlt (E).lt
  have H0 := H0.weak (ws' := [x]) (fun _ q => nomatch q) (allS gx all0)
  have ls1 := natlt (u1).lt
  have lt1 := natlt (u1).ltt
  have ls2 := natlt (u2).lt
  have lt2 := natlt (u2).ltt
  refine Rn.pu (T' := T0) (g' := (mkF m 1 #[.val (.ref x), .val (.ref s1), .val (.ref s2)] [(.ref x)])) ?_ fun _ zk => XS.aloadN H0.here hx rfl (hb hby d_prog_3_m1_0) rfl rfl zk
  obtain ⟨_, T1, h1, H1, ⟨rfl, rfl⟩, -, st1⟩ := H0.callI rfl (hw _ (List.mem_of_getElem? (i := 132) rfl)) (hw _ (List.mem_of_getElem? (i := 47) rfl)) (hw _ (List.mem_of_getElem? (i := 50) rfl)) (by decide) (MetN.pay (W := 0) (c_rec l ⟨hw, SC0, hz0, SF1, rf1, SU2, SU3, SU4, SP, SN, XP, XN⟩ x h0 H0.old) (hw _ (List.mem_of_getElem? (i := 50) rfl)) (hw _ (List.mem_of_getElem? (i := 49) rfl)) (by decide) (by decide)) (g := (mkF m 1 #[.val (.ref x), .val (.ref s1), .val (.ref s2)] [(.ref x)])) rfl (by rw [hml]; rfl) (argsL := []) (rest := []) (lenOf pd___V rfl) rfl rfl (Nat.le_of_eq rfl) (hb hby d_prog_3_m1_1) (by decide) (by decide) all0
  refine Rn.pu (g' := (mkF m 4 #[.val (.ref x), .val (.ref s1), .val (.ref s2)] [])) ?_ st1
  obtain ⟨a2, T2, h2, H2, K2, st2⟩ := H1.ldcS (hw _ (List.mem_of_getElem? (i := 133) rfl)) (hws_sa hw) (g := (mkF m 4 #[.val (.ref x), .val (.ref s1), .val (.ref s2)] [])) rfl (hb hby d_prog_3_m1_4) (n := 24) (by decide) (by decide) (by decide) (by decide)
  have zh2 := K2.1
  refine Rn.pu (g' := (mkF m 6 #[.val (.ref x), .val (.ref s1), .val (.ref s2)] [(.ref a2)])) ?_ st2
  refine Rn.pu (T' := T2) (g' := (mkF m 7 #[.val (.ref x), .val (.ref s1), .val (.ref s2)] [(.ref s1), (.ref a2)])) ?_ fun _ zk => XS.aloadN H2.here hx rfl (hb hby d_prog_3_m1_6) rfl rfl zk
  obtain ⟨_, T3, h3, H3, ⟨rfl, rfl⟩, -, st3⟩ := H2.callS (hw _ (List.mem_of_getElem? (i := 134) rfl)) (hw _ (List.mem_of_getElem? (i := 61) rfl)) (hw _ (List.mem_of_getElem? (i := 62) rfl)) (hw _ (List.mem_of_getElem? (i := 63) rfl)) (by decide) (MetN.pay (W := 0) (c_chk l ⟨hw, SC0, hz0, SF1, rf1, SU2, SU3, SU4, SP, SN, XP, XN⟩ a2 s1 t1 c1 h2 H2.old p1 q1 ez1 (u1.keep K2 nin0 nin0)) (hw _ (List.mem_of_getElem? (i := 63) rfl)) (hw _ (List.mem_of_getElem? (i := 62) rfl)) (by decide) (by decide)) (g := (mkF m 7 #[.val (.ref x), .val (.ref s1), .val (.ref s2)] [(.ref s1), (.ref a2)])) rfl (by rw [hml]; rfl) (argsL := [(.ref a2), (.ref s1)]) (rest := []) (lenOf pd__Ljava_lang_String_Ljava_lang_String__V rfl) rfl rfl (Nat.le_of_eq rfl) (hb hby d_prog_3_m1_7) (by decide) (by decide) all0
  refine Rn.pu (g' := (mkF m 10 #[.val (.ref x), .val (.ref s1), .val (.ref s2)] [])) ?_ st3
  obtain ⟨a4, T4, h4, H4, K4, st4⟩ := H3.ldcS (hw _ (List.mem_of_getElem? (i := 135) rfl)) (hws_sa hw) (g := (mkF m 10 #[.val (.ref x), .val (.ref s1), .val (.ref s2)] [])) rfl (hb hby d_prog_3_m1_10) (n := 36) (by decide) (by decide) (by decide) (by decide)
  have zh4 := K4.1
  refine Rn.pu (g' := (mkF m 12 #[.val (.ref x), .val (.ref s1), .val (.ref s2)] [(.ref a4)])) ?_ st4
  refine Rn.pu (T' := T4) (g' := (mkF m 13 #[.val (.ref x), .val (.ref s1), .val (.ref s2)] [(.ref s2), (.ref a4)])) ?_ fun _ zk => XS.aloadN H4.here hx rfl (hb hby d_prog_3_m1_12) rfl rfl zk
  obtain ⟨_, T5, h5, H5, ⟨rfl, rfl⟩, -, st5⟩ := H4.callS (hw _ (List.mem_of_getElem? (i := 134) rfl)) (hw _ (List.mem_of_getElem? (i := 61) rfl)) (hw _ (List.mem_of_getElem? (i := 62) rfl)) (hw _ (List.mem_of_getElem? (i := 63) rfl)) (by decide) (MetN.pay (W := 0) (c_chk l ⟨hw, SC0, hz0, SF1, rf1, SU2, SU3, SU4, SP, SN, XP, XN⟩ a4 s2 t2 c2 h4 H4.old p2 q2 ez2 ((u2.keep K2 nin0 nin0).keep K4 nin0 nin0)) (hw _ (List.mem_of_getElem? (i := 63) rfl)) (hw _ (List.mem_of_getElem? (i := 62) rfl)) (by decide) (by decide)) (g := (mkF m 13 #[.val (.ref x), .val (.ref s1), .val (.ref s2)] [(.ref s2), (.ref a4)])) rfl (by rw [hml]; rfl) (argsL := [(.ref a4), (.ref s2)]) (rest := []) (lenOf pd__Ljava_lang_String_Ljava_lang_String__V rfl) rfl rfl (Nat.le_of_eq rfl) (hb hby d_prog_3_m1_13) (by decide) (by decide) all0
  refine Rn.pu (g' := (mkF m 16 #[.val (.ref x), .val (.ref s1), .val (.ref s2)] [])) ?_ st5
  refine Rn.pu (T' := T5) (g' := (mkF m 17 #[.val (.ref x), .val (.ref s1), .val (.ref s2)] [(.ref x)])) ?_ fun _ zk => XS.aloadN H5.here hx rfl (hb hby d_prog_3_m1_16) rfl rfl zk
  refine Rn.pu (T' := T5) (g' := (mkF m 18 #[.val (.ref x), .val (.ref s1), .val (.ref s2)] [(.ref s1), (.ref x)])) ?_ fun _ zk => XS.aloadN H5.here hx rfl (hb hby d_prog_3_m1_17) rfl rfl zk
  obtain ⟨T6, h6, H6, K6, W6, st6⟩ := H5.putF (host := "") (Or.inl (hw _ (List.mem_of_getElem? (i := 136) rfl))) Via.refl ((G0.keep K2 nin0).keep K4 nin0) ((E.keep K2).keep K4) (Or.inr ⟨(hw _ (List.mem_of_getElem? (i := 137) rfl)), rfl, hnm⟩) (hw _ (List.mem_of_getElem? (i := 128) rfl)) (ty := (.object "java/lang/String")) (by decide) rfl rfl (Or.inl (List.mem_singleton.mpr rfl)) (g := (mkF m 18 #[.val (.ref x), .val (.ref s1), .val (.ref s2)] [(.ref s1), (.ref x)])) rfl rfl (hb hby d_prog_3_m1_18)
  have zh6 := K6.1
  have F6_tenant : Fld Z h6 x "com/example/veer32/veer32/bundle/NamespaceName" "tenant" "Ljava/lang/String;" (.ref s1) := ((G0.keep K2 nin0).keep K4 nin0).same W6
  have E6 := ((E.keep K2).keep K4).keep K6
  have F6_localName : Fld Z h6 x "com/example/veer32/veer32/bundle/NamespaceName" "localName" "Ljava/lang/String;" .null := ((G1.keep K2 nin0).keep K4 nin0).other W6 (Or.inr (slot_ne (Or.inr (hw _ (List.mem_of_getElem? (i := 139) rfl))) (Or.inr (hw _ (List.mem_of_getElem? (i := 137) rfl))) (by decide) (t := (.object "java/lang/String")) (t' := (.object "java/lang/String")) (by decide) (by decide)))
  refine Rn.pu (g' := (mkF m 21 #[.val (.ref x), .val (.ref s1), .val (.ref s2)] [])) ?_ st6
  refine Rn.pu (T' := T6) (g' := (mkF m 22 #[.val (.ref x), .val (.ref s1), .val (.ref s2)] [(.ref x)])) ?_ fun _ zk => XS.aloadN H6.here hx rfl (hb hby d_prog_3_m1_21) rfl rfl zk
  refine Rn.pu (T' := T6) (g' := (mkF m 23 #[.val (.ref x), .val (.ref s1), .val (.ref s2)] [(.ref s2), (.ref x)])) ?_ fun _ zk => XS.aloadN H6.here hx rfl (hb hby d_prog_3_m1_22) rfl rfl zk
  obtain ⟨T7, h7, H7, K7, W7, st7⟩ := H6.putF (host := "") (Or.inl (hw _ (List.mem_of_getElem? (i := 138) rfl))) Via.refl F6_localName E6 (Or.inr ⟨(hw _ (List.mem_of_getElem? (i := 139) rfl)), rfl, hnm⟩) (hw _ (List.mem_of_getElem? (i := 128) rfl)) (ty := (.object "java/lang/String")) (by decide) rfl rfl (Or.inl (List.mem_singleton.mpr rfl)) (g := (mkF m 23 #[.val (.ref x), .val (.ref s1), .val (.ref s2)] [(.ref s2), (.ref x)])) rfl rfl (hb hby d_prog_3_m1_23)
  have zh7 := K7.1
  have F7_localName : Fld Z h7 x "com/example/veer32/veer32/bundle/NamespaceName" "localName" "Ljava/lang/String;" (.ref s2) := F6_localName.same W7
  have E7 := E6.keep K7
  have F7_tenant : Fld Z h7 x "com/example/veer32/veer32/bundle/NamespaceName" "tenant" "Ljava/lang/String;" (.ref s1) := F6_tenant.other W7 (Or.inr (slot_ne (Or.inr (hw _ (List.mem_of_getElem? (i := 137) rfl))) (Or.inr (hw _ (List.mem_of_getElem? (i := 139) rfl))) (by decide) (t := (.object "java/lang/String")) (t' := (.object "java/lang/String")) (by decide) (by decide)))
  refine Rn.pu (g' := (mkF m 26 #[.val (.ref x), .val (.ref s1), .val (.ref s2)] [])) ?_ st7
  exact H7.retV ends_W hlk hret (hb hby d_prog_3_m1_26) (by decide) (by decide) (fun _ q => q) ⟨rfl, E7, F7_tenant, F7_localName⟩
set_option maxRecDepth 65536 in
set_option maxHeartbeats 40000000 in
theorem c_tni (l : Launch) {Z : State} {a0 : Array Value} {zc : Int32} {fm : Value} {aP : Addr} {aN : Addr} (B : Base Z a0 zc fm aP aN) (x s0 s1 t1 s2 t2 s3 t3 : Addr) (c1 c2 c3 : List Int32) (h0 : Heap) (O : Ext Z.heap h0) (E : Exa Z h0 x "com/example/veer32/veer32/bundle/TopicName") (G0 : Fld Z h0 x "com/example/veer32/veer32/bundle/TopicName" "domain" "Lcom/example/veer32/veer32/bundle/TopicName$Domain;" .null) (G1 : Fld Z h0 x "com/example/veer32/veer32/bundle/TopicName" "tenant" "Ljava/lang/String;" .null) (G2 : Fld Z h0 x "com/example/veer32/veer32/bundle/TopicName" "namespace" "Ljava/lang/String;" .null) (G3 : Fld Z h0 x "com/example/veer32/veer32/bundle/TopicName" "localName" "Ljava/lang/String;" .null) (gx : Z.heap.size ≤ x) (nx1 : @Ne Nat s1 x) (ny1 : @Ne Nat t1 x) (nx2 : @Ne Nat s2 x) (ny2 : @Ne Nat t2 x) (nx3 : @Ne Nat s3 x) (ny3 : @Ne Nat t3 x) (u1 : Str Z h0 s1 t1 c1) (p1 : 0 < c1.length) (q1 : c1.length ≤ 2) (ez1 : ∀ c ∈ c1, ¬ c = 47) (u2 : Str Z h0 s2 t2 c2) (p2 : 0 < c2.length) (q2 : c2.length ≤ 2) (ez2 : ∀ c ∈ c2, ¬ c = 47) (u3 : Str Z h0 s3 t3 c3) (p3 : 0 < c3.length) (q3 : c3.length ≤ 2) (ez3 : ∀ c ∈ c3, ¬ c = 47) :
    MetW l Z (⟨"com/example/veer32/veer32/bundle/TopicName", "<init>", "(Lcom/example/veer32/veer32/bundle/TopicName$Domain;Ljava/lang/String;Ljava/lang/String;Ljava/lang/String;)V"⟩ : MethodName) prog_5_method_1_code 5 none [] ({ frames := 8, cells := 8, slots := 120, locals := 115 } : Room) #[(.ref x), (.ref s0), (.ref s1), (.ref s2), (.ref s3)] h0 [x] ((fun _ => True)) (fun v vm h => v = none ∧ Exa Z h x "com/example/veer32/veer32/bundle/TopicName" ∧ Fld Z h x "com/example/veer32/veer32/bundle/TopicName" "domain" "Lcom/example/veer32/veer32/bundle/TopicName$Domain;" (.ref s0) ∧ Fld Z h x "com/example/veer32/veer32/bundle/TopicName" "tenant" "Ljava/lang/String;" (.ref s1) ∧ Fld Z h x "com/example/veer32/veer32/bundle/TopicName" "namespace" "Ljava/lang/String;" (.ref s2) ∧ Fld Z h x "com/example/veer32/veer32/bundle/TopicName" "localName" "Ljava/lang/String;" (.ref s3)) := by
  obtain ⟨hw, SC0, hz0, SF1, rf1, SU2, SU3, SU4, SP, SN, XP, XN⟩ := B
  refine MetW.mk (plainFor_of_name pn_com_example_veer32_veer32_bundle_TopicName) (fun m => ef_c_tni m x s0 s1 s2 s3) O ?_
  intro p e s m below meth c T0 hx hby hml hret hlk hnm hsh H0
  have zs : s.heap.size = h0.size := by rw [hsh]
  have lx := natlt (E).lt
  have H0 := H0.weak (ws' := [x]) (fun _ q => nomatch q) (allS gx all0)
  have ls1 := natlt (u1).lt
  have lt1 := natlt (u1).ltt
  have ls2 := natlt (u2).lt
  have lt2 := natlt (u2).ltt
  have ls3 := natlt (u3).lt
  have lt3 := natlt (u3).ltt
  refine Rn.pu (T' := T0) (g' := (mkF m 1 #[.val (.ref x), .val (.ref s0), .val (.ref s1), .val (.ref s2), .val (.ref s3)] [(.ref x)])) ?_ fun _ zk => XS.aloadN H0.here hx rfl (hb hby d_prog_5_m1_0) rfl rfl zk
  obtain ⟨_, T1, h1, H1, ⟨rfl, rfl⟩, -, st1⟩ := H0.callI rfl (hw _ (List.mem_of_getElem? (i := 46) rfl)) (hw _ (List.mem_of_getElem? (i := 47) rfl)) (hw _ (List.mem_of_getElem? (i := 50) rfl)) (by decide) (MetN.pay (W := 0) (c_rec l ⟨hw, SC0, hz0, SF1, rf1, SU2, SU3, SU4, SP, SN, XP, XN⟩ x h0 H0.old) (hw _ (List.mem_of_getElem? (i := 50) rfl)) (hw _ (List.mem_of_getElem? (i := 49) rfl)) (by decide) (by decide)) (g := (mkF m 1 #[.val (.ref x), .val (.ref s0), .val (.ref s1), .val (.ref s2), .val (.ref s3)] [(.ref x)])) rfl (by rw [hml]; rfl) (argsL := []) (rest := []) (lenOf pd___V rfl) rfl rfl (Nat.le_of_eq rfl) (hb hby d_prog_5_m1_1) (by decide) (by decide) all0
  refine Rn.pu (g' := (mkF m 4 #[.val (.ref x), .val (.ref s0), .val (.ref s1), .val (.ref s2), .val (.ref s3)] [])) ?_ st1
  refine Rn.pu (T' := T1) (g' := (mkF m 5 #[.val (.ref x), .val (.ref s0), .val (.ref s1), .val (.ref s2), .val (.ref s3)] [(.ref s0)])) ?_ fun _ zk => XS.aloadN H1.here hx rfl (hb hby d_prog_5_m1_4) rfl rfl zk
  obtain ⟨a2, T2, h2, H2, K2, st2⟩ := H1.ldcS (hw _ (List.mem_of_getElem? (i := 52) rfl)) (hws_sa hw) (g := (mkF m 5 #[.val (.ref x), .val (.ref s0), .val (.ref s1), .val (.ref s2), .val (.ref s3)] [(.ref s0)])) rfl (hb hby d_prog_5_m1_5) (n := 24) (by decide) (by decide) (by decide) (by decide)
  have zh2 := K2.1
  refine Rn.pu (g' := (mkF m 7 #[.val (.ref x), .val (.ref s0), .val (.ref s1), .val (.ref s2), .val (.ref s3)] [(.ref a2), (.ref s0)])) ?_ st2
  obtain ⟨_, T3, h3, H3, ⟨rfl, rfl⟩, -, st3⟩ := H2.callS (hw _ (List.mem_of_getElem? (i := 55) rfl)) (hw _ (List.mem_of_getElem? (i := 56) rfl)) (hw _ (List.mem_of_getElem? (i := 57) rfl)) (hw _ (List.mem_of_getElem? (i := 58) rfl)) (by decide) (MetN.pay (W := 0) (c_rnn l ⟨hw, SC0, hz0, SF1, rf1, SU2, SU3, SU4, SP, SN, XP, XN⟩ s0 a2 h2 H2.old) (hw _ (List.mem_of_getElem? (i := 58) rfl)) (hw _ (List.mem_of_getElem? (i := 57) rfl)) (by decide) (by decide)) (g := (mkF m 7 #[.val (.ref x), .val (.ref s0), .val (.ref s1), .val (.ref s2), .val (.ref s3)] [(.ref a2), (.ref s0)])) rfl (by rw [hml]; rfl) (argsL := [(.ref s0), (.ref a2)]) (rest := []) (lenOf pd__Ljava_lang_Object_Ljava_lang_String__Ljava_lang_Object_ rfl) rfl rfl (Nat.le_of_eq rfl) (hb hby d_prog_5_m1_7) (by decide) (by decide) all0
  refine Rn.pu (g' := (mkF m 10 #[.val (.ref x), .val (.ref s0), .val (.ref s1), .val (.ref s2), .val (.ref s3)] [(.ref s0)])) ?_ st3
  refine Rn.pu (T' := T3) (g' := (mkF m 11 #[.val (.ref x), .val (.ref s0), .val (.ref s1), .val (.ref s2), .val (.ref s3)] [])) ?_ fun _ zk => XT.pop H3.here hx rfl (hb hby d_prog_5_m1_10) rfl rfl zk
  obtain ⟨a4, T4, h4, H4, K4, st4⟩ := H3.ldcS (hw _ (List.mem_of_getElem? (i := 59) rfl)) (hws_sa hw) (g := (mkF m 11 #[.val (.ref x), .val (.ref s0), .val (.ref s1), .val (.ref s2), .val (.ref s3)] [])) rfl (hb hby d_prog_5_m1_11) (n := 24) (by decide) (by decide) (by decide) (by decide)
  have zh4 := K4.1
  refine Rn.pu (g' := (mkF m 13 #[.val (.ref x), .val (.ref s0), .val (.ref s1), .val (.ref s2), .val (.ref s3)] [(.ref a4)])) ?_ st4
  refine Rn.pu (T' := T4) (g' := (mkF m 14 #[.val (.ref x), .val (.ref s0), .val (.ref s1), .val (.ref s2), .val (.ref s3)] [(.ref s1), (.ref a4)])) ?_ fun _ zk => XS.aloadN H4.here hx rfl (hb hby d_prog_5_m1_13) rfl rfl zk
  obtain ⟨_, T5, h5, H5, ⟨rfl, rfl⟩, -, st5⟩ := H4.callS (hw _ (List.mem_of_getElem? (i := 60) rfl)) (hw _ (List.mem_of_getElem? (i := 61) rfl)) (hw _ (List.mem_of_getElem? (i := 62) rfl)) (hw _ (List.mem_of_getElem? (i := 63) rfl)) (by decide) (MetN.pay (W := 0) (c_chk l ⟨hw, SC0, hz0, SF1, rf1, SU2, SU3, SU4, SP, SN, XP, XN⟩ a4 s1 t1 c1 h4 H4.old p1 q1 ez1 ((u1.keep K2 nin0 nin0).keep K4 nin0 nin0)) (hw _ (List.mem_of_getElem? (i := 63) rfl)) (hw _ (List.mem_of_getElem? (i := 62) rfl)) (by decide) (by decide)) (g := (mkF m 14 #[.val (.ref x), .val (.ref s0), .val (.ref s1), .val (.ref s2), .val (.ref s3)] [(.ref s1), (.ref a4)])) rfl (by rw [hml]; rfl) (argsL := [(.ref a4), (.ref s1)]) (rest := []) (lenOf pd__Ljava_lang_String_Ljava_lang_String__V rfl) rfl rfl (Nat.le_of_eq rfl) (hb hby d_prog_5_m1_14) (by decide) (by decide) all0
  refine Rn.pu (g' := (mkF m 17 #[.val (.ref x), .val (.ref s0), .val (.ref s1), .val (.ref s2), .val (.ref s3)] [])) ?_ st5
  obtain ⟨a6, T6, h6, H6, K6, st6⟩ := H5.ldcS (hw _ (List.mem_of_getElem? (i := 112) rfl)) (hws_sa hw) (g := (mkF m 17 #[.val (.ref x), .val (.ref s0), .val (.ref s1), .val (.ref s2), .val (.ref s3)] [])) rfl (hb hby d_prog_5_m1_17) (n := 36) (by decide) (by decide) (by decide) (by decide)
  have zh6 := K6.1
  refine Rn.pu (g' := (mkF m 19 #[.val (.ref x), .val (.ref s0), .val (.ref s1), .val (.ref s2), .val (.ref s3)] [(.ref a6)])) ?_ st6
  refine Rn.pu (T' := T6) (g' := (mkF m 20 #[.val (.ref x), .val (.ref s0), .val (.ref s1), .val (.ref s2), .val (.ref s3)] [(.ref s2), (.ref a6)])) ?_ fun _ zk => XS.aloadN H6.here hx rfl (hb hby d_prog_5_m1_19) rfl rfl zk
  obtain ⟨_, T7, h7, H7, ⟨rfl, rfl⟩, -, st7⟩ := H6.callS (hw _ (List.mem_of_getElem? (i := 60) rfl)) (hw _ (List.mem_of_getElem? (i := 61) rfl)) (hw _ (List.mem_of_getElem? (i := 62) rfl)) (hw _ (List.mem_of_getElem? (i := 63) rfl)) (by decide) (MetN.pay (W := 0) (c_chk l ⟨hw, SC0, hz0, SF1, rf1, SU2, SU3, SU4, SP, SN, XP, XN⟩ a6 s2 t2 c2 h6 H6.old p2 q2 ez2 (((u2.keep K2 nin0 nin0).keep K4 nin0 nin0).keep K6 nin0 nin0)) (hw _ (List.mem_of_getElem? (i := 63) rfl)) (hw _ (List.mem_of_getElem? (i := 62) rfl)) (by decide) (by decide)) (g := (mkF m 20 #[.val (.ref x), .val (.ref s0), .val (.ref s1), .val (.ref s2), .val (.ref s3)] [(.ref s2), (.ref a6)])) rfl (by rw [hml]; rfl) (argsL := [(.ref a6), (.ref s2)]) (rest := []) (lenOf pd__Ljava_lang_String_Ljava_lang_String__V rfl) rfl rfl (Nat.le_of_eq rfl) (hb hby d_prog_5_m1_20) (by decide) (by decide) all0
  refine Rn.pu (g' := (mkF m 23 #[.val (.ref x), .val (.ref s0), .val (.ref s1), .val (.ref s2), .val (.ref s3)] [])) ?_ st7
  obtain ⟨a8, T8, h8, H8, K8, st8⟩ := H7.ldcS (hw _ (List.mem_of_getElem? (i := 113) rfl)) (hws_sa hw) (g := (mkF m 23 #[.val (.ref x), .val (.ref s0), .val (.ref s1), .val (.ref s2), .val (.ref s3)] [])) rfl (hb hby d_prog_5_m1_23) (n := 20) (by decide) (by decide) (by decide) (by decide)
  have zh8 := K8.1
  refine Rn.pu (g' := (mkF m 25 #[.val (.ref x), .val (.ref s0), .val (.ref s1), .val (.ref s2), .val (.ref s3)] [(.ref a8)])) ?_ st8
  refine Rn.pu (T' := T8) (g' := (mkF m 27 #[.val (.ref x), .val (.ref s0), .val (.ref s1), .val (.ref s2), .val (.ref s3)] [(.ref s3), (.ref a8)])) ?_ fun _ zk => XS.aload H8.here hx rfl (hb hby d_prog_5_m1_25) rfl rfl zk
  obtain ⟨_, T9, h9, H9, ⟨rfl, rfl⟩, -, st9⟩ := H8.callS (hw _ (List.mem_of_getElem? (i := 60) rfl)) (hw _ (List.mem_of_getElem? (i := 61) rfl)) (hw _ (List.mem_of_getElem? (i := 62) rfl)) (hw _ (List.mem_of_getElem? (i := 63) rfl)) (by decide) (MetN.pay (W := 0) (c_chk l ⟨hw, SC0, hz0, SF1, rf1, SU2, SU3, SU4, SP, SN, XP, XN⟩ a8 s3 t3 c3 h8 H8.old p3 q3 ez3 ((((u3.keep K2 nin0 nin0).keep K4 nin0 nin0).keep K6 nin0 nin0).keep K8 nin0 nin0)) (hw _ (List.mem_of_getElem? (i := 63) rfl)) (hw _ (List.mem_of_getElem? (i := 62) rfl)) (by decide) (by decide)) (g := (mkF m 27 #[.val (.ref x), .val (.ref s0), .val (.ref s1), .val (.ref s2), .val (.ref s3)] [(.ref s3), (.ref a8)])) rfl (by rw [hml]; rfl) (argsL := [(.ref a8), (.ref s3)]) (rest := []) (lenOf pd__Ljava_lang_String_Ljava_lang_String__V rfl) rfl rfl (Nat.le_of_eq rfl) (hb hby d_prog_5_m1_27) (by decide) (by decide) all0
  refine Rn.pu (g' := (mkF m 30 #[.val (.ref x), .val (.ref s0), .val (.ref s1), .val (.ref s2), .val (.ref s3)] [])) ?_ st9
  refine Rn.pu (T' := T9) (g' := (mkF m 31 #[.val (.ref x), .val (.ref s0), .val (.ref s1), .val (.ref s2), .val (.ref s3)] [(.ref x)])) ?_ fun _ zk => XS.aloadN H9.here hx rfl (hb hby d_prog_5_m1_30) rfl rfl zk
  refine Rn.pu (T' := T9) (g' := (mkF m 32 #[.val (.ref x), .val (.ref s0), .val (.ref s1), .val (.ref s2), .val (.ref s3)] [(.ref s0), (.ref x)])) ?_ fun _ zk => XS.aloadN H9.here hx rfl (hb hby d_prog_5_m1_31) rfl rfl zk
  obtain ⟨T10, h10, H10, K10, W10, st10⟩ := H9.putF (host := "") (Or.inl (hw _ (List.mem_of_getElem? (i := 114) rfl))) Via.refl ((((G0.keep K2 nin0).keep K4 nin0).keep K6 nin0).keep K8 nin0) ((((E.keep K2).keep K4).keep K6).keep K8) (Or.inr ⟨(hw _ (List.mem_of_getElem? (i := 115) rfl)), rfl, hnm⟩) (hw _ (List.mem_of_getElem? (i := 41) rfl)) (ty := (.object "com/example/veer32/veer32/bundle/TopicName$Domain")) (by decide) rfl rfl (Or.inl (List.mem_singleton.mpr rfl)) (g := (mkF m 32 #[.val (.ref x), .val (.ref s0), .val (.ref s1), .val (.ref s2), .val (.ref s3)] [(.ref s0), (.ref x)])) rfl rfl (hb hby d_prog_5_m1_32)
  have zh10 := K10.1
  have F10_domain : Fld Z h10 x "com/example/veer32/veer32/bundle/TopicName" "domain" "Lcom/example/veer32/veer32/bundle/TopicName$Domain;" (.ref s0) := ((((G0.keep K2 nin0).keep K4 nin0).keep K6 nin0).keep K8 nin0).same W10
  have E10 := ((((E.keep K2).keep K4).keep K6).keep K8).keep K10
  have F10_tenant : Fld Z h10 x "com/example/veer32/veer32/bundle/TopicName" "tenant" "Ljava/lang/String;" .null := ((((G1.keep K2 nin0).keep K4 nin0).keep K6 nin0).keep K8 nin0).other W10 (Or.inr (slot_ne (Or.inr (hw _ (List.mem_of_getElem? (i := 117) rfl))) (Or.inr (hw _ (List.mem_of_getElem? (i := 115) rfl))) (by decide) (t := (.object "java/lang/String")) (t' := (.object "com/example/veer32/veer32/bundle/TopicName$Domain")) (by decide) (by decide)))
  have F10_namespace : Fld Z h10 x "com/example/veer32/veer32/bundle/TopicName" "namespace" "Ljava/lang/String;" .null := ((((G2.keep K2 nin0).keep K4 nin0).keep K6 nin0).keep K8 nin0).other W10 (Or.inr (slot_ne (Or.inr (hw _ (List.mem_of_getElem? (i := 119) rfl))) (Or.inr (hw _ (List.mem_of_getElem? (i := 115) rfl))) (by decide) (t := (.object "java/lang/String")) (t' := (.object "com/example/veer32/veer32/bundle/TopicName$Domain")) (by decide) (by decide)))
  have F10_localName : Fld Z h10 x "com/example/veer32/veer32/bundle/TopicName" "localName" "Ljava/lang/String;" .null := ((((G3.keep K2 nin0).keep K4 nin0).keep K6 nin0).keep K8 nin0).other W10 (Or.inr (slot_ne (Or.inr (hw _ (List.mem_of_getElem? (i := 121) rfl))) (Or.inr (hw _ (List.mem_of_getElem? (i := 115) rfl))) (by decide) (t := (.object "java/lang/String")) (t' := (.object "com/example/veer32/veer32/bundle/TopicName$Domain")) (by decide) (by decide)))
  refine Rn.pu (g' := (mkF m 35 #[.val (.ref x), .val (.ref s0), .val (.ref s1), .val (.ref s2), .val (.ref s3)] [])) ?_ st10
  refine Rn.pu (T' := T10) (g' := (mkF m 36 #[.val (.ref x), .val (.ref s0), .val (.ref s1), .val (.ref s2), .val (.ref s3)] [(.ref x)])) ?_ fun _ zk => XS.aloadN H10.here hx rfl (hb hby d_prog_5_m1_35) rfl rfl zk
  refine Rn.pu (T' := T10) (g' := (mkF m 37 #[.val (.ref x), .val (.ref s0), .val (.ref s1), .val (.ref s2), .val (.ref s3)] [(.ref s1), (.ref x)])) ?_ fun _ zk => XS.aloadN H10.here hx rfl (hb hby d_prog_5_m1_36) rfl rfl zk
  obtain ⟨T11, h11, H11, K11, W11, st11⟩ := H10.putF (host := "") (Or.inl (hw _ (List.mem_of_getElem? (i := 116) rfl))) Via.refl F10_tenant E10 (Or.inr ⟨(hw _ (List.mem_of_getElem? (i := 117) rfl)), rfl, hnm⟩) (hw _ (List.mem_of_getElem? (i := 41) rfl)) (ty := (.object "java/lang/String")) (by decide) rfl rfl (Or.inl (List.mem_singleton.mpr rfl)) (g := (mkF m 37 #[.val (.ref x), .val (.ref s0), .val (.ref s1), .val (.ref s2), .val (.ref s3)] [(.ref s1), (.ref x)])) rfl rfl (hb hby d_prog_5_m1_37)
  have zh11 := K11.1
  have F11_tenant : Fld Z h11 x "com/example/veer32/veer32/bundle/TopicName" "tenant" "Ljava/lang/String;" (.ref s1) := F10_tenant.same W11
  have E11 := E10.keep K11
  have F11_domain : Fld Z h11 x "com/example/veer32/veer32/bundle/TopicName" "domain" "Lcom/example/veer32/veer32/bundle/TopicName$Domain;" (.ref s0) := F10_domain.other W11 (Or.inr (slot_ne (Or.inr (hw _ (List.mem_of_getElem? (i := 115) rfl))) (Or.inr (hw _ (List.mem_of_getElem? (i := 117) rfl))) (by decide) (t := (.object "com/example/veer32/veer32/bundle/TopicName$Domain")) (t' := (.object "java/lang/String")) (by decide) (by decide)))
  have F11_namespace : Fld Z h11 x "com/example/veer32/veer32/bundle/TopicName" "namespace" "Ljava/lang/String;" .null := F10_namespace.other W11 (Or.inr (slot_ne (Or.inr (hw _ (List.mem_of_getElem? (i := 119) rfl))) (Or.inr (hw _ (List.mem_of_getElem? (i := 117) rfl))) (by decide) (t := (.object "java/lang/String")) (t' := (.object "java/lang/String")) (by decide) (by decide)))
  have F11_localName : Fld Z h11 x "com/example/veer32/veer32/bundle/TopicName" "localName" "Ljava/lang/String;" .null := F10_localName.other W11 (Or.inr (slot_ne (Or.inr (hw _ (List.mem_of_getElem? (i := 121) rfl))) (Or.inr (hw _ (List.mem_of_getElem? (i := 117) rfl))) (by decide) (t := (.object "java/lang/String")) (t' := (.object "java/lang/String")) (by decide) (by decide)))
  refine Rn.pu (g' := (mkF m 40 #[.val (.ref x), .val (.ref s0), .val (.ref s1), .val (.ref s2), .val (.ref s3)] [])) ?_ st11
  refine Rn.pu (T' := T11) (g' := (mkF m 41 #[.val (.ref x), .val (.ref s0), .val (.ref s1), .val (.ref s2), .val (.ref s3)] [(.ref x)])) ?_ fun _ zk => XS.aloadN H11.here hx rfl (hb hby d_prog_5_m1_40) rfl rfl zk
  refine Rn.pu (T' := T11) (g' := (mkF m 42 #[.val (.ref x), .val (.ref s0), .val (.ref s1), .val (.ref s2), .val (.ref s3)] [(.ref s2), (.ref x)])) ?_ fun _ zk => XS.aloadN H11.here hx rfl (hb hby d_prog_5_m1_41) rfl rfl zk
  obtain ⟨T12, h12, H12, K12, W12, st12⟩ := H11.putF (host := "") (Or.inl (hw _ (List.mem_of_getElem? (i := 118) rfl))) Via.refl F11_namespace E11 (Or.inr ⟨(hw _ (List.mem_of_getElem? (i := 119) rfl)), rfl, hnm⟩) (hw _ (List.mem_of_getElem? (i := 41) rfl)) (ty := (.object "java/lang/String")) (by decide) rfl rfl (Or.inl (List.mem_singleton.mpr rfl)) (g := (mkF m 42 #[.val (.ref x), .val (.ref s0), .val (.ref s1), .val (.ref s2), .val (.ref s3)] [(.ref s2), (.ref x)])) rfl rfl (hb hby d_prog_5_m1_42)
  have zh12 := K12.1
  have F12_namespace : Fld Z h12 x "com/example/veer32/veer32/bundle/TopicName" "namespace" "Ljava/lang/String;" (.ref s2) := F11_namespace.same W12
  have E12 := E11.keep K12
  have F12_domain : Fld Z h12 x "com/example/veer32/veer32/bundle/TopicName" "domain" "Lcom/example/veer32/veer32/bundle/TopicName$Domain;" (.ref s0) := F11_domain.other W12 (Or.inr (slot_ne (Or.inr (hw _ (List.mem_of_getElem? (i := 115) rfl))) (Or.inr (hw _ (List.mem_of_getElem? (i := 119) rfl))) (by decide) (t := (.object "com/example/veer32/veer32/bundle/TopicName$Domain")) (t' := (.object "java/lang/String")) (by decide) (by decide)))
  have F12_tenant : Fld Z h12 x "com/example/veer32/veer32/bundle/TopicName" "tenant" "Ljava/lang/String;" (.ref s1) := F11_tenant.other W12 (Or.inr (slot_ne (Or.inr (hw _ (List.mem_of_getElem? (i := 117) rfl))) (Or.inr (hw _ (List.mem_of_getElem? (i := 119) rfl))) (by decide) (t := (.object "java/lang/String")) (t' := (.object "java/lang/String")) (by decide) (by decide)))
  have F12_localName : Fld Z h12 x "com/example/veer32/veer32/bundle/TopicName" "localName" "Ljava/lang/String;" .null := F11_localName.other W12 (Or.inr (slot_ne (Or.inr (hw _ (List.mem_of_getElem? (i := 121) rfl))) (Or.inr (hw _ (List.mem_of_getElem? (i := 119) rfl))) (by decide) (t := (.object "java/lang/String")) (t' := (.object "java/lang/String")) (by decide) (by decide)))
  refine Rn.pu (g' := (mkF m 45 #[.val (.ref x), .val (.ref s0), .val (.ref s1), .val (.ref s2), .val (.ref s3)] [])) ?_ st12
  refine Rn.pu (T' := T12) (g' := (mkF m 46 #[.val (.ref x), .val (.ref s0), .val (.ref s1), .val (.ref s2), .val (.ref s3)] [(.ref x)])) ?_ fun _ zk => XS.aloadN H12.here hx rfl (hb hby d_prog_5_m1_45) rfl rfl zk
  refine Rn.pu (T' := T12) (g' := (mkF m 48 #[.val (.ref x), .val (.ref s0), .val (.ref s1), .val (.ref s2), .val (.ref s3)] [(.ref s3), (.ref x)])) ?_ fun _ zk => XS.aload H12.here hx rfl (hb hby d_prog_5_m1_46) rfl rfl zk
  obtain ⟨T13, h13, H13, K13, W13, st13⟩ := H12.putF (host := "") (Or.inl (hw _ (List.mem_of_getElem? (i := 120) rfl))) Via.refl F12_localName E12 (Or.inr ⟨(hw _ (List.mem_of_getElem? (i := 121) rfl)), rfl, hnm⟩) (hw _ (List.mem_of_getElem? (i := 41) rfl)) (ty := (.object "java/lang/String")) (by decide) rfl rfl (Or.inl (List.mem_singleton.mpr rfl)) (g := (mkF m 48 #[.val (.ref x), .val (.ref s0), .val (.ref s1), .val (.ref s2), .val (.ref s3)] [(.ref s3), (.ref x)])) rfl rfl (hb hby d_prog_5_m1_48)
  have zh13 := K13.1
  have F13_localName : Fld Z h13 x "com/example/veer32/veer32/bundle/TopicName" "localName" "Ljava/lang/String;" (.ref s3) := F12_localName.same W13
  have E13 := E12.keep K13
  have F13_domain : Fld Z h13 x "com/example/veer32/veer32/bundle/TopicName" "domain" "Lcom/example/veer32/veer32/bundle/TopicName$Domain;" (.ref s0) := F12_domain.other W13 (Or.inr (slot_ne (Or.inr (hw _ (List.mem_of_getElem? (i := 115) rfl))) (Or.inr (hw _ (List.mem_of_getElem? (i := 121) rfl))) (by decide) (t := (.object "com/example/veer32/veer32/bundle/TopicName$Domain")) (t' := (.object "java/lang/String")) (by decide) (by decide)))
  have F13_tenant : Fld Z h13 x "com/example/veer32/veer32/bundle/TopicName" "tenant" "Ljava/lang/String;" (.ref s1) := F12_tenant.other W13 (Or.inr (slot_ne (Or.inr (hw _ (List.mem_of_getElem? (i := 117) rfl))) (Or.inr (hw _ (List.mem_of_getElem? (i := 121) rfl))) (by decide) (t := (.object "java/lang/String")) (t' := (.object "java/lang/String")) (by decide) (by decide)))
  have F13_namespace : Fld Z h13 x "com/example/veer32/veer32/bundle/TopicName" "namespace" "Ljava/lang/String;" (.ref s2) := F12_namespace.other W13 (Or.inr (slot_ne (Or.inr (hw _ (List.mem_of_getElem? (i := 119) rfl))) (Or.inr (hw _ (List.mem_of_getElem? (i := 121) rfl))) (by decide) (t := (.object "java/lang/String")) (t' := (.object "java/lang/String")) (by decide) (by decide)))
  refine Rn.pu (g' := (mkF m 51 #[.val (.ref x), .val (.ref s0), .val (.ref s1), .val (.ref s2), .val (.ref s3)] [])) ?_ st13
  exact H13.retV ends_W hlk hret (hb hby d_prog_5_m1_51) (by decide) (by decide) (fun _ q => q) ⟨rfl, E13, F13_domain, F13_tenant, F13_namespace, F13_localName⟩
set_option maxRecDepth 65536 in
set_option maxHeartbeats 40000000 in
theorem c_nsn (l : Launch) {Z : State} {a0 : Array Value} {zc : Int32} {fm : Value} {aP : Addr} {aN : Addr} (B : Base Z a0 zc fm aP aN) (x s1 t1 s2 t2 : Addr) (c1 c2 : List Int32) (h0 : Heap) (O : Ext Z.heap h0) (G1 : Fld Z h0 x "com/example/veer32/veer32/bundle/TopicName" "tenant" "Ljava/lang/String;" (.ref s1)) (G2 : Fld Z h0 x "com/example/veer32/veer32/bundle/TopicName" "namespace" "Ljava/lang/String;" (.ref s2)) (u1 : Str Z h0 s1 t1 c1) (p1 : 0 < c1.length) (q1 : c1.length ≤ 2) (ez1 : ∀ c ∈ c1, ¬ c = 47) (u2 : Str Z h0 s2 t2 c2) (p2 : 0 < c2.length) (q2 : c2.length ≤ 2) (ez2 : ∀ c ∈ c2, ¬ c = 47) :
    MetW l Z (⟨"com/example/veer32/veer32/bundle/TopicName", "namespaceName", "()Lcom/example/veer32/veer32/bundle/NamespaceName;"⟩ : MethodName) prog_5_method_4_code 1 (some (.object "com/example/veer32/veer32/bundle/NamespaceName")) [] ({ frames := 9, cells := 5, slots := 70, locals := 130 } : Room) #[(.ref x)] h0 [] ((fun _ => True)) (fun v vm h => ∃ a, v = some (.ref a) ∧ Exa Z h a "com/example/veer32/veer32/bundle/NamespaceName" ∧ Fld Z h a "com/example/veer32/veer32/bundle/NamespaceName" "tenant" "Ljava/lang/String;" (.ref s1) ∧ Fld Z h a "com/example/veer32/veer32/bundle/NamespaceName" "localName" "Ljava/lang/String;" (.ref s2) ∧ h0.size ≤ a ∧ h.size > a) := by
  obtain ⟨hw, SC0, hz0, SF1, rf1, SU2, SU3, SU4, SP, SN, XP, XN⟩ := B
  refine MetW.mk (plainFor_of_name pn_com_example_veer32_veer32_bundle_TopicName) (fun m => ef_c_nsn m x) O ?_
  intro p e s m below meth c T0 hx hby hml hret hlk hnm hsh H0
  have zs : s.heap.size = h0.size := by rw [hsh]
  have lx := natlt (G1).lt
  have ls1 := natlt (u1).lt
  have lt1 := natlt (u1).ltt
  have ls2 := natlt (u2).lt
  have lt2 := natlt (u2).ltt
  obtain ⟨a1, T1, h1, e1, H1, K1, E1, D1, st1⟩ := H0.newO (hw _ (List.mem_of_getElem? (i := 127) rfl)) (hw _ (List.mem_of_getElem? (i := 128) rfl)) (hw _ (List.mem_of_getElem? (i := 62) rfl)) (g := (mkF m 0 #[.val (.ref x)] [])) rfl (hb hby d_prog_5_m4_0) (by decide) (by decide)
  have zh1 := K1.1
  have l1 := natlt (E1).lt
  have g1 : s.heap.size ≤ a1 := by omega
  have F1_tenant : Fld Z h1 a1 "com/example/veer32/veer32/bundle/NamespaceName" "tenant" "Ljava/lang/String;" .null := D1 (Or.inr (hw _ (List.mem_of_getElem? (i := 137) rfl))) (ty := (.object "java/lang/String")) (by decide)
  have F1_localName : Fld Z h1 a1 "com/example/veer32/veer32/bundle/NamespaceName" "localName" "Ljava/lang/String;" .null := D1 (Or.inr (hw _ (List.mem_of_getElem? (i := 139) rfl))) (ty := (.object "java/lang/String")) (by decide)
  refine Rn.pu (g' := (mkF m 3 #[.val (.ref x)] [(.ref a1)])) ?_ st1
  refine Rn.pu (T' := T1) (g' := (mkF m 4 #[.val (.ref x)] [(.ref a1), (.ref a1)])) ?_ fun _ zk => XS.dup H1.here hx rfl (hb hby d_prog_5_m4_3) rfl rfl zk
  refine Rn.pu (T' := T1) (g' := (mkF m 5 #[.val (.ref x)] [(.ref x), (.ref a1), (.ref a1)])) ?_ fun _ zk => XS.aloadN H1.here hx rfl (hb hby d_prog_5_m4_4) rfl rfl zk
  obtain ⟨T2, H2, st2⟩ := H1.getF (host := "") (Or.inl (hw _ (List.mem_of_getElem? (i := 116) rfl))) Via.refl (G1.keep K1 nin0) (g := (mkF m 5 #[.val (.ref x)] [(.ref x), (.ref a1), (.ref a1)])) rfl rfl (hb hby d_prog_5_m4_5)
  refine Rn.pu (g' := (mkF m 8 #[.val (.ref x)] [(.ref s1), (.ref a1), (.ref a1)])) ?_ st2
  refine Rn.pu (T' := T2) (g' := (mkF m 9 #[.val (.ref x)] [(.ref x), (.ref s1), (.ref a1), (.ref a1)])) ?_ fun _ zk => XS.aloadN H2.here hx rfl (hb hby d_prog_5_m4_8) rfl rfl zk
  obtain ⟨T3, H3, st3⟩ := H2.getF (host := "") (Or.inl (hw _ (List.mem_of_getElem? (i := 118) rfl))) Via.refl (G2.keep K1 nin0) (g := (mkF m 9 #[.val (.ref x)] [(.ref x), (.ref s1), (.ref a1), (.ref a1)])) rfl rfl (hb hby d_prog_5_m4_9)
  refine Rn.pu (g' := (mkF m 12 #[.val (.ref x)] [(.ref s2), (.ref s1), (.ref a1), (.ref a1)])) ?_ st3
  obtain ⟨_, T4, h4, H4, ⟨rfl, E4, G4_0, G4_1⟩, K4, st4⟩ := H3.callIW rfl (hw _ (List.mem_of_getElem? (i := 129) rfl)) (hw _ (List.mem_of_getElem? (i := 130) rfl)) (hw _ (List.mem_of_getElem? (i := 131) rfl)) (by decide) (MetW.pay (W := 1) (c_nsi l ⟨hw, SC0, hz0, SF1, rf1, SU2, SU3, SU4, SP, SN, XP, XN⟩ a1 s1 t1 s2 t2 c1 c2 h1 H3.old E1 F1_tenant F1_localName (by have := H0.old.1; omega) (by omega) (by omega) (by omega) (by omega) (u1.keep K1 nin0 nin0) p1 q1 ez1 (u2.keep K1 nin0 nin0) p2 q2 ez2) (hw _ (List.mem_of_getElem? (i := 131) rfl)) (hw _ (List.mem_of_getElem? (i := 62) rfl)) (by decide) (by decide)) (g := (mkF m 12 #[.val (.ref x)] [(.ref s2), (.ref s1), (.ref a1), (.ref a1)])) rfl (by rw [hml]; rfl) (argsL := [(.ref s1), (.ref s2)]) (rest := [(.ref a1)]) (lenOf pd__Ljava_lang_String_Ljava_lang_String__V rfl) rfl rfl (Nat.le_of_eq rfl) (hb hby d_prog_5_m4_12) (by decide) (by decide) (allS (Or.inr (by omega)) all0) (fun _ _ _ _ => trivial)
  have zh4 := K4.1
  have H4 := H4.reV (V' := (fun _ => True)) (fun _ _ => trivial)
  refine Rn.pu (g' := (mkF m 15 #[.val (.ref x)] [(.ref a1)])) ?_ st4
  exact H4.retA ends_W hlk hret rfl rfl rfl (hb hby d_prog_5_m4_15) (by decide) (by decide) (fun _ q => nomatch q) ⟨a1, rfl, E4, G4_0, G4_1, by omega, by omega⟩
set_option maxRecDepth 65536 in
set_option maxHeartbeats 40000000 in
theorem c_g_tenant (l : Launch) {Z : State} {a0 : Array Value} {zc : Int32} {fm : Value} {aP : Addr} {aN : Addr} (B : Base Z a0 zc fm aP aN) (x s1 : Addr) (h0 : Heap) (O : Ext Z.heap h0) (G : Fld Z h0 x "com/example/veer32/veer32/bundle/NamespaceName" "tenant" "Ljava/lang/String;" (.ref s1)) :
    MetN l Z (⟨"com/example/veer32/veer32/bundle/NamespaceName", "tenant", "()Ljava/lang/String;"⟩ : MethodName) prog_3_method_6_code 1 (some (.object "java/lang/String")) [] ({ frames := 0, cells := 0, slots := 0, locals := 0 } : Room) #[(.ref x)] h0 [] (fun v h => v = some (.ref s1) ∧ h0 = h) := by
  obtain ⟨hw, SC0, hz0, SF1, rf1, SU2, SU3, SU4, SP, SN, XP, XN⟩ := B
  refine MetN.mk (plainFor_of_name pn_com_example_veer32_veer32_bundle_NamespaceName) (fun m => ef_c_g_tenant m x) O ?_
  intro p e s m below meth c T0 hx hby hml hret hlk hnm hsh H0
  have zs : s.heap.size = h0.size := by rw [hsh]
  refine Rn.pu (T' := T0) (g' := (mkF m 1 #[.val (.ref x)] [(.ref x)])) ?_ fun _ zk => XS.aloadN H0.here hx rfl (hb hby d_prog_3_m6_0) rfl rfl zk
  obtain ⟨T1, H1, st1⟩ := H0.getF (host := "") (Or.inl (hw _ (List.mem_of_getElem? (i := 136) rfl))) Via.refl G (g := (mkF m 1 #[.val (.ref x)] [(.ref x)])) rfl rfl (hb hby d_prog_3_m6_1)
  refine Rn.pu (g' := (mkF m 4 #[.val (.ref x)] [(.ref s1)])) ?_ st1
  exact H1.retA ends_N hlk hret rfl rfl rfl (hb hby d_prog_3_m6_4) (by decide) (by decide) (fun _ q => nomatch q) ⟨rfl, rfl⟩
set_option maxRecDepth 65536 in
set_option maxHeartbeats 40000000 in
theorem c_g_localName (l : Launch) {Z : State} {a0 : Array Value} {zc : Int32} {fm : Value} {aP : Addr} {aN : Addr} (B : Base Z a0 zc fm aP aN) (x s1 : Addr) (h0 : Heap) (O : Ext Z.heap h0) (G : Fld Z h0 x "com/example/veer32/veer32/bundle/NamespaceName" "localName" "Ljava/lang/String;" (.ref s1)) :
    MetN l Z (⟨"com/example/veer32/veer32/bundle/NamespaceName", "localName", "()Ljava/lang/String;"⟩ : MethodName) prog_3_method_7_code 1 (some (.object "java/lang/String")) [] ({ frames := 0, cells := 0, slots := 0, locals := 0 } : Room) #[(.ref x)] h0 [] (fun v h => v = some (.ref s1) ∧ h0 = h) := by
  obtain ⟨hw, SC0, hz0, SF1, rf1, SU2, SU3, SU4, SP, SN, XP, XN⟩ := B
  refine MetN.mk (plainFor_of_name pn_com_example_veer32_veer32_bundle_NamespaceName) (fun m => ef_c_g_localName m x) O ?_
  intro p e s m below meth c T0 hx hby hml hret hlk hnm hsh H0
  have zs : s.heap.size = h0.size := by rw [hsh]
  refine Rn.pu (T' := T0) (g' := (mkF m 1 #[.val (.ref x)] [(.ref x)])) ?_ fun _ zk => XS.aloadN H0.here hx rfl (hb hby d_prog_3_m7_0) rfl rfl zk
  obtain ⟨T1, H1, st1⟩ := H0.getF (host := "") (Or.inl (hw _ (List.mem_of_getElem? (i := 138) rfl))) Via.refl G (g := (mkF m 1 #[.val (.ref x)] [(.ref x)])) rfl rfl (hb hby d_prog_3_m7_1)
  refine Rn.pu (g' := (mkF m 4 #[.val (.ref x)] [(.ref s1)])) ?_ st1
  exact H1.retA ends_N hlk hret rfl rfl rfl (hb hby d_prog_3_m7_4) (by decide) (by decide) (fun _ q => nomatch q) ⟨rfl, rfl⟩
set_option maxRecDepth 65536 in
set_option maxHeartbeats 40000000 in
theorem c_same (l : Launch) {Z : State} {a0 : Array Value} {zc : Int32} {fm : Value} {aP : Addr} {aN : Addr} (B : Base Z a0 zc fm aP aN) (x : Addr) (h0 : Heap) (O : Ext Z.heap h0) :
    MetN l Z (⟨"java/lang/String", "equals", "(Ljava/lang/Object;)Z"⟩ : MethodName) jdk_42_method_66_code 3 (some .boolean) [] ({ frames := 0, cells := 0, slots := 0, locals := 0 } : Room) #[(.ref x), (.ref x)] h0 [] (fun v h => v = some (.int 1) ∧ h0 = h) := by
  obtain ⟨hw, SC0, hz0, SF1, rf1, SU2, SU3, SU4, SP, SN, XP, XN⟩ := B
  refine MetN.mk (plainFor_of_name pn_java_lang_String) (fun m => ef_c_same m x x) O ?_
  intro p e s m below meth c T0 hx hby hml hret hlk hnm hsh H0
  have zs : s.heap.size = h0.size := by rw [hsh]
  refine Rn.pu (T' := T0) (g' := (mkF m 1 #[.val (.ref x), .val (.ref x), .unset] [(.ref x)])) ?_ fun _ zk => XS.aloadN H0.here hx rfl (hb hby d_jdk_42_m66_0) rfl rfl zk
  refine Rn.pu (T' := T0) (g' := (mkF m 2 #[.val (.ref x), .val (.ref x), .unset] [(.ref x), (.ref x)])) ?_ fun _ zk => XS.aloadN H0.here hx rfl (hb hby d_jdk_42_m66_1) rfl rfl zk
  refine Rn.pu (T' := T0) (g' := (mkF m 5 #[.val (.ref x), .val (.ref x), .unset] [])) ?_ fun _ zk => XT.acmpNo H0.here hx rfl (hb hby d_jdk_42_m66_2) rfl rfl rfl (ac_ne_f rfl) zk
  refine Rn.pu (T' := T0) (g' := (mkF m 6 #[.val (.ref x), .val (.ref x), .unset] [(.int (1 : Int32))])) ?_ fun _ zk => XS.iconst H0.here hx rfl (hb hby d_jdk_42_m66_5) zk
  exact H0.retS ends_N hlk (t := .boolean) hret (by simp) (hb hby d_jdk_42_m66_6) (by decide) (by decide) (fun _ q => nomatch q) ⟨rfl, rfl⟩
set_option maxRecDepth 65536 in
set_option maxHeartbeats 40000000 in
theorem c_law (l : Launch) {Z : State} {a0 : Array Value} {zc : Int32} {fm : Value} {aP : Addr} {aN : Addr} (B : Base Z a0 zc fm aP aN) (p0 : Int32) (p1 : Int32) (p2 : Int32) (p3 : Int32) :
    MetW l Z x code maxLocals ret tables_1 room_1 #[(.int p0), (.int p1), (.int p2), (.int p3)] Z.heap [] ((fun _ => True)) (fun v vm h => v = some (.int 1)) := by
  obtain ⟨hw, SC0, hz0, SF1, rf1, SU2, SU3, SU4, SP, SN, XP, XN⟩ := B
  refine MetW.mk (plainFor_of_name pn_com_example_veer32_veer32_bundle_TopicNameNamespaceNamePinLaw) (fun m => ef_c_law m p0 p1 p2 p3) ⟨Nat.le_refl _, fun _ _ q => q⟩ ?_
  intro p e s m below meth c T0 hx hby hml hret hlk hnm hsh H0
  obtain ⟨h0, eh0⟩ : ∃ z, z = Z.heap := ⟨_, rfl⟩
  rw [← eh0] at H0 hsh
  have H0 : Hs p l e room_1 s m #[(.int p0), (.int p1), (.int p2), (.int p3)] below meth c Z "com/example/veer32/veer32/bundle/TopicNameNamespaceNamePinLaw" [] ((fun _ => True)) T0 h0 0 0 := H0
  have zs : s.heap.size = h0.size := by rw [hsh]
  have zZ := H0.old.1
  refine Rn.pu (T' := T0) (g' := (mkF m 1 #[.val (.int p0), .val (.int p1), .val (.int p2), .val (.int p3), .unset, .unset, .unset, .unset, .unset, .unset] [(.int p0)])) ?_ fun _ zk => XS.iloadN H0.here hx rfl (hb hby at_0) rfl zk
  obtain ⟨_, T1, h1, H1, ⟨m1, t1, c1, rfl, S1, n11, n21, ne1, ga1, la1, lt1⟩, K1, st1⟩ := H0.callS (hw _ (List.mem_of_getElem? (i := 0) rfl)) (hw _ (List.mem_of_getElem? (i := 1) rfl)) (hw _ (List.mem_of_getElem? (i := 2) rfl)) (hw _ (List.mem_of_getElem? (i := 3) rfl)) (by decide) (MetN.pay (W := 0) (c_part l ⟨hw, SC0, hz0, SF1, rf1, SU2, SU3, SU4, SP, SN, XP, XN⟩ p0 h0 H0.old) (hw _ (List.mem_of_getElem? (i := 3) rfl)) (hw _ (List.mem_of_getElem? (i := 2) rfl)) (by decide) (by decide)) (g := (mkF m 1 #[.val (.int p0), .val (.int p1), .val (.int p2), .val (.int p3), .unset, .unset, .unset, .unset, .unset, .unset] [(.int p0)])) rfl (by rw [hml]; rfl) (argsL := [(.int p0)]) (rest := []) (lenOf pd__I_Ljava_lang_String_ rfl) rfl rfl (Nat.le_of_eq rfl) (hb hby at_1) (by decide) (by decide) all0
  have zh1 := K1.1
  refine Rn.pu (g' := (mkF m 4 #[.val (.int p0), .val (.int p1), .val (.int p2), .val (.int p3), .unset, .unset, .unset, .unset, .unset, .unset] [(.ref m1)])) ?_ st1
  refine Rn.pu (T' := T1) (g' := (mkF m 6 #[.val (.int p0), .val (.int p1), .val (.int p2), .val (.int p3), .val (.ref m1), .unset, .unset, .unset, .unset, .unset] [])) ?_ fun _ zk => XS.astore H1.here hx rfl (hb hby at_4) rfl rfl (l' := #[.val (.int p0), .val (.int p1), .val (.int p2), .val (.int p3), .val (.ref m1), .unset, .unset, .unset, .unset, .unset]) rfl zk
  refine Rn.pu (T' := T1) (g' := (mkF m 7 #[.val (.int p0), .val (.int p1), .val (.int p2), .val (.int p3), .val (.ref m1), .unset, .unset, .unset, .unset, .unset] [(.int p1)])) ?_ fun _ zk => XS.iloadN H1.here hx rfl (hb hby at_6) rfl zk
  obtain ⟨_, T2, h2, H2, ⟨m2, t2, c2, rfl, S2, n12, n22, ne2, ga2, la2, lt2⟩, K2, st2⟩ := H1.callS (hw _ (List.mem_of_getElem? (i := 0) rfl)) (hw _ (List.mem_of_getElem? (i := 1) rfl)) (hw _ (List.mem_of_getElem? (i := 2) rfl)) (hw _ (List.mem_of_getElem? (i := 3) rfl)) (by decide) (MetN.pay (W := 0) (c_part l ⟨hw, SC0, hz0, SF1, rf1, SU2, SU3, SU4, SP, SN, XP, XN⟩ p1 h1 H1.old) (hw _ (List.mem_of_getElem? (i := 3) rfl)) (hw _ (List.mem_of_getElem? (i := 2) rfl)) (by decide) (by decide)) (g := (mkF m 7 #[.val (.int p0), .val (.int p1), .val (.int p2), .val (.int p3), .val (.ref m1), .unset, .unset, .unset, .unset, .unset] [(.int p1)])) rfl (by rw [hml]; rfl) (argsL := [(.int p1)]) (rest := []) (lenOf pd__I_Ljava_lang_String_ rfl) rfl rfl (Nat.le_of_eq rfl) (hb hby at_7) (by decide) (by decide) all0
  have zh2 := K2.1
  refine Rn.pu (g' := (mkF m 10 #[.val (.int p0), .val (.int p1), .val (.int p2), .val (.int p3), .val (.ref m1), .unset, .unset, .unset, .unset, .unset] [(.ref m2)])) ?_ st2
  refine Rn.pu (T' := T2) (g' := (mkF m 12 #[.val (.int p0), .val (.int p1), .val (.int p2), .val (.int p3), .val (.ref m1), .val (.ref m2), .unset, .unset, .unset, .unset] [])) ?_ fun _ zk => XS.astore H2.here hx rfl (hb hby at_10) rfl rfl (l' := #[.val (.int p0), .val (.int p1), .val (.int p2), .val (.int p3), .val (.ref m1), .val (.ref m2), .unset, .unset, .unset, .unset]) rfl zk
  refine Rn.pu (T' := T2) (g' := (mkF m 13 #[.val (.int p0), .val (.int p1), .val (.int p2), .val (.int p3), .val (.ref m1), .val (.ref m2), .unset, .unset, .unset, .unset] [(.int p2)])) ?_ fun _ zk => XS.iloadN H2.here hx rfl (hb hby at_12) rfl zk
  obtain ⟨_, T3, h3, H3, ⟨m3, t3, c3, rfl, S3, n13, n23, ne3, ga3, la3, lt3⟩, K3, st3⟩ := H2.callS (hw _ (List.mem_of_getElem? (i := 0) rfl)) (hw _ (List.mem_of_getElem? (i := 1) rfl)) (hw _ (List.mem_of_getElem? (i := 2) rfl)) (hw _ (List.mem_of_getElem? (i := 3) rfl)) (by decide) (MetN.pay (W := 0) (c_part l ⟨hw, SC0, hz0, SF1, rf1, SU2, SU3, SU4, SP, SN, XP, XN⟩ p2 h2 H2.old) (hw _ (List.mem_of_getElem? (i := 3) rfl)) (hw _ (List.mem_of_getElem? (i := 2) rfl)) (by decide) (by decide)) (g := (mkF m 13 #[.val (.int p0), .val (.int p1), .val (.int p2), .val (.int p3), .val (.ref m1), .val (.ref m2), .unset, .unset, .unset, .unset] [(.int p2)])) rfl (by rw [hml]; rfl) (argsL := [(.int p2)]) (rest := []) (lenOf pd__I_Ljava_lang_String_ rfl) rfl rfl (Nat.le_of_eq rfl) (hb hby at_13) (by decide) (by decide) all0
  have zh3 := K3.1
  refine Rn.pu (g' := (mkF m 16 #[.val (.int p0), .val (.int p1), .val (.int p2), .val (.int p3), .val (.ref m1), .val (.ref m2), .unset, .unset, .unset, .unset] [(.ref m3)])) ?_ st3
  refine Rn.pu (T' := T3) (g' := (mkF m 18 #[.val (.int p0), .val (.int p1), .val (.int p2), .val (.int p3), .val (.ref m1), .val (.ref m2), .val (.ref m3), .unset, .unset, .unset] [])) ?_ fun _ zk => XS.astore H3.here hx rfl (hb hby at_16) rfl rfl (l' := #[.val (.int p0), .val (.int p1), .val (.int p2), .val (.int p3), .val (.ref m1), .val (.ref m2), .val (.ref m3), .unset, .unset, .unset]) rfl zk
  refine Rn.pu (T' := T3) (g' := (mkF m 19 #[.val (.int p0), .val (.int p1), .val (.int p2), .val (.int p3), .val (.ref m1), .val (.ref m2), .val (.ref m3), .unset, .unset, .unset] [(.int p3)])) ?_ fun _ zk => XS.iloadN H3.here hx rfl (hb hby at_18) rfl zk
  refine Rn.pu (T' := T3) (g' := (mkF m 20 #[.val (.int p0), .val (.int p1), .val (.int p2), .val (.int p3), .val (.ref m1), .val (.ref m2), .val (.ref m3), .unset, .unset, .unset] [(.int (1 : Int32)), (.int p3)])) ?_ fun _ zk => XS.iconst H3.here hx rfl (hb hby at_19) zk
  refine Rn.pu (T' := T3) (g' := (mkF m 21 #[.val (.int p0), .val (.int p1), .val (.int p2), .val (.int p3), .val (.ref m1), .val (.ref m2), .val (.ref m3), .unset, .unset, .unset] [(.int (p3 &&& (1 : Int32)))])) ?_ fun _ zk => XS.iand H3.here hx rfl (hb hby at_20) rfl zk
  by_cases b21_4 : (p3 &&& (1 : Int32)) = 0
  ·
    refine Rn.pu (T' := T3) (g' := (mkF m 30 #[.val (.int p0), .val (.int p1), .val (.int p2), .val (.int p3), .val (.ref m1), .val (.ref m2), .val (.ref m3), .unset, .unset, .unset] [])) ?_ fun _ zk => XS.ifYes H3.here hx rfl (pc0 := 21) (pc' := 30) rfl (hb hby at_21) rfl (z_eq_t b21_4) (by decide) (by decide) zk
    obtain ⟨T5, H5, st5⟩ := H3.getS (host := "") (Or.inl (hw _ (List.mem_of_getElem? (i := 155) rfl))) Via.refl (SP.ext H3.old) (g := (mkF m 30 #[.val (.int p0), .val (.int p1), .val (.int p2), .val (.int p3), .val (.ref m1), .val (.ref m2), .val (.ref m3), .unset, .unset, .unset] [])) rfl (hb hby at_30)
    refine Rn.pu (g' := (mkF m 33 #[.val (.int p0), .val (.int p1), .val (.int p2), .val (.int p3), .val (.ref m1), .val (.ref m2), .val (.ref m3), .unset, .unset, .unset] [(.ref aP)])) ?_ st5
    refine Rn.pu (T' := T5) (g' := (mkF m 35 #[.val (.int p0), .val (.int p1), .val (.int p2), .val (.int p3), .val (.ref m1), .val (.ref m2), .val (.ref m3), .val (.ref aP), .unset, .unset] [])) ?_ fun _ zk => XS.astore H5.here hx rfl (hb hby at_33) rfl rfl (l' := #[.val (.int p0), .val (.int p1), .val (.int p2), .val (.int p3), .val (.ref m1), .val (.ref m2), .val (.ref m3), .val (.ref aP), .unset, .unset]) rfl zk
    obtain ⟨a6, T6, h6, e6, H6, K6, E6, D6, st6⟩ := H5.newO (hw _ (List.mem_of_getElem? (i := 40) rfl)) (hw _ (List.mem_of_getElem? (i := 41) rfl)) (hw _ (List.mem_of_getElem? (i := 42) rfl)) (g := (mkF m 35 #[.val (.int p0), .val (.int p1), .val (.int p2), .val (.int p3), .val (.ref m1), .val (.ref m2), .val (.ref m3), .val (.ref aP), .unset, .unset] [])) rfl (hb hby at_35) (by decide) (by decide)
    have zh6 := K6.1
    have l6 := natlt (E6).lt
    have g6 : s.heap.size ≤ a6 := by omega
    have F6_domain : Fld Z h6 a6 "com/example/veer32/veer32/bundle/TopicName" "domain" "Lcom/example/veer32/veer32/bundle/TopicName$Domain;" .null := D6 (Or.inr (hw _ (List.mem_of_getElem? (i := 115) rfl))) (ty := (.object "com/example/veer32/veer32/bundle/TopicName$Domain")) (by decide)
    have F6_tenant : Fld Z h6 a6 "com/example/veer32/veer32/bundle/TopicName" "tenant" "Ljava/lang/String;" .null := D6 (Or.inr (hw _ (List.mem_of_getElem? (i := 117) rfl))) (ty := (.object "java/lang/String")) (by decide)
    have F6_namespace : Fld Z h6 a6 "com/example/veer32/veer32/bundle/TopicName" "namespace" "Ljava/lang/String;" .null := D6 (Or.inr (hw _ (List.mem_of_getElem? (i := 119) rfl))) (ty := (.object "java/lang/String")) (by decide)
    have F6_localName : Fld Z h6 a6 "com/example/veer32/veer32/bundle/TopicName" "localName" "Ljava/lang/String;" .null := D6 (Or.inr (hw _ (List.mem_of_getElem? (i := 121) rfl))) (ty := (.object "java/lang/String")) (by decide)
    refine Rn.pu (g' := (mkF m 38 #[.val (.int p0), .val (.int p1), .val (.int p2), .val (.int p3), .val (.ref m1), .val (.ref m2), .val (.ref m3), .val (.ref aP), .unset, .unset] [(.ref a6)])) ?_ st6
    refine Rn.pu (T' := T6) (g' := (mkF m 39 #[.val (.int p0), .val (.int p1), .val (.int p2), .val (.int p3), .val (.ref m1), .val (.ref m2), .val (.ref m3), .val (.ref aP), .unset, .unset] [(.ref a6), (.ref a6)])) ?_ fun _ zk => XS.dup H6.here hx rfl (hb hby at_38) rfl rfl zk
    refine Rn.pu (T' := T6) (g' := (mkF m 41 #[.val (.int p0), .val (.int p1), .val (.int p2), .val (.int p3), .val (.ref m1), .val (.ref m2), .val (.ref m3), .val (.ref aP), .unset, .unset] [(.ref aP), (.ref a6), (.ref a6)])) ?_ fun _ zk => XS.aload H6.here hx rfl (hb hby at_39) rfl rfl zk
    refine Rn.pu (T' := T6) (g' := (mkF m 43 #[.val (.int p0), .val (.int p1), .val (.int p2), .val (.int p3), .val (.ref m1), .val (.ref m2), .val (.ref m3), .val (.ref aP), .unset, .unset] [(.ref m1), (.ref aP), (.ref a6), (.ref a6)])) ?_ fun _ zk => XS.aload H6.here hx rfl (hb hby at_41) rfl rfl zk
    refine Rn.pu (T' := T6) (g' := (mkF m 45 #[.val (.int p0), .val (.int p1), .val (.int p2), .val (.int p3), .val (.ref m1), .val (.ref m2), .val (.ref m3), .val (.ref aP), .unset, .unset] [(.ref m2), (.ref m1), (.ref aP), (.ref a6), (.ref a6)])) ?_ fun _ zk => XS.aload H6.here hx rfl (hb hby at_43) rfl rfl zk
    refine Rn.pu (T' := T6) (g' := (mkF m 47 #[.val (.int p0), .val (.int p1), .val (.int p2), .val (.int p3), .val (.ref m1), .val (.ref m2), .val (.ref m3), .val (.ref aP), .unset, .unset] [(.ref m3), (.ref m2), (.ref m1), (.ref aP), (.ref a6), (.ref a6)])) ?_ fun _ zk => XS.aload H6.here hx rfl (hb hby at_45) rfl rfl zk
    obtain ⟨_, T7, h7, H7, ⟨rfl, E7, G7_0, G7_1, G7_2, G7_3⟩, K7, st7⟩ := H6.callIW rfl (hw _ (List.mem_of_getElem? (i := 43) rfl)) (hw _ (List.mem_of_getElem? (i := 44) rfl)) (hw _ (List.mem_of_getElem? (i := 45) rfl)) (by decide) (MetW.pay (W := 1) (c_tni l ⟨hw, SC0, hz0, SF1, rf1, SU2, SU3, SU4, SP, SN, XP, XN⟩ a6 aP m1 t1 m2 t2 m3 t3 c1 c2 c3 h6 H6.old E6 F6_domain F6_tenant F6_namespace F6_localName (by have := H0.old.1; omega) (by omega) (by omega) (by omega) (by omega) (by omega) (by omega) (((S1.keep K2 nin0 nin0).keep K3 nin0 nin0).keep K6 nin0 nin0) n11 n21 ne1 ((S2.keep K3 nin0 nin0).keep K6 nin0 nin0) n12 n22 ne2 (S3.keep K6 nin0 nin0) n13 n23 ne3) (hw _ (List.mem_of_getElem? (i := 45) rfl)) (hw _ (List.mem_of_getElem? (i := 42) rfl)) (by decide) (by decide)) (g := (mkF m 47 #[.val (.int p0), .val (.int p1), .val (.int p2), .val (.int p3), .val (.ref m1), .val (.ref m2), .val (.ref m3), .val (.ref aP), .unset, .unset] [(.ref m3), (.ref m2), (.ref m1), (.ref aP), (.ref a6), (.ref a6)])) rfl (by rw [hml]; rfl) (argsL := [(.ref aP), (.ref m1), (.ref m2), (.ref m3)]) (rest := [(.ref a6)]) (lenOf pd__Lcom_example_veer32_veer32_bundle_TopicName_Domain_Ljava_lang_String_Ljava_lang rfl) rfl rfl (Nat.le_of_eq rfl) (hb hby at_47) (by decide) (by decide) (allS (Or.inr (by omega)) all0) (fun _ _ _ _ => trivial)
    have zh7 := K7.1
    have H7 := H7.reV (V' := (fun _ => True)) (fun _ _ => trivial)
    refine Rn.pu (g' := (mkF m 50 #[.val (.int p0), .val (.int p1), .val (.int p2), .val (.int p3), .val (.ref m1), .val (.ref m2), .val (.ref m3), .val (.ref aP), .unset, .unset] [(.ref a6)])) ?_ st7
    refine Rn.pu (T' := T7) (g' := (mkF m 52 #[.val (.int p0), .val (.int p1), .val (.int p2), .val (.int p3), .val (.ref m1), .val (.ref m2), .val (.ref m3), .val (.ref aP), .val (.ref a6), .unset] [])) ?_ fun _ zk => XS.astore H7.here hx rfl (hb hby at_50) rfl rfl (l' := #[.val (.int p0), .val (.int p1), .val (.int p2), .val (.int p3), .val (.ref m1), .val (.ref m2), .val (.ref m3), .val (.ref aP), .val (.ref a6), .unset]) rfl zk
    refine Rn.pu (T' := T7) (g' := (mkF m 54 #[.val (.int p0), .val (.int p1), .val (.int p2), .val (.int p3), .val (.ref m1), .val (.ref m2), .val (.ref m3), .val (.ref aP), .val (.ref a6), .unset] [(.ref a6)])) ?_ fun _ zk => XS.aload H7.here hx rfl (hb hby at_52) rfl rfl zk
    obtain ⟨_, T8, h8, H8, ⟨x8, rfl, E8, G8_1, G8_2, gx8, lx8⟩, K8, st8⟩ := H7.callVW (C := "com/example/veer32/veer32/bundle/TopicName") (hw _ (List.mem_of_getElem? (i := 122) rfl)) (hw _ (List.mem_of_getElem? (i := 123) rfl)) (hw _ (List.mem_of_getElem? (i := 125) rfl)) (hw _ (List.mem_of_getElem? (i := 124) rfl)) (by decide) (MetW.pay (W := 0) (c_nsn l ⟨hw, SC0, hz0, SF1, rf1, SU2, SU3, SU4, SP, SN, XP, XN⟩ a6 m1 t1 m2 t2 c1 c2 h7 H7.old G7_1 G7_2 ((((S1.keep K2 nin0 nin0).keep K3 nin0 nin0).keep K6 nin0 nin0).keep K7 (ninS (adne (by omega)) nin0) (ninS (adne (by omega)) nin0)) n11 n21 ne1 (((S2.keep K3 nin0 nin0).keep K6 nin0 nin0).keep K7 (ninS (adne (by omega)) nin0) (ninS (adne (by omega)) nin0)) n12 n22 ne2) (hw _ (List.mem_of_getElem? (i := 126) rfl)) (hw _ (List.mem_of_getElem? (i := 42) rfl)) (by decide) (by decide)) E7 (g := (mkF m 54 #[.val (.int p0), .val (.int p1), .val (.int p2), .val (.int p3), .val (.ref m1), .val (.ref m2), .val (.ref m3), .val (.ref aP), .val (.ref a6), .unset] [(.ref a6)])) rfl (by rw [hml]; rfl) (argsL := []) (rest := []) (lenOf pd___Lcom_example_veer32_veer32_bundle_NamespaceName_ rfl) rfl rfl (Nat.le_of_eq rfl) (hb hby at_54) (by decide) (by decide) all0 (fun _ _ _ _ => trivial)
    have zh8 := K8.1
    have H8 := H8.reV (V' := (fun _ => True)) (fun _ _ => trivial)
    refine Rn.pu (g' := (mkF m 57 #[.val (.int p0), .val (.int p1), .val (.int p2), .val (.int p3), .val (.ref m1), .val (.ref m2), .val (.ref m3), .val (.ref aP), .val (.ref a6), .unset] [(.ref x8)])) ?_ st8
    refine Rn.pu (T' := T8) (g' := (mkF m 59 #[.val (.int p0), .val (.int p1), .val (.int p2), .val (.int p3), .val (.ref m1), .val (.ref m2), .val (.ref m3), .val (.ref aP), .val (.ref a6), .val (.ref x8)] [])) ?_ fun _ zk => XS.astore H8.here hx rfl (hb hby at_57) rfl rfl (l' := #[.val (.int p0), .val (.int p1), .val (.int p2), .val (.int p3), .val (.ref m1), .val (.ref m2), .val (.ref m3), .val (.ref aP), .val (.ref a6), .val (.ref x8)]) rfl zk
    refine Rn.pu (T' := T8) (g' := (mkF m 61 #[.val (.int p0), .val (.int p1), .val (.int p2), .val (.int p3), .val (.ref m1), .val (.ref m2), .val (.ref m3), .val (.ref aP), .val (.ref a6), .val (.ref x8)] [(.ref x8)])) ?_ fun _ zk => XS.aload H8.here hx rfl (hb hby at_59) rfl rfl zk
    obtain ⟨_, T9, h9, H9, ⟨rfl, rfl⟩, -, st9⟩ := H8.callV (C := "com/example/veer32/veer32/bundle/NamespaceName") (hw _ (List.mem_of_getElem? (i := 140) rfl)) (hw _ (List.mem_of_getElem? (i := 141) rfl)) (hw _ (List.mem_of_getElem? (i := 143) rfl)) (hw _ (List.mem_of_getElem? (i := 142) rfl)) (by decide) (MetN.pay (W := 0) (c_g_tenant l ⟨hw, SC0, hz0, SF1, rf1, SU2, SU3, SU4, SP, SN, XP, XN⟩ x8 m1 h8 H8.old G8_1) (hw _ (List.mem_of_getElem? (i := 144) rfl)) (hw _ (List.mem_of_getElem? (i := 62) rfl)) (by decide) (by decide)) E8 (g := (mkF m 61 #[.val (.int p0), .val (.int p1), .val (.int p2), .val (.int p3), .val (.ref m1), .val (.ref m2), .val (.ref m3), .val (.ref aP), .val (.ref a6), .val (.ref x8)] [(.ref x8)])) rfl (by rw [hml]; rfl) (argsL := []) (rest := []) (lenOf pd___Ljava_lang_String_ rfl) rfl rfl (Nat.le_of_eq rfl) (hb hby at_61) (by decide) (by decide) all0
    refine Rn.pu (g' := (mkF m 64 #[.val (.int p0), .val (.int p1), .val (.int p2), .val (.int p3), .val (.ref m1), .val (.ref m2), .val (.ref m3), .val (.ref aP), .val (.ref a6), .val (.ref x8)] [(.ref m1)])) ?_ st9
    refine Rn.pu (T' := T9) (g' := (mkF m 66 #[.val (.int p0), .val (.int p1), .val (.int p2), .val (.int p3), .val (.ref m1), .val (.ref m2), .val (.ref m3), .val (.ref aP), .val (.ref a6), .val (.ref x8)] [(.ref m1), (.ref m1)])) ?_ fun _ zk => XS.aload H9.here hx rfl (hb hby at_64) rfl rfl zk
    obtain ⟨_, T10, h10, H10, ⟨rfl, rfl⟩, -, st10⟩ := H9.callV (C := "java/lang/String") (hw _ (List.mem_of_getElem? (i := 145) rfl)) (hw _ (List.mem_of_getElem? (i := 146) rfl)) (hw _ (List.mem_of_getElem? (i := 148) rfl)) (hw _ (List.mem_of_getElem? (i := 147) rfl)) (by decide) (MetN.pay (W := 0) (c_same l ⟨hw, SC0, hz0, SF1, rf1, SU2, SU3, SU4, SP, SN, XP, XN⟩ m1 h8 H9.old) (hw _ (List.mem_of_getElem? (i := 149) rfl)) (hw _ (List.mem_of_getElem? (i := 10) rfl)) (by decide) (by decide)) (((((S1.keep K2 nin0 nin0).keep K3 nin0 nin0).keep K6 nin0 nin0).keep K7 (ninS (adne (by omega)) nin0) (ninS (adne (by omega)) nin0)).keep K8 nin0 nin0).exa (g := (mkF m 66 #[.val (.int p0), .val (.int p1), .val (.int p2), .val (.int p3), .val (.ref m1), .val (.ref m2), .val (.ref m3), .val (.ref aP), .val (.ref a6), .val (.ref x8)] [(.ref m1), (.ref m1)])) rfl (by rw [hml]; rfl) (argsL := [(.ref m1)]) (rest := []) (lenOf pd__Ljava_lang_Object__Z rfl) rfl rfl (Nat.le_of_eq rfl) (hb hby at_66) (by decide) (by decide) all0
    refine Rn.pu (g' := (mkF m 69 #[.val (.int p0), .val (.int p1), .val (.int p2), .val (.int p3), .val (.ref m1), .val (.ref m2), .val (.ref m3), .val (.ref aP), .val (.ref a6), .val (.ref x8)] [(.int (1 : Int32))])) ?_ st10
    refine Rn.pu (T' := T10) (g' := (mkF m 72 #[.val (.int p0), .val (.int p1), .val (.int p2), .val (.int p3), .val (.ref m1), .val (.ref m2), .val (.ref m3), .val (.ref aP), .val (.ref a6), .val (.ref x8)] [])) ?_ fun _ zk => XS.ifNo H10.here hx rfl (hb hby at_69) rfl (z_eq_f (by decide)) zk
    refine Rn.pu (T' := T10) (g' := (mkF m 74 #[.val (.int p0), .val (.int p1), .val (.int p2), .val (.int p3), .val (.ref m1), .val (.ref m2), .val (.ref m3), .val (.ref aP), .val (.ref a6), .val (.ref x8)] [(.ref x8)])) ?_ fun _ zk => XS.aload H10.here hx rfl (hb hby at_72) rfl rfl zk
    obtain ⟨_, T11, h11, H11, ⟨rfl, rfl⟩, -, st11⟩ := H10.callV (C := "com/example/veer32/veer32/bundle/NamespaceName") (hw _ (List.mem_of_getElem? (i := 150) rfl)) (hw _ (List.mem_of_getElem? (i := 151) rfl)) (hw _ (List.mem_of_getElem? (i := 153) rfl)) (hw _ (List.mem_of_getElem? (i := 152) rfl)) (by decide) (MetN.pay (W := 0) (c_g_localName l ⟨hw, SC0, hz0, SF1, rf1, SU2, SU3, SU4, SP, SN, XP, XN⟩ x8 m2 h8 H10.old G8_2) (hw _ (List.mem_of_getElem? (i := 154) rfl)) (hw _ (List.mem_of_getElem? (i := 62) rfl)) (by decide) (by decide)) E8 (g := (mkF m 74 #[.val (.int p0), .val (.int p1), .val (.int p2), .val (.int p3), .val (.ref m1), .val (.ref m2), .val (.ref m3), .val (.ref aP), .val (.ref a6), .val (.ref x8)] [(.ref x8)])) rfl (by rw [hml]; rfl) (argsL := []) (rest := []) (lenOf pd___Ljava_lang_String_ rfl) rfl rfl (Nat.le_of_eq rfl) (hb hby at_74) (by decide) (by decide) all0
    refine Rn.pu (g' := (mkF m 77 #[.val (.int p0), .val (.int p1), .val (.int p2), .val (.int p3), .val (.ref m1), .val (.ref m2), .val (.ref m3), .val (.ref aP), .val (.ref a6), .val (.ref x8)] [(.ref m2)])) ?_ st11
    refine Rn.pu (T' := T11) (g' := (mkF m 79 #[.val (.int p0), .val (.int p1), .val (.int p2), .val (.int p3), .val (.ref m1), .val (.ref m2), .val (.ref m3), .val (.ref aP), .val (.ref a6), .val (.ref x8)] [(.ref m2), (.ref m2)])) ?_ fun _ zk => XS.aload H11.here hx rfl (hb hby at_77) rfl rfl zk
    obtain ⟨_, T12, h12, H12, ⟨rfl, rfl⟩, -, st12⟩ := H11.callV (C := "java/lang/String") (hw _ (List.mem_of_getElem? (i := 145) rfl)) (hw _ (List.mem_of_getElem? (i := 146) rfl)) (hw _ (List.mem_of_getElem? (i := 148) rfl)) (hw _ (List.mem_of_getElem? (i := 147) rfl)) (by decide) (MetN.pay (W := 0) (c_same l ⟨hw, SC0, hz0, SF1, rf1, SU2, SU3, SU4, SP, SN, XP, XN⟩ m2 h8 H11.old) (hw _ (List.mem_of_getElem? (i := 149) rfl)) (hw _ (List.mem_of_getElem? (i := 10) rfl)) (by decide) (by decide)) ((((S2.keep K3 nin0 nin0).keep K6 nin0 nin0).keep K7 (ninS (adne (by omega)) nin0) (ninS (adne (by omega)) nin0)).keep K8 nin0 nin0).exa (g := (mkF m 79 #[.val (.int p0), .val (.int p1), .val (.int p2), .val (.int p3), .val (.ref m1), .val (.ref m2), .val (.ref m3), .val (.ref aP), .val (.ref a6), .val (.ref x8)] [(.ref m2), (.ref m2)])) rfl (by rw [hml]; rfl) (argsL := [(.ref m2)]) (rest := []) (lenOf pd__Ljava_lang_Object__Z rfl) rfl rfl (Nat.le_of_eq rfl) (hb hby at_79) (by decide) (by decide) all0
    refine Rn.pu (g' := (mkF m 82 #[.val (.int p0), .val (.int p1), .val (.int p2), .val (.int p3), .val (.ref m1), .val (.ref m2), .val (.ref m3), .val (.ref aP), .val (.ref a6), .val (.ref x8)] [(.int (1 : Int32))])) ?_ st12
    refine Rn.pu (T' := T12) (g' := (mkF m 85 #[.val (.int p0), .val (.int p1), .val (.int p2), .val (.int p3), .val (.ref m1), .val (.ref m2), .val (.ref m3), .val (.ref aP), .val (.ref a6), .val (.ref x8)] [])) ?_ fun _ zk => XS.ifNo H12.here hx rfl (hb hby at_82) rfl (z_eq_f (by decide)) zk
    refine Rn.pu (T' := T12) (g' := (mkF m 86 #[.val (.int p0), .val (.int p1), .val (.int p2), .val (.int p3), .val (.ref m1), .val (.ref m2), .val (.ref m3), .val (.ref aP), .val (.ref a6), .val (.ref x8)] [(.int (1 : Int32))])) ?_ fun _ zk => XS.iconst H12.here hx rfl (hb hby at_85) zk
    refine Rn.pu (T' := T12) (g' := (mkF m 90 #[.val (.int p0), .val (.int p1), .val (.int p2), .val (.int p3), .val (.ref m1), .val (.ref m2), .val (.ref m3), .val (.ref aP), .val (.ref a6), .val (.ref x8)] [(.int (1 : Int32))])) ?_ fun _ zk => XS.goto H12.here hx rfl (pc0 := 86) (pc' := 90) rfl (hb hby at_86) (by decide) (by decide) zk
    exact H12.retS ends_W hlk (t := .boolean) hret (by simp) (hb hby at_90) (by decide) (by decide) (fun _ q => nomatch q) rfl
  ·
    refine Rn.pu (T' := T3) (g' := (mkF m 24 #[.val (.int p0), .val (.int p1), .val (.int p2), .val (.int p3), .val (.ref m1), .val (.ref m2), .val (.ref m3), .unset, .unset, .unset] [])) ?_ fun _ zk => XS.ifNo H3.here hx rfl (hb hby at_21) rfl (z_eq_f b21_4) zk
    obtain ⟨T13, H13, st13⟩ := H3.getS (host := "") (Or.inl (hw _ (List.mem_of_getElem? (i := 37) rfl))) Via.refl (SN.ext H3.old) (g := (mkF m 24 #[.val (.int p0), .val (.int p1), .val (.int p2), .val (.int p3), .val (.ref m1), .val (.ref m2), .val (.ref m3), .unset, .unset, .unset] [])) rfl (hb hby at_24)
    refine Rn.pu (g' := (mkF m 27 #[.val (.int p0), .val (.int p1), .val (.int p2), .val (.int p3), .val (.ref m1), .val (.ref m2), .val (.ref m3), .unset, .unset, .unset] [(.ref aN)])) ?_ st13
    refine Rn.pu (T' := T13) (g' := (mkF m 33 #[.val (.int p0), .val (.int p1), .val (.int p2), .val (.int p3), .val (.ref m1), .val (.ref m2), .val (.ref m3), .unset, .unset, .unset] [(.ref aN)])) ?_ fun _ zk => XS.goto H13.here hx rfl (pc0 := 27) (pc' := 33) rfl (hb hby at_27) (by decide) (by decide) zk
    refine Rn.pu (T' := T13) (g' := (mkF m 35 #[.val (.int p0), .val (.int p1), .val (.int p2), .val (.int p3), .val (.ref m1), .val (.ref m2), .val (.ref m3), .val (.ref aN), .unset, .unset] [])) ?_ fun _ zk => XS.astore H13.here hx rfl (hb hby at_33) rfl rfl (l' := #[.val (.int p0), .val (.int p1), .val (.int p2), .val (.int p3), .val (.ref m1), .val (.ref m2), .val (.ref m3), .val (.ref aN), .unset, .unset]) rfl zk
    obtain ⟨a14, T14, h14, e14, H14, K14, E14, D14, st14⟩ := H13.newO (hw _ (List.mem_of_getElem? (i := 40) rfl)) (hw _ (List.mem_of_getElem? (i := 41) rfl)) (hw _ (List.mem_of_getElem? (i := 42) rfl)) (g := (mkF m 35 #[.val (.int p0), .val (.int p1), .val (.int p2), .val (.int p3), .val (.ref m1), .val (.ref m2), .val (.ref m3), .val (.ref aN), .unset, .unset] [])) rfl (hb hby at_35) (by decide) (by decide)
    have zh14 := K14.1
    have l14 := natlt (E14).lt
    have g14 : s.heap.size ≤ a14 := by omega
    have F14_domain : Fld Z h14 a14 "com/example/veer32/veer32/bundle/TopicName" "domain" "Lcom/example/veer32/veer32/bundle/TopicName$Domain;" .null := D14 (Or.inr (hw _ (List.mem_of_getElem? (i := 115) rfl))) (ty := (.object "com/example/veer32/veer32/bundle/TopicName$Domain")) (by decide)
    have F14_tenant : Fld Z h14 a14 "com/example/veer32/veer32/bundle/TopicName" "tenant" "Ljava/lang/String;" .null := D14 (Or.inr (hw _ (List.mem_of_getElem? (i := 117) rfl))) (ty := (.object "java/lang/String")) (by decide)
    have F14_namespace : Fld Z h14 a14 "com/example/veer32/veer32/bundle/TopicName" "namespace" "Ljava/lang/String;" .null := D14 (Or.inr (hw _ (List.mem_of_getElem? (i := 119) rfl))) (ty := (.object "java/lang/String")) (by decide)
    have F14_localName : Fld Z h14 a14 "com/example/veer32/veer32/bundle/TopicName" "localName" "Ljava/lang/String;" .null := D14 (Or.inr (hw _ (List.mem_of_getElem? (i := 121) rfl))) (ty := (.object "java/lang/String")) (by decide)
    refine Rn.pu (g' := (mkF m 38 #[.val (.int p0), .val (.int p1), .val (.int p2), .val (.int p3), .val (.ref m1), .val (.ref m2), .val (.ref m3), .val (.ref aN), .unset, .unset] [(.ref a14)])) ?_ st14
    refine Rn.pu (T' := T14) (g' := (mkF m 39 #[.val (.int p0), .val (.int p1), .val (.int p2), .val (.int p3), .val (.ref m1), .val (.ref m2), .val (.ref m3), .val (.ref aN), .unset, .unset] [(.ref a14), (.ref a14)])) ?_ fun _ zk => XS.dup H14.here hx rfl (hb hby at_38) rfl rfl zk
    refine Rn.pu (T' := T14) (g' := (mkF m 41 #[.val (.int p0), .val (.int p1), .val (.int p2), .val (.int p3), .val (.ref m1), .val (.ref m2), .val (.ref m3), .val (.ref aN), .unset, .unset] [(.ref aN), (.ref a14), (.ref a14)])) ?_ fun _ zk => XS.aload H14.here hx rfl (hb hby at_39) rfl rfl zk
    refine Rn.pu (T' := T14) (g' := (mkF m 43 #[.val (.int p0), .val (.int p1), .val (.int p2), .val (.int p3), .val (.ref m1), .val (.ref m2), .val (.ref m3), .val (.ref aN), .unset, .unset] [(.ref m1), (.ref aN), (.ref a14), (.ref a14)])) ?_ fun _ zk => XS.aload H14.here hx rfl (hb hby at_41) rfl rfl zk
    refine Rn.pu (T' := T14) (g' := (mkF m 45 #[.val (.int p0), .val (.int p1), .val (.int p2), .val (.int p3), .val (.ref m1), .val (.ref m2), .val (.ref m3), .val (.ref aN), .unset, .unset] [(.ref m2), (.ref m1), (.ref aN), (.ref a14), (.ref a14)])) ?_ fun _ zk => XS.aload H14.here hx rfl (hb hby at_43) rfl rfl zk
    refine Rn.pu (T' := T14) (g' := (mkF m 47 #[.val (.int p0), .val (.int p1), .val (.int p2), .val (.int p3), .val (.ref m1), .val (.ref m2), .val (.ref m3), .val (.ref aN), .unset, .unset] [(.ref m3), (.ref m2), (.ref m1), (.ref aN), (.ref a14), (.ref a14)])) ?_ fun _ zk => XS.aload H14.here hx rfl (hb hby at_45) rfl rfl zk
    obtain ⟨_, T15, h15, H15, ⟨rfl, E15, G15_0, G15_1, G15_2, G15_3⟩, K15, st15⟩ := H14.callIW rfl (hw _ (List.mem_of_getElem? (i := 43) rfl)) (hw _ (List.mem_of_getElem? (i := 44) rfl)) (hw _ (List.mem_of_getElem? (i := 45) rfl)) (by decide) (MetW.pay (W := 1) (c_tni l ⟨hw, SC0, hz0, SF1, rf1, SU2, SU3, SU4, SP, SN, XP, XN⟩ a14 aN m1 t1 m2 t2 m3 t3 c1 c2 c3 h14 H14.old E14 F14_domain F14_tenant F14_namespace F14_localName (by have := H0.old.1; omega) (by omega) (by omega) (by omega) (by omega) (by omega) (by omega) (((S1.keep K2 nin0 nin0).keep K3 nin0 nin0).keep K14 nin0 nin0) n11 n21 ne1 ((S2.keep K3 nin0 nin0).keep K14 nin0 nin0) n12 n22 ne2 (S3.keep K14 nin0 nin0) n13 n23 ne3) (hw _ (List.mem_of_getElem? (i := 45) rfl)) (hw _ (List.mem_of_getElem? (i := 42) rfl)) (by decide) (by decide)) (g := (mkF m 47 #[.val (.int p0), .val (.int p1), .val (.int p2), .val (.int p3), .val (.ref m1), .val (.ref m2), .val (.ref m3), .val (.ref aN), .unset, .unset] [(.ref m3), (.ref m2), (.ref m1), (.ref aN), (.ref a14), (.ref a14)])) rfl (by rw [hml]; rfl) (argsL := [(.ref aN), (.ref m1), (.ref m2), (.ref m3)]) (rest := [(.ref a14)]) (lenOf pd__Lcom_example_veer32_veer32_bundle_TopicName_Domain_Ljava_lang_String_Ljava_lang rfl) rfl rfl (Nat.le_of_eq rfl) (hb hby at_47) (by decide) (by decide) (allS (Or.inr (by omega)) all0) (fun _ _ _ _ => trivial)
    have zh15 := K15.1
    have H15 := H15.reV (V' := (fun _ => True)) (fun _ _ => trivial)
    refine Rn.pu (g' := (mkF m 50 #[.val (.int p0), .val (.int p1), .val (.int p2), .val (.int p3), .val (.ref m1), .val (.ref m2), .val (.ref m3), .val (.ref aN), .unset, .unset] [(.ref a14)])) ?_ st15
    refine Rn.pu (T' := T15) (g' := (mkF m 52 #[.val (.int p0), .val (.int p1), .val (.int p2), .val (.int p3), .val (.ref m1), .val (.ref m2), .val (.ref m3), .val (.ref aN), .val (.ref a14), .unset] [])) ?_ fun _ zk => XS.astore H15.here hx rfl (hb hby at_50) rfl rfl (l' := #[.val (.int p0), .val (.int p1), .val (.int p2), .val (.int p3), .val (.ref m1), .val (.ref m2), .val (.ref m3), .val (.ref aN), .val (.ref a14), .unset]) rfl zk
    refine Rn.pu (T' := T15) (g' := (mkF m 54 #[.val (.int p0), .val (.int p1), .val (.int p2), .val (.int p3), .val (.ref m1), .val (.ref m2), .val (.ref m3), .val (.ref aN), .val (.ref a14), .unset] [(.ref a14)])) ?_ fun _ zk => XS.aload H15.here hx rfl (hb hby at_52) rfl rfl zk
    obtain ⟨_, T16, h16, H16, ⟨x16, rfl, E16, G16_1, G16_2, gx16, lx16⟩, K16, st16⟩ := H15.callVW (C := "com/example/veer32/veer32/bundle/TopicName") (hw _ (List.mem_of_getElem? (i := 122) rfl)) (hw _ (List.mem_of_getElem? (i := 123) rfl)) (hw _ (List.mem_of_getElem? (i := 125) rfl)) (hw _ (List.mem_of_getElem? (i := 124) rfl)) (by decide) (MetW.pay (W := 0) (c_nsn l ⟨hw, SC0, hz0, SF1, rf1, SU2, SU3, SU4, SP, SN, XP, XN⟩ a14 m1 t1 m2 t2 c1 c2 h15 H15.old G15_1 G15_2 ((((S1.keep K2 nin0 nin0).keep K3 nin0 nin0).keep K14 nin0 nin0).keep K15 (ninS (adne (by omega)) nin0) (ninS (adne (by omega)) nin0)) n11 n21 ne1 (((S2.keep K3 nin0 nin0).keep K14 nin0 nin0).keep K15 (ninS (adne (by omega)) nin0) (ninS (adne (by omega)) nin0)) n12 n22 ne2) (hw _ (List.mem_of_getElem? (i := 126) rfl)) (hw _ (List.mem_of_getElem? (i := 42) rfl)) (by decide) (by decide)) E15 (g := (mkF m 54 #[.val (.int p0), .val (.int p1), .val (.int p2), .val (.int p3), .val (.ref m1), .val (.ref m2), .val (.ref m3), .val (.ref aN), .val (.ref a14), .unset] [(.ref a14)])) rfl (by rw [hml]; rfl) (argsL := []) (rest := []) (lenOf pd___Lcom_example_veer32_veer32_bundle_NamespaceName_ rfl) rfl rfl (Nat.le_of_eq rfl) (hb hby at_54) (by decide) (by decide) all0 (fun _ _ _ _ => trivial)
    have zh16 := K16.1
    have H16 := H16.reV (V' := (fun _ => True)) (fun _ _ => trivial)
    refine Rn.pu (g' := (mkF m 57 #[.val (.int p0), .val (.int p1), .val (.int p2), .val (.int p3), .val (.ref m1), .val (.ref m2), .val (.ref m3), .val (.ref aN), .val (.ref a14), .unset] [(.ref x16)])) ?_ st16
    refine Rn.pu (T' := T16) (g' := (mkF m 59 #[.val (.int p0), .val (.int p1), .val (.int p2), .val (.int p3), .val (.ref m1), .val (.ref m2), .val (.ref m3), .val (.ref aN), .val (.ref a14), .val (.ref x16)] [])) ?_ fun _ zk => XS.astore H16.here hx rfl (hb hby at_57) rfl rfl (l' := #[.val (.int p0), .val (.int p1), .val (.int p2), .val (.int p3), .val (.ref m1), .val (.ref m2), .val (.ref m3), .val (.ref aN), .val (.ref a14), .val (.ref x16)]) rfl zk
    refine Rn.pu (T' := T16) (g' := (mkF m 61 #[.val (.int p0), .val (.int p1), .val (.int p2), .val (.int p3), .val (.ref m1), .val (.ref m2), .val (.ref m3), .val (.ref aN), .val (.ref a14), .val (.ref x16)] [(.ref x16)])) ?_ fun _ zk => XS.aload H16.here hx rfl (hb hby at_59) rfl rfl zk
    obtain ⟨_, T17, h17, H17, ⟨rfl, rfl⟩, -, st17⟩ := H16.callV (C := "com/example/veer32/veer32/bundle/NamespaceName") (hw _ (List.mem_of_getElem? (i := 140) rfl)) (hw _ (List.mem_of_getElem? (i := 141) rfl)) (hw _ (List.mem_of_getElem? (i := 143) rfl)) (hw _ (List.mem_of_getElem? (i := 142) rfl)) (by decide) (MetN.pay (W := 0) (c_g_tenant l ⟨hw, SC0, hz0, SF1, rf1, SU2, SU3, SU4, SP, SN, XP, XN⟩ x16 m1 h16 H16.old G16_1) (hw _ (List.mem_of_getElem? (i := 144) rfl)) (hw _ (List.mem_of_getElem? (i := 62) rfl)) (by decide) (by decide)) E16 (g := (mkF m 61 #[.val (.int p0), .val (.int p1), .val (.int p2), .val (.int p3), .val (.ref m1), .val (.ref m2), .val (.ref m3), .val (.ref aN), .val (.ref a14), .val (.ref x16)] [(.ref x16)])) rfl (by rw [hml]; rfl) (argsL := []) (rest := []) (lenOf pd___Ljava_lang_String_ rfl) rfl rfl (Nat.le_of_eq rfl) (hb hby at_61) (by decide) (by decide) all0
    refine Rn.pu (g' := (mkF m 64 #[.val (.int p0), .val (.int p1), .val (.int p2), .val (.int p3), .val (.ref m1), .val (.ref m2), .val (.ref m3), .val (.ref aN), .val (.ref a14), .val (.ref x16)] [(.ref m1)])) ?_ st17
    refine Rn.pu (T' := T17) (g' := (mkF m 66 #[.val (.int p0), .val (.int p1), .val (.int p2), .val (.int p3), .val (.ref m1), .val (.ref m2), .val (.ref m3), .val (.ref aN), .val (.ref a14), .val (.ref x16)] [(.ref m1), (.ref m1)])) ?_ fun _ zk => XS.aload H17.here hx rfl (hb hby at_64) rfl rfl zk
    obtain ⟨_, T18, h18, H18, ⟨rfl, rfl⟩, -, st18⟩ := H17.callV (C := "java/lang/String") (hw _ (List.mem_of_getElem? (i := 145) rfl)) (hw _ (List.mem_of_getElem? (i := 146) rfl)) (hw _ (List.mem_of_getElem? (i := 148) rfl)) (hw _ (List.mem_of_getElem? (i := 147) rfl)) (by decide) (MetN.pay (W := 0) (c_same l ⟨hw, SC0, hz0, SF1, rf1, SU2, SU3, SU4, SP, SN, XP, XN⟩ m1 h16 H17.old) (hw _ (List.mem_of_getElem? (i := 149) rfl)) (hw _ (List.mem_of_getElem? (i := 10) rfl)) (by decide) (by decide)) (((((S1.keep K2 nin0 nin0).keep K3 nin0 nin0).keep K14 nin0 nin0).keep K15 (ninS (adne (by omega)) nin0) (ninS (adne (by omega)) nin0)).keep K16 nin0 nin0).exa (g := (mkF m 66 #[.val (.int p0), .val (.int p1), .val (.int p2), .val (.int p3), .val (.ref m1), .val (.ref m2), .val (.ref m3), .val (.ref aN), .val (.ref a14), .val (.ref x16)] [(.ref m1), (.ref m1)])) rfl (by rw [hml]; rfl) (argsL := [(.ref m1)]) (rest := []) (lenOf pd__Ljava_lang_Object__Z rfl) rfl rfl (Nat.le_of_eq rfl) (hb hby at_66) (by decide) (by decide) all0
    refine Rn.pu (g' := (mkF m 69 #[.val (.int p0), .val (.int p1), .val (.int p2), .val (.int p3), .val (.ref m1), .val (.ref m2), .val (.ref m3), .val (.ref aN), .val (.ref a14), .val (.ref x16)] [(.int (1 : Int32))])) ?_ st18
    refine Rn.pu (T' := T18) (g' := (mkF m 72 #[.val (.int p0), .val (.int p1), .val (.int p2), .val (.int p3), .val (.ref m1), .val (.ref m2), .val (.ref m3), .val (.ref aN), .val (.ref a14), .val (.ref x16)] [])) ?_ fun _ zk => XS.ifNo H18.here hx rfl (hb hby at_69) rfl (z_eq_f (by decide)) zk
    refine Rn.pu (T' := T18) (g' := (mkF m 74 #[.val (.int p0), .val (.int p1), .val (.int p2), .val (.int p3), .val (.ref m1), .val (.ref m2), .val (.ref m3), .val (.ref aN), .val (.ref a14), .val (.ref x16)] [(.ref x16)])) ?_ fun _ zk => XS.aload H18.here hx rfl (hb hby at_72) rfl rfl zk
    obtain ⟨_, T19, h19, H19, ⟨rfl, rfl⟩, -, st19⟩ := H18.callV (C := "com/example/veer32/veer32/bundle/NamespaceName") (hw _ (List.mem_of_getElem? (i := 150) rfl)) (hw _ (List.mem_of_getElem? (i := 151) rfl)) (hw _ (List.mem_of_getElem? (i := 153) rfl)) (hw _ (List.mem_of_getElem? (i := 152) rfl)) (by decide) (MetN.pay (W := 0) (c_g_localName l ⟨hw, SC0, hz0, SF1, rf1, SU2, SU3, SU4, SP, SN, XP, XN⟩ x16 m2 h16 H18.old G16_2) (hw _ (List.mem_of_getElem? (i := 154) rfl)) (hw _ (List.mem_of_getElem? (i := 62) rfl)) (by decide) (by decide)) E16 (g := (mkF m 74 #[.val (.int p0), .val (.int p1), .val (.int p2), .val (.int p3), .val (.ref m1), .val (.ref m2), .val (.ref m3), .val (.ref aN), .val (.ref a14), .val (.ref x16)] [(.ref x16)])) rfl (by rw [hml]; rfl) (argsL := []) (rest := []) (lenOf pd___Ljava_lang_String_ rfl) rfl rfl (Nat.le_of_eq rfl) (hb hby at_74) (by decide) (by decide) all0
    refine Rn.pu (g' := (mkF m 77 #[.val (.int p0), .val (.int p1), .val (.int p2), .val (.int p3), .val (.ref m1), .val (.ref m2), .val (.ref m3), .val (.ref aN), .val (.ref a14), .val (.ref x16)] [(.ref m2)])) ?_ st19
    refine Rn.pu (T' := T19) (g' := (mkF m 79 #[.val (.int p0), .val (.int p1), .val (.int p2), .val (.int p3), .val (.ref m1), .val (.ref m2), .val (.ref m3), .val (.ref aN), .val (.ref a14), .val (.ref x16)] [(.ref m2), (.ref m2)])) ?_ fun _ zk => XS.aload H19.here hx rfl (hb hby at_77) rfl rfl zk
    obtain ⟨_, T20, h20, H20, ⟨rfl, rfl⟩, -, st20⟩ := H19.callV (C := "java/lang/String") (hw _ (List.mem_of_getElem? (i := 145) rfl)) (hw _ (List.mem_of_getElem? (i := 146) rfl)) (hw _ (List.mem_of_getElem? (i := 148) rfl)) (hw _ (List.mem_of_getElem? (i := 147) rfl)) (by decide) (MetN.pay (W := 0) (c_same l ⟨hw, SC0, hz0, SF1, rf1, SU2, SU3, SU4, SP, SN, XP, XN⟩ m2 h16 H19.old) (hw _ (List.mem_of_getElem? (i := 149) rfl)) (hw _ (List.mem_of_getElem? (i := 10) rfl)) (by decide) (by decide)) ((((S2.keep K3 nin0 nin0).keep K14 nin0 nin0).keep K15 (ninS (adne (by omega)) nin0) (ninS (adne (by omega)) nin0)).keep K16 nin0 nin0).exa (g := (mkF m 79 #[.val (.int p0), .val (.int p1), .val (.int p2), .val (.int p3), .val (.ref m1), .val (.ref m2), .val (.ref m3), .val (.ref aN), .val (.ref a14), .val (.ref x16)] [(.ref m2), (.ref m2)])) rfl (by rw [hml]; rfl) (argsL := [(.ref m2)]) (rest := []) (lenOf pd__Ljava_lang_Object__Z rfl) rfl rfl (Nat.le_of_eq rfl) (hb hby at_79) (by decide) (by decide) all0
    refine Rn.pu (g' := (mkF m 82 #[.val (.int p0), .val (.int p1), .val (.int p2), .val (.int p3), .val (.ref m1), .val (.ref m2), .val (.ref m3), .val (.ref aN), .val (.ref a14), .val (.ref x16)] [(.int (1 : Int32))])) ?_ st20
    refine Rn.pu (T' := T20) (g' := (mkF m 85 #[.val (.int p0), .val (.int p1), .val (.int p2), .val (.int p3), .val (.ref m1), .val (.ref m2), .val (.ref m3), .val (.ref aN), .val (.ref a14), .val (.ref x16)] [])) ?_ fun _ zk => XS.ifNo H20.here hx rfl (hb hby at_82) rfl (z_eq_f (by decide)) zk
    refine Rn.pu (T' := T20) (g' := (mkF m 86 #[.val (.int p0), .val (.int p1), .val (.int p2), .val (.int p3), .val (.ref m1), .val (.ref m2), .val (.ref m3), .val (.ref aN), .val (.ref a14), .val (.ref x16)] [(.int (1 : Int32))])) ?_ fun _ zk => XS.iconst H20.here hx rfl (hb hby at_85) zk
    refine Rn.pu (T' := T20) (g' := (mkF m 90 #[.val (.int p0), .val (.int p1), .val (.int p2), .val (.int p3), .val (.ref m1), .val (.ref m2), .val (.ref m3), .val (.ref aN), .val (.ref a14), .val (.ref x16)] [(.int (1 : Int32))])) ?_ fun _ zk => XS.goto H20.here hx rfl (pc0 := 86) (pc' := 90) rfl (hb hby at_86) (by decide) (by decide) zk
    exact H20.retS ends_W hlk (t := .boolean) hret (by simp) (hb hby at_90) (by decide) (by decide) (fun _ q => nomatch q) rfl
set_option maxRecDepth 65536 in
set_option maxHeartbeats 40000000 in
theorem comes_1 {Post : Tables → Env → Array Value → State → Outcome → State → Prop} (hpost : ∀ tb e args s v u, (limb_1_1.after args s (.returned v) u = true ∧ limb_1_2.after args s (.returned v) u = true ∧ True) → ReturnedEndW s (.returned v) u (Jvm.fieldLocs frame_1_writes args s ++ Jvm.arrayLocs frame_1_arrays args s ++ Jvm.staticLocs frame_1_statics s) 48 6336 → Post tb e args s (.returned v) u) :
    ArmFor flags0 classFile x code maxLocals ret World_1 tables_1 room_1 Calls_1 rest_1 Pre_1 Post := by
  intro l hfl _ _ p e ha hc hk s m args below hf hA hF happ hP
  obtain ⟨hcalls, hrest, hpre⟩ := hP
  obtain ⟨-, -, -, hnamed, -, -, -, hat⟩ := (Spec.applies_iff hf).mp happ
  obtain ⟨hg, hn⟩ := and_e (Cond.before_iff.mp (show (Jvm.Cond.and given_1 narrow_1).before args s = true from hpre))
  obtain ⟨hcount, g0⟩ := and_e hg
  obtain ⟨i0, g1⟩ := and_e g0
  obtain ⟨i1, g2⟩ := and_e g1
  obtain ⟨i2, g3⟩ := and_e g2
  obtain ⟨w0, w1, w2, w3, rfl⟩ : ∃ w0 w1 w2 w3 : Value, args = #[w0, w1, w2, w3] := by
    have hs : args.size = 4 := by simpa [Cond.value, given_1] using hcount
    obtain ⟨L⟩ := args
    match L, hs with
    | [w0, w1, w2, w3], _ => exact ⟨w0, w1, w2, w3, rfl⟩
  have hw := fun d (hd : d ∈ tables_1) => atoms_spec (ws := Jvm.Cond.code x code maxLocals ret :: tables_1) hat d (List.mem_cons_of_mem _ hd)
  obtain ⟨hsets, hown0⟩ := atoms_of _ (rest_1_c_eq ▸ (show rest_1_c.before _ s = true from hrest))
  have hfit : Fit s := fun {y c} hc i hi => by
    obtain ⟨ha, rfl⟩ := Array.getElem?_eq_some_iff.mp hc
    have q := List.all_eq_true.mp ((Array.all_eq_true_iff_forall_mem.mp hF) _ (Array.getElem_mem ha)) i (List.mem_range.mpr hi)
    simpa [Array.getElem?_eq_getElem hi] using q
  obtain ⟨p0, ep0⟩ := is_v i0
  obtain rfl : w0 = (.int p0) := Option.some.inj ep0
  obtain ⟨p1, ep1⟩ := is_v i1
  obtain rfl : w1 = (.int p1) := Option.some.inj ep1
  obtain ⟨p2, ep2⟩ := is_v i2
  obtain rfl : w2 = (.int p2) := Option.some.inj ep2
  obtain ⟨p3, ep3⟩ := is_v g3
  obtain rfl : w3 = (.int p3) := Option.some.inj ep3
  obtain ⟨n0, m0⟩ := and_e hn
  have n1 := m0
  obtain ⟨zc, ezc⟩ := is_v (Cond.before_iff.mp (hsets _ (List.mem_of_getElem? (i := 1) rfl)))
  have SC0 : Sta s s.heap "java/lang/String" "COMPACT_STRINGS" "Z" (.int zc) := Sta.start ezc (Or.inl (hsets _ (List.mem_of_getElem? (i := 0) rfl)))
  have hz0 : ¬ (zc = (0 : Int32)) := gotF (Cond.eq_ints ezc (Term.int_eval (0))) (not_v (Cond.before_iff.mp (hsets _ (List.mem_of_getElem? (i := 2) rfl))))
  obtain ⟨fm, efm, rf1⟩ := isR_v (Cond.before_iff.mp (hsets _ (List.mem_of_getElem? (i := 8) rfl)))
  have SF1 : Sta s s.heap "jdk/internal/util/Preconditions" "SIOOBE_FORMATTER" "Ljava/util/function/BiFunction;" fm := Sta.start efm (Or.inl (hsets _ (List.mem_of_getElem? (i := 7) rfl)))
  have SU2 : Sta s s.heap "java/lang/StringUTF16" "$assertionsDisabled" "Z" (.int 1) := Sta.start (ev_int (Cond.before_iff.mp (hsets _ (List.mem_of_getElem? (i := 12) rfl)))) (Or.inl (hsets _ (List.mem_of_getElem? (i := 11) rfl)))
  have SU3 : Sta s s.heap "java/lang/StringUTF16" "HI_BYTE_SHIFT" "I" (.int 0) := Sta.start (ev_int (Cond.before_iff.mp (hsets _ (List.mem_of_getElem? (i := 15) rfl)))) (Or.inl (hsets _ (List.mem_of_getElem? (i := 14) rfl)))
  have SU4 : Sta s s.heap "java/lang/StringUTF16" "LO_BYTE_SHIFT" "I" (.int 8) := Sta.start (ev_int (Cond.before_iff.mp (hsets _ (List.mem_of_getElem? (i := 18) rfl)))) (Or.inl (hsets _ (List.mem_of_getElem? (i := 17) rfl)))
  obtain ⟨aP, eaP⟩ := exa_v n1
  have XP := Exa.start eaP n1
  have SP : Sta s s.heap "com/example/veer32/veer32/bundle/TopicName$Domain" "PERSISTENT" "Lcom/example/veer32/veer32/bundle/TopicName$Domain;" (.ref aP) := Sta.start eaP (Or.inr ⟨(hw _ (List.mem_of_getElem? (i := 38) rfl)), (hw _ (List.mem_of_getElem? (i := 156) rfl))⟩)
  obtain ⟨aN, eaN⟩ := exa_v n0
  have XN := Exa.start eaN n0
  have SN : Sta s s.heap "com/example/veer32/veer32/bundle/TopicName$Domain" "NON_PERSISTENT" "Lcom/example/veer32/veer32/bundle/TopicName$Domain;" (.ref aN) := Sta.start eaN (Or.inr ⟨(hw _ (List.mem_of_getElem? (i := 38) rfl)), (hw _ (List.mem_of_getElem? (i := 39) rfl))⟩)
  obtain ⟨n, o, h1, h2, h3, _, L, rfl, ⟨rfl, N, -⟩, hq⟩ := c_law l (Z := s) ⟨hw, SC0, hz0, SF1, rf1, SU2, SU3, SU4, SP, SN, XP, XN⟩ p0 p1 p2 p3 p e ha hc hk s m _ below hf ((Spec.applies_iff_loose hf).mp happ).1 ⟨rfl, State.Warmed39.refl s, rfl, trivial⟩ trivial
  have N' : ∀ y ∈ L, s.heap.size ≤ y.base := fun y hy => (N y hy).elim (fun q => nomatch q) id
  refine ⟨n, _, h1, h2, h3, hpost _ _ _ _ _ _ ⟨Cond.after_iff.mpr rfl, Cond.after_iff.mpr (eq_i res_at (Term.int_eval (1)) rfl), trivial⟩ ⟨hq.1, hq.2.1, hq.2.2.1, (hq.2.2.2.sift fun y hy => Or.inr (N' y hy)).mono (by decide) (by decide)⟩⟩
theorem main_1_1 : Claimed_1_1 := comes_1 fun _ _ _ _ _ _ h hF => ⟨h.1, hF⟩
theorem main_1_2 : Claimed_1_2 := comes_1 fun _ _ _ _ _ _ h hF => ⟨h.2.1, hF⟩
end Jvm.Pilot.@@N@@
namespace Jvm.Pilot.@@N@@
open Jvm Jvm.ClassFile Sem Op Lib Jvm.Free Jvm.Stand Jvm.Pilot.@@N@@.Jvm.D
/-! MADE BY PROGRAM (witnessworld.py) out of the Statement's table words and the real class files: 26 classes; the members and pool entries that the words name. The judged class is class 1, her method 3. -/
namespace start1
open Jvm.ClassFile
def u (s : String) : CpInfo := .utf8 (stringToUtf16 s)
/-- a pool by its gaps: so many unusable entries, then the entry; so many at the end -/
def gap : Nat → List CpInfo → List CpInfo
  | 0, r => r
  | n + 1, r => .unusable :: gap n r
def poolList (es : List (Nat × CpInfo)) (last : Nat) : List CpInfo := es.foldr (fun e r => gap e.1 (e.2 :: r)) (gap last [])
def pool (es : List (Nat × CpInfo)) (last : Nat) : Array CpInfo := ⟨poolList es last⟩
def fileOf (pool : Array CpInfo) (this : Nat) (attrs : Array Attribute := #[]) (ms : Array MethodInfo := #[]) (fl : Nat := 33) (sup : Nat := 0) (ifs : Array Nat := #[]) (fds : Array FieldInfo := #[]) : ClassFile where
  minorVersion := 0
  majorVersion := 65
  constantPool := pool
  accessFlags := fl
  thisClass := this
  superClass := sup
  interfaces := ifs
  fields := fds
  methods := ms
  attributes := attrs
def plain (name : String) (sup : Option ClassId) : Class where
  name := name
  kind := .ordinary
  loader := none
  accessFlags := 33
  super := sup
  interfaces := #[]
  cf := none
  fields := #[]
  methods := #[]
  instanceTypes := #[]
  staticTypes := #[]
  resolved := #[]
  callSites := []
  init := .initialized
  statics := none
  mirror := none

def pool0 : Array CpInfo := pool [(5, u "<init>"), (0, u "()V"), (1, .class_ 10), (1, u "java/lang/Object")] 113

def k0c0 : Code := { maxStack := 0, maxLocals := 1, code := object_method_1_code, exceptionTable := #[], attributes := #[] }
def k0m0 : Method := { name := "<init>", desc := "()V", sig := { parameters := [], returnType := none }, accessFlags := 1, code := some k0c0 }
/-- java/lang/Object -/
def k0 : Class := { plain "java/lang/Object" none with
  accessFlags := 33
  interfaces := #[]
  cf := some (fileOf pool0 8 #[] #[{ accessFlags := 1, nameIndex := 5, descriptorIndex := 6, attributes := #[] }] 33 0 #[] #[])
  fields := #[]
  methods := #[k0m0]
  instanceTypes := #[]
  staticTypes := #[]
  resolved := Array.replicate 124 none
  statics := none }

def pool1 : Array CpInfo := pool [(2, .class_ 4), (1, u "java/lang/Object"), (0, u "<init>"), (0, u "()V"), (0, .methodref 8 9), (0, .class_ 10), (0, .nameAndType 11 12), (0, u "com/example/veer32/veer32/bundle/TopicNameNamespaceNamePinLaw"), (0, u "ch"), (0, u "(I)C"), (0, .class_ 14), (0, u "java/lang/String"), (0, .methodref 13 16), (0, .nameAndType 5 17), (0, u "([C)V"), (0, .methodref 8 19), (0, .nameAndType 20 21), (0, u "part"), (0, u "(I)Ljava/lang/String;"), (0, .fieldref 23 24), (0, .class_ 25), (0, .nameAndType 26 27), (0, u "com/example/veer32/veer32/bundle/TopicName$Domain"), (0, u "NON_PERSISTENT"), (0, u "Lcom/example/veer32/veer32/bundle/TopicName$Domain;"), (0, .fieldref 23 29), (0, .nameAndType 30 27), (0, u "PERSISTENT"), (0, .class_ 32), (0, u "com/example/veer32/veer32/bundle/TopicName"), (0, .methodref 31 34), (0, .nameAndType 5 35), (0, u "(Lcom/example/veer32/veer32/bundle/TopicName$Domain;Ljava/lang/String;Ljava/lang/String;Ljava/lang/String;)V"), (0, .methodref 31 37), (0, .nameAndType 38 39), (0, u "namespaceName"), (0, u "()Lcom/example/veer32/veer32/bundle/NamespaceName;"), (0, .methodref 41 42), (0, .class_ 43), (0, .nameAndType 44 45), (0, u "com/example/veer32/veer32/bundle/NamespaceName"), (0, u "tenant"), (0, u "()Ljava/lang/String;"), (0, .methodref 13 47), (0, .nameAndType 48 49), (0, u "equals"), (0, u "(Ljava/lang/Object;)Z"), (0, .methodref 41 51), (0, .nameAndType 52 45), (0, u "localName"), (3, u "law"), (0, u "(IIII)Z")] 4

def k1m0 : Method := { name := "<init>", desc := "()V", sig := { parameters := [], returnType := none }, accessFlags := 1, code := none }
def k1c1 : Code := { maxStack := 2, maxLocals := 2, code := method_2_code, exceptionTable := #[], attributes := #[] }
def k1m1 : Method := { name := "ch", desc := "(I)C", sig := { parameters := [.int], returnType := some .char }, accessFlags := 10, code := some k1c1 }
def k1c2 : Code := { maxStack := 3, maxLocals := 4, code := method_3_code, exceptionTable := #[], attributes := #[] }
def k1m2 : Method := { name := "part", desc := "(I)Ljava/lang/String;", sig := { parameters := [.int], returnType := some (.object "java/lang/String") }, accessFlags := 10, code := some k1c2 }
def k1c3 : Code := { maxStack := 6, maxLocals := 10, code := code, exceptionTable := #[], attributes := #[] }
def k1m3 : Method := { name := "law", desc := "(IIII)Z", sig := { parameters := [.int, .int, .int, .int], returnType := some .boolean }, accessFlags := 9, code := some k1c3 }
/-- com/example/veer32/veer32/bundle/TopicNameNamespaceNamePinLaw -/
def k1 : Class := { plain "com/example/veer32/veer32/bundle/TopicNameNamespaceNamePinLaw" (some 0) with
  accessFlags := 49
  interfaces := #[]
  cf := some (fileOf pool1 8 #[] #[{ accessFlags := 1, nameIndex := 5, descriptorIndex := 6, attributes := #[] }, { accessFlags := 10, nameIndex := 11, descriptorIndex := 12, attributes := #[] }, { accessFlags := 10, nameIndex := 20, descriptorIndex := 21, attributes := #[] }, { accessFlags := 9, nameIndex := 56, descriptorIndex := 57, attributes := #[] }] 49 2 #[] #[])
  fields := #[]
  methods := #[k1m0, k1m1, k1m2, k1m3]
  instanceTypes := #[]
  staticTypes := #[]
  resolved := Array.replicate 62 none
  statics := none }

def pool2 : Array CpInfo := pool [(1, .class_ 2), (0, u "java/io/Serializable"), (0, .class_ 4), (0, u "java/lang/Object")] 2

/-- java/io/Serializable -/
def k2 : Class := { plain "java/io/Serializable" (some 0) with
  accessFlags := 1537
  interfaces := #[]
  cf := some (fileOf pool2 1 #[] #[] 1537 3 #[] #[])
  fields := #[]
  methods := #[]
  instanceTypes := #[]
  staticTypes := #[]
  resolved := Array.replicate 7 none
  statics := none }

def pool3 : Array CpInfo := pool [(1, .class_ 2), (0, u "java/lang/Comparable"), (0, .class_ 4), (0, u "java/lang/Object")] 7

/-- java/lang/Comparable -/
def k3 : Class := { plain "java/lang/Comparable" (some 0) with
  accessFlags := 1537
  interfaces := #[]
  cf := some (fileOf pool3 1 #[] #[] 1537 3 #[] #[])
  fields := #[]
  methods := #[]
  instanceTypes := #[]
  staticTypes := #[]
  resolved := Array.replicate 12 none
  statics := none }

def pool4 : Array CpInfo := pool [(2, .class_ 4), (1, u "java/lang/CharSequence"), (42, .class_ 48), (0, u "java/lang/CharSequence$1CodePointIterator"), (10, .class_ 60), (0, u "java/lang/CharSequence$1CharIterator"), (5, .class_ 67), (0, u "java/lang/Object")] 63

/-- java/lang/CharSequence -/
def k4 : Class := { plain "java/lang/CharSequence" (some 0) with
  accessFlags := 1537
  interfaces := #[]
  cf := some (fileOf pool4 2 #[.nestMembers #[47, 59]] #[] 1537 66 #[] #[])
  fields := #[]
  methods := #[]
  instanceTypes := #[]
  staticTypes := #[]
  resolved := Array.replicate 131 none
  statics := none }

def pool5 : Array CpInfo := pool [(1, .class_ 2), (0, u "java/lang/constant/Constable"), (0, .class_ 4), (0, u "java/lang/Object")] 6

/-- java/lang/constant/Constable -/
def k5 : Class := { plain "java/lang/constant/Constable" (some 0) with
  accessFlags := 1537
  interfaces := #[]
  cf := some (fileOf pool5 1 #[] #[] 1537 3 #[] #[])
  fields := #[]
  methods := #[]
  instanceTypes := #[]
  staticTypes := #[]
  resolved := Array.replicate 11 none
  statics := none }

def pool6 : Array CpInfo := pool [(1, .class_ 2), (0, u "java/lang/constant/ConstantDesc"), (0, .class_ 4), (0, u "java/lang/Object")] 32

/-- java/lang/constant/ConstantDesc -/
def k6 : Class := { plain "java/lang/constant/ConstantDesc" (some 0) with
  accessFlags := 1537
  interfaces := #[]
  cf := some (fileOf pool6 1 #[] #[] 1537 3 #[] #[])
  fields := #[]
  methods := #[]
  instanceTypes := #[]
  staticTypes := #[]
  resolved := Array.replicate 37 none
  statics := none }

def pool7 : Array CpInfo := pool [(1, .methodref 2 3), (0, .class_ 4), (0, .nameAndType 5 6), (0, u "java/lang/Object"), (0, u "<init>"), (0, u "()V"), (2, .fieldref 10 11), (0, .class_ 12), (0, .nameAndType 13 14), (0, u "java/lang/String"), (0, u "value"), (0, u "[B"), (0, .fieldref 10 16), (0, .nameAndType 17 18), (0, u "coder"), (0, u "B"), (2, u "hash"), (0, u "I"), (2, u "hashIsZero"), (0, u "Z"), (0, .methodref 10 28), (0, .nameAndType 5 29), (0, u "([CIILjava/lang/Void;)V"), (8, .fieldref 10 39), (0, .nameAndType 40 26), (0, u "COMPACT_STRINGS"), (1, .class_ 44), (1, u "java/lang/StringUTF16"), (0, u "compress"), (1, .methodref 42 48), (0, .nameAndType 49 50), (0, u "coderFromArrayLen"), (0, u "([BI)B"), (56, .class_ 109), (1, u "java/lang/StringLatin1"), (32, u "()Z"), (34, .methodref 42 178), (0, .nameAndType 45 179), (0, u "([CII)[B"), (154, u "()I"), (0, .methodref 10 336), (0, .nameAndType 17 337), (0, u "()B"), (154, .methodref 10 493), (0, .nameAndType 494 142), (0, u "isLatin1"), (10, .methodref 10 506), (0, .nameAndType 507 334), (0, u "length"), (5, u "checkFromToIndex"), (9, u "checkBoundsBeginEnd"), (0, u "(III)V"), (18, u "equals"), (29, u "(Ljava/lang/Object;)Z"), (1, .class_ 576), (0, u "java/lang/CharSequence"), (22, u "CASE_INSENSITIVE_ORDER"), (0, u "Ljava/util/Comparator;"), (32, .methodref 10 634), (0, .nameAndType 635 636), (0, u "indexOf"), (0, u "(II)I"), (0, .methodref 107 638), (0, .nameAndType 635 639), (0, u "([BIII)I"), (0, .methodref 42 638), (51, u "isEmpty"), (72, u "(I)I"), (244, u "([C)V"), (42, .fieldref 1054 1055), (0, .class_ 1056), (0, .nameAndType 1057 1058), (0, u "jdk/internal/util/Preconditions"), (0, u "SIOOBE_FORMATTER"), (0, u "Ljava/util/function/BiFunction;"), (3, .methodref 1054 1063), (0, .nameAndType 513 1064), (0, u "(IIILjava/util/function/BiFunction;)I"), (36, u "serialPersistentFields"), (0, u "[Ljava/io/ObjectStreamField;"), (0, .class_ 1104), (0, u "java/lang/String$CaseInsensitiveComparator"), (1, .class_ 1107), (0, u "java/io/Serializable"), (0, .class_ 1109), (0, u "java/lang/Comparable"), (0, .class_ 1111), (0, u "java/lang/constant/Constable"), (0, .class_ 1113), (0, u "java/lang/constant/ConstantDesc"), (2, u "serialVersionUID"), (0, u "J"), (3, u "REPL"), (0, u "C"), (2, u "LATIN1"), (1, u "UTF16")] 323

def k7m0 : Method := { name := "<init>", desc := "()V", sig := { parameters := [], returnType := none }, accessFlags := 1, code := none }
def k7c1 : Code := { maxStack := 5, maxLocals := 2, code := jdk_42_method_3_code, exceptionTable := #[], attributes := #[] }
def k7m1 : Method := { name := "<init>", desc := "([C)V", sig := { parameters := [(.array .char)], returnType := none }, accessFlags := 1, code := some k7c1 }
def k7c2 : Code := { maxStack := 2, maxLocals := 1, code := jdk_42_method_54_code, exceptionTable := #[], attributes := #[] }
def k7m2 : Method := { name := "length", desc := "()I", sig := { parameters := [], returnType := some .int }, accessFlags := 1, code := some k7c2 }
def k7c3 : Code := { maxStack := 1, maxLocals := 1, code := jdk_42_method_55_code, exceptionTable := #[], attributes := #[] }
def k7m3 : Method := { name := "isEmpty", desc := "()Z", sig := { parameters := [], returnType := some .boolean }, accessFlags := 1, code := some k7c3 }
def k7c4 : Code := { maxStack := 2, maxLocals := 3, code := jdk_42_method_66_code, exceptionTable := #[], attributes := #[] }
def k7m4 : Method := { name := "equals", desc := "(Ljava/lang/Object;)Z", sig := { parameters := [(.object "java/lang/Object")], returnType := some .boolean }, accessFlags := 1, code := some k7c4 }
def k7c5 : Code := { maxStack := 3, maxLocals := 2, code := jdk_42_method_79_code, exceptionTable := #[], attributes := #[] }
def k7m5 : Method := { name := "indexOf", desc := "(I)I", sig := { parameters := [.int], returnType := some .int }, accessFlags := 1, code := some k7c5 }
def k7c6 : Code := { maxStack := 4, maxLocals := 3, code := jdk_42_method_80_code, exceptionTable := #[], attributes := #[] }
def k7m6 : Method := { name := "indexOf", desc := "(II)I", sig := { parameters := [.int, .int], returnType := some .int }, accessFlags := 1, code := some k7c6 }
def k7c7 : Code := { maxStack := 4, maxLocals := 6, code := jdk_42_method_149_code, exceptionTable := #[], attributes := #[] }
def k7m7 : Method := { name := "<init>", desc := "([CIILjava/lang/Void;)V", sig := { parameters := [(.array .char), .int, .int, (.object "java/lang/Void")], returnType := none }, accessFlags := 2, code := some k7c7 }
def k7c8 : Code := { maxStack := 1, maxLocals := 1, code := jdk_42_method_152_code, exceptionTable := #[], attributes := #[] }
def k7m8 : Method := { name := "coder", desc := "()B", sig := { parameters := [], returnType := some .byte }, accessFlags := 0, code := some k7c8 }
def k7c9 : Code := { maxStack := 1, maxLocals := 1, code := jdk_42_method_154_code, exceptionTable := #[], attributes := #[] }
def k7m9 : Method := { name := "isLatin1", desc := "()Z", sig := { parameters := [], returnType := some .boolean }, accessFlags := 0, code := some k7c9 }
def k7c10 : Code := { maxStack := 4, maxLocals := 3, code := jdk_42_method_158_code, exceptionTable := #[], attributes := #[] }
def k7m10 : Method := { name := "checkBoundsBeginEnd", desc := "(III)V", sig := { parameters := [.int, .int, .int], returnType := none }, accessFlags := 8, code := some k7c10 }
/-- java/lang/String -/
def k7 : Class := { plain "java/lang/String" (some 0) with
  accessFlags := 49
  interfaces := #[2, 3, 4, 5, 6]
  cf := some (fileOf pool7 10 #[.nestMembers #[1103]] #[{ accessFlags := 1, nameIndex := 5, descriptorIndex := 6, attributes := #[] }, { accessFlags := 1, nameIndex := 5, descriptorIndex := 1010, attributes := #[] }, { accessFlags := 1, nameIndex := 507, descriptorIndex := 334, attributes := #[] }, { accessFlags := 1, nameIndex := 692, descriptorIndex := 142, attributes := #[] }, { accessFlags := 1, nameIndex := 543, descriptorIndex := 573, attributes := #[] }, { accessFlags := 1, nameIndex := 635, descriptorIndex := 765, attributes := #[] }, { accessFlags := 1, nameIndex := 635, descriptorIndex := 636, attributes := #[] }, { accessFlags := 2, nameIndex := 5, descriptorIndex := 29, attributes := #[] }, { accessFlags := 0, nameIndex := 17, descriptorIndex := 337, attributes := #[] }, { accessFlags := 0, nameIndex := 494, descriptorIndex := 142, attributes := #[] }, { accessFlags := 8, nameIndex := 523, descriptorIndex := 524, attributes := #[] }] 49 2 #[1106, 1108, 575, 1110, 1112] #[{ accessFlags := 18, nameIndex := 13, descriptorIndex := 14, attributes := #[] }, { accessFlags := 18, nameIndex := 17, descriptorIndex := 18, attributes := #[] }, { accessFlags := 2, nameIndex := 21, descriptorIndex := 22, attributes := #[] }, { accessFlags := 2, nameIndex := 25, descriptorIndex := 26, attributes := #[] }, { accessFlags := 26, nameIndex := 1116, descriptorIndex := 1117, attributes := #[] }, { accessFlags := 24, nameIndex := 40, descriptorIndex := 26, attributes := #[] }, { accessFlags := 26, nameIndex := 1101, descriptorIndex := 1102, attributes := #[] }, { accessFlags := 26, nameIndex := 1121, descriptorIndex := 1122, attributes := #[] }, { accessFlags := 25, nameIndex := 599, descriptorIndex := 600, attributes := #[] }, { accessFlags := 24, nameIndex := 1125, descriptorIndex := 18, attributes := #[] }, { accessFlags := 24, nameIndex := 1127, descriptorIndex := 18, attributes := #[] }])
  fields := #[{ name := "value", type := (.array .byte), accessFlags := 18, slot := 0, constantValue := 0 }, { name := "coder", type := .byte, accessFlags := 18, slot := 1, constantValue := 0 }, { name := "hash", type := .int, accessFlags := 2, slot := 2, constantValue := 0 }, { name := "hashIsZero", type := .boolean, accessFlags := 2, slot := 3, constantValue := 0 }, { name := "serialVersionUID", type := .long, accessFlags := 26, slot := 0, constantValue := 0 }, { name := "COMPACT_STRINGS", type := .boolean, accessFlags := 24, slot := 1, constantValue := 0 }, { name := "serialPersistentFields", type := (.array (.object "java/io/ObjectStreamField")), accessFlags := 26, slot := 2, constantValue := 0 }, { name := "REPL", type := .char, accessFlags := 26, slot := 3, constantValue := 0 }, { name := "CASE_INSENSITIVE_ORDER", type := (.object "java/util/Comparator"), accessFlags := 25, slot := 4, constantValue := 0 }, { name := "LATIN1", type := .byte, accessFlags := 24, slot := 5, constantValue := 0 }, { name := "UTF16", type := .byte, accessFlags := 24, slot := 6, constantValue := 0 }]
  methods := #[k7m0, k7m1, k7m2, k7m3, k7m4, k7m5, k7m6, k7m7, k7m8, k7m9, k7m10]
  instanceTypes := #[(.array .byte), .byte, .int, .boolean]
  staticTypes := #[.long, .boolean, (.array (.object "java/io/ObjectStreamField")), .char, (.object "java/util/Comparator"), .byte, .byte]
  resolved := Array.replicate 1451 none
  statics := some 0 }

def pool8 : Array CpInfo := pool [(3, .class_ 4), (0, u "java/lang/String"), (1, .class_ 8), (1, u "java/lang/Object"), (0, u "<init>"), (0, u "()V"), (0, .methodref 12 13), (0, .class_ 14), (0, .nameAndType 15 16), (0, u "java/lang/StringUTF16"), (0, u "newBytesLength"), (0, u "(I)I"), (3, .integer 1073741823), (23, .fieldref 12 45), (0, .nameAndType 46 47), (0, u "$assertionsDisabled"), (0, u "Z"), (0, .methodref 12 49), (0, .nameAndType 50 51), (0, u "length"), (0, u "([B)I"), (7, .fieldref 12 60), (0, .nameAndType 61 62), (0, u "HI_BYTE_SHIFT"), (0, u "I"), (0, .fieldref 12 64), (0, .nameAndType 65 62), (0, u "LO_BYTE_SHIFT"), (5, .methodref 12 72), (0, .nameAndType 73 74), (0, u "getChar"), (0, u "([BI)C"), (21, .methodref 12 97), (0, .nameAndType 98 99), (0, u "checkBoundsBeginEnd"), (0, u "(II[B)V"), (7, .methodref 12 108), (0, .nameAndType 109 110), (0, u "newBytesFor"), (0, u "(I)[B"), (0, .methodref 12 112), (0, .nameAndType 113 114), (0, u "putChar"), (0, u "([BII)V"), (0, .methodref 12 116), (0, .nameAndType 117 118), (0, u "compress"), (0, u "([CI[BII)I"), (0, .methodref 12 120), (0, .nameAndType 121 122), (0, u "toBytes"), (0, u "([CII)[B"), (60, .methodref 184 185), (0, .class_ 186), (0, .nameAndType 187 188), (0, u "java/lang/Math"), (0, u "min"), (0, u "(II)I"), (35, .methodref 184 225), (0, .nameAndType 226 188), (0, u "max"), (0, .integer 65536), (0, .methodref 12 229), (0, .nameAndType 230 231), (0, u "indexOfChar"), (0, u "([BIII)I"), (9, .methodref 3 242), (0, .nameAndType 98 243), (0, u "(III)V"), (0, .methodref 12 245), (0, .nameAndType 246 231), (0, u "indexOfCharUnsafe"), (14, u "coderFromArrayLen"), (0, u "([BI)B"), (5, u "indexOf"), (100, .class_ 371), (1, u "java/lang/StringUTF16$LinesSpliterator"), (58, u "MAX_LENGTH"), (196, .class_ 628), (0, u "java/lang/StringUTF16$CodePointsSpliterator"), (0, .class_ 630), (0, u "java/lang/StringUTF16$CharsSpliterator")] 4

def k8m0 : Method := { name := "<init>", desc := "()V", sig := { parameters := [], returnType := none }, accessFlags := 0, code := none }
def k8c1 : Code := { maxStack := 1, maxLocals := 1, code := jdk_52_method_2_code, exceptionTable := #[], attributes := #[] }
def k8m1 : Method := { name := "newBytesFor", desc := "(I)[B", sig := { parameters := [.int], returnType := some (.array .byte) }, accessFlags := 9, code := some k8c1 }
def k8c2 : Code := { maxStack := 4, maxLocals := 1, code := jdk_52_method_3_code, exceptionTable := #[], attributes := #[] }
def k8m2 : Method := { name := "newBytesLength", desc := "(I)I", sig := { parameters := [.int], returnType := some .int }, accessFlags := 9, code := some k8c2 }
def k8c3 : Code := { maxStack := 4, maxLocals := 3, code := jdk_52_method_4_code, exceptionTable := #[], attributes := #[] }
def k8m3 : Method := { name := "putChar", desc := "([BII)V", sig := { parameters := [(.array .byte), .int, .int], returnType := none }, accessFlags := 8, code := some k8c3 }
def k8c4 : Code := { maxStack := 3, maxLocals := 2, code := jdk_52_method_5_code, exceptionTable := #[], attributes := #[] }
def k8m4 : Method := { name := "getChar", desc := "([BI)C", sig := { parameters := [(.array .byte), .int], returnType := some .char }, accessFlags := 8, code := some k8c4 }
def k8c5 : Code := { maxStack := 2, maxLocals := 1, code := jdk_52_method_6_code, exceptionTable := #[], attributes := #[] }
def k8m5 : Method := { name := "length", desc := "([B)I", sig := { parameters := [(.array .byte)], returnType := some .int }, accessFlags := 9, code := some k8c5 }
def k8c6 : Code := { maxStack := 4, maxLocals := 5, code := jdk_52_method_14_code, exceptionTable := #[], attributes := #[] }
def k8m6 : Method := { name := "toBytes", desc := "([CII)[B", sig := { parameters := [(.array .char), .int, .int], returnType := some (.array .byte) }, accessFlags := 9, code := some k8c6 }
def k8c7 : Code := { maxStack := 2, maxLocals := 2, code := jdk_52_method_15_code, exceptionTable := #[], attributes := #[] }
def k8m7 : Method := { name := "coderFromArrayLen", desc := "([BI)B", sig := { parameters := [(.array .byte), .int], returnType := some .byte }, accessFlags := 8, code := some k8c7 }
def k8c8 : Code := { maxStack := 5, maxLocals := 6, code := jdk_52_method_16_code, exceptionTable := #[], attributes := #[] }
def k8m8 : Method := { name := "compress", desc := "([CII)[B", sig := { parameters := [(.array .char), .int, .int], returnType := some (.array .byte) }, accessFlags := 9, code := some k8c8 }
def k8c9 : Code := { maxStack := 3, maxLocals := 7, code := jdk_52_method_21_code, exceptionTable := #[], attributes := #[] }
def k8m9 : Method := { name := "compress", desc := "([CI[BII)I", sig := { parameters := [(.array .char), .int, (.array .byte), .int, .int], returnType := some .int }, accessFlags := 9, code := some k8c9 }
def k8c10 : Code := { maxStack := 4, maxLocals := 4, code := jdk_52_method_40_code, exceptionTable := #[], attributes := #[] }
def k8m10 : Method := { name := "indexOf", desc := "([BIII)I", sig := { parameters := [(.array .byte), .int, .int, .int], returnType := some .int }, accessFlags := 9, code := some k8c10 }
def k8c11 : Code := { maxStack := 4, maxLocals := 4, code := jdk_52_method_47_code, exceptionTable := #[], attributes := #[] }
def k8m11 : Method := { name := "indexOfChar", desc := "([BIII)I", sig := { parameters := [(.array .byte), .int, .int, .int], returnType := some .int }, accessFlags := 10, code := some k8c11 }
def k8c12 : Code := { maxStack := 2, maxLocals := 5, code := jdk_52_method_48_code, exceptionTable := #[], attributes := #[] }
def k8m12 : Method := { name := "indexOfCharUnsafe", desc := "([BIII)I", sig := { parameters := [(.array .byte), .int, .int, .int], returnType := some .int }, accessFlags := 10, code := some k8c12 }
def k8c13 : Code := { maxStack := 3, maxLocals := 3, code := jdk_52_method_93_code, exceptionTable := #[], attributes := #[] }
def k8m13 : Method := { name := "checkBoundsBeginEnd", desc := "(II[B)V", sig := { parameters := [.int, .int, (.array .byte)], returnType := none }, accessFlags := 9, code := some k8c13 }
/-- java/lang/StringUTF16 -/
def k8 : Class := { plain "java/lang/StringUTF16" (some 0) with
  accessFlags := 48
  interfaces := #[]
  cf := some (fileOf pool8 12 #[.nestMembers #[627, 629, 369]] #[{ accessFlags := 0, nameIndex := 9, descriptorIndex := 10, attributes := #[] }, { accessFlags := 9, nameIndex := 109, descriptorIndex := 110, attributes := #[] }, { accessFlags := 9, nameIndex := 15, descriptorIndex := 16, attributes := #[] }, { accessFlags := 8, nameIndex := 113, descriptorIndex := 114, attributes := #[] }, { accessFlags := 8, nameIndex := 73, descriptorIndex := 74, attributes := #[] }, { accessFlags := 9, nameIndex := 50, descriptorIndex := 51, attributes := #[] }, { accessFlags := 9, nameIndex := 121, descriptorIndex := 122, attributes := #[] }, { accessFlags := 8, nameIndex := 261, descriptorIndex := 262, attributes := #[] }, { accessFlags := 9, nameIndex := 117, descriptorIndex := 122, attributes := #[] }, { accessFlags := 9, nameIndex := 117, descriptorIndex := 118, attributes := #[] }, { accessFlags := 9, nameIndex := 268, descriptorIndex := 231, attributes := #[] }, { accessFlags := 10, nameIndex := 230, descriptorIndex := 231, attributes := #[] }, { accessFlags := 10, nameIndex := 246, descriptorIndex := 231, attributes := #[] }, { accessFlags := 9, nameIndex := 98, descriptorIndex := 99, attributes := #[] }] 48 6 #[] #[{ accessFlags := 26, nameIndex := 61, descriptorIndex := 62, attributes := #[] }, { accessFlags := 26, nameIndex := 65, descriptorIndex := 62, attributes := #[] }, { accessFlags := 24, nameIndex := 430, descriptorIndex := 62, attributes := #[] }, { accessFlags := 4120, nameIndex := 46, descriptorIndex := 47, attributes := #[] }])
  fields := #[{ name := "HI_BYTE_SHIFT", type := .int, accessFlags := 26, slot := 0, constantValue := 0 }, { name := "LO_BYTE_SHIFT", type := .int, accessFlags := 26, slot := 1, constantValue := 0 }, { name := "MAX_LENGTH", type := .int, accessFlags := 24, slot := 2, constantValue := 0 }, { name := "$assertionsDisabled", type := .boolean, accessFlags := 4120, slot := 3, constantValue := 0 }]
  methods := #[k8m0, k8m1, k8m2, k8m3, k8m4, k8m5, k8m6, k8m7, k8m8, k8m9, k8m10, k8m11, k8m12, k8m13]
  instanceTypes := #[]
  staticTypes := #[.int, .int, .int, .boolean]
  resolved := Array.replicate 635 none
  statics := some 1 }

def pool9 : Array CpInfo := pool [(2, .class_ 4), (1, u "java/lang/Enum"), (0, u "name"), (0, u "Ljava/lang/String;"), (2, u "ordinal"), (0, u "I"), (1, .class_ 14), (1, u "java/lang/Object"), (4, u "hash"), (86, .class_ 108), (1, u "java/lang/Enum$EnumDesc"), (2, .class_ 112), (0, u "java/lang/constant/Constable"), (0, .class_ 114), (0, u "java/lang/Comparable"), (0, .class_ 116), (0, u "java/io/Serializable")] 87

/-- java/lang/Enum -/
def k9 : Class := { plain "java/lang/Enum" (some 0) with
  accessFlags := 1057
  interfaces := #[5, 3, 2]
  cf := some (fileOf pool9 2 #[.nestMembers #[106]] #[] 1057 12 #[111, 113, 115] #[{ accessFlags := 18, nameIndex := 5, descriptorIndex := 6, attributes := #[] }, { accessFlags := 18, nameIndex := 9, descriptorIndex := 10, attributes := #[] }, { accessFlags := 2, nameIndex := 19, descriptorIndex := 10, attributes := #[] }])
  fields := #[{ name := "name", type := (.object "java/lang/String"), accessFlags := 18, slot := 0, constantValue := 0 }, { name := "ordinal", type := .int, accessFlags := 18, slot := 1, constantValue := 0 }, { name := "hash", type := .int, accessFlags := 2, slot := 2, constantValue := 0 }]
  methods := #[]
  instanceTypes := #[(.object "java/lang/String"), .int, .int]
  staticTypes := #[]
  resolved := Array.replicate 204 none
  statics := none }

def pool10 : Array CpInfo := pool [(1, .class_ 2), (0, u "com/example/veer32/veer32/bundle/TopicName$Domain"), (2, u "PERSISTENT"), (0, u "Lcom/example/veer32/veer32/bundle/TopicName$Domain;"), (2, u "NON_PERSISTENT"), (2, u "$VALUES"), (0, u "[Lcom/example/veer32/veer32/bundle/TopicName$Domain;"), (6, .class_ 22), (1, u "java/lang/Enum"), (8, u "text"), (0, u "Ljava/lang/String;"), (45, .class_ 79), (0, u "com/example/veer32/veer32/bundle/TopicName")] 16

/-- com/example/veer32/veer32/bundle/TopicName$Domain -/
def k10 : Class := { plain "com/example/veer32/veer32/bundle/TopicName$Domain" (some 9) with
  accessFlags := 16433
  interfaces := #[]
  cf := some (fileOf pool10 1 #[.nestHost 78] #[] 16433 20 #[] #[{ accessFlags := 16409, nameIndex := 5, descriptorIndex := 6, attributes := #[] }, { accessFlags := 16409, nameIndex := 9, descriptorIndex := 6, attributes := #[] }, { accessFlags := 18, nameIndex := 31, descriptorIndex := 32, attributes := #[] }, { accessFlags := 4122, nameIndex := 12, descriptorIndex := 13, attributes := #[] }])
  fields := #[{ name := "PERSISTENT", type := (.object "com/example/veer32/veer32/bundle/TopicName$Domain"), accessFlags := 16409, slot := 0, constantValue := 0 }, { name := "NON_PERSISTENT", type := (.object "com/example/veer32/veer32/bundle/TopicName$Domain"), accessFlags := 16409, slot := 1, constantValue := 0 }, { name := "text", type := (.object "java/lang/String"), accessFlags := 18, slot := 3, constantValue := 0 }, { name := "$VALUES", type := (.array (.object "com/example/veer32/veer32/bundle/TopicName$Domain")), accessFlags := 4122, slot := 2, constantValue := 0 }]
  methods := #[]
  instanceTypes := #[(.object "java/lang/String"), .int, .int, (.object "java/lang/String")]
  staticTypes := #[(.object "com/example/veer32/veer32/bundle/TopicName$Domain"), (.object "com/example/veer32/veer32/bundle/TopicName$Domain"), (.array (.object "com/example/veer32/veer32/bundle/TopicName$Domain"))]
  resolved := Array.replicate 96 none
  statics := some 2 }

def pool11 : Array CpInfo := pool [(1, .methodref 2 3), (0, .class_ 4), (0, .nameAndType 5 6), (0, u "java/lang/Object"), (0, u "<init>"), (0, u "()V"), (0, .class_ 8), (0, u "java/lang/Record")] 13

def k11c0 : Code := { maxStack := 1, maxLocals := 1, code := jdk_30_method_1_code, exceptionTable := #[], attributes := #[] }
def k11m0 : Method := { name := "<init>", desc := "()V", sig := { parameters := [], returnType := none }, accessFlags := 4, code := some k11c0 }
/-- java/lang/Record -/
def k11 : Class := { plain "java/lang/Record" (some 0) with
  accessFlags := 1057
  interfaces := #[]
  cf := some (fileOf pool11 7 #[] #[{ accessFlags := 4, nameIndex := 5, descriptorIndex := 6, attributes := #[] }] 1057 2 #[] #[])
  fields := #[]
  methods := #[k11m0]
  instanceTypes := #[]
  staticTypes := #[]
  resolved := Array.replicate 22 none
  statics := none }

def pool12 : Array CpInfo := pool [(1, .methodref 2 3), (0, .class_ 4), (0, .nameAndType 5 6), (0, u "java/lang/Record"), (0, u "<init>"), (0, u "()V"), (0, .string 8), (0, u "domain"), (0, .methodref 10 11), (0, .class_ 12), (0, .nameAndType 13 14), (0, u "java/util/Objects"), (0, u "requireNonNull"), (0, u "(Ljava/lang/Object;Ljava/lang/String;)Ljava/lang/Object;"), (0, .string 16), (0, u "tenant"), (0, .methodref 18 19), (0, .class_ 20), (0, .nameAndType 21 22), (0, u "com/example/veer32/veer32/bundle/NamespaceName"), (0, u "checkPart"), (0, u "(Ljava/lang/String;Ljava/lang/String;)V"), (0, .string 24), (0, u "namespace"), (0, .string 26), (0, u "topic"), (0, .fieldref 28 29), (0, .class_ 30), (0, .nameAndType 8 31), (0, u "com/example/veer32/veer32/bundle/TopicName"), (0, u "Lcom/example/veer32/veer32/bundle/TopicName$Domain;"), (0, .fieldref 28 33), (0, .nameAndType 16 34), (0, u "Ljava/lang/String;"), (0, .fieldref 28 36), (0, .nameAndType 24 34), (0, .fieldref 28 38), (0, .nameAndType 39 34), (0, u "localName"), (31, .class_ 73), (1, u "com/example/veer32/veer32/bundle/TopicName$Domain"), (4, u "(Lcom/example/veer32/veer32/bundle/TopicName$Domain;Ljava/lang/String;Ljava/lang/String;Ljava/lang/String;)V"), (7, .methodref 18 87), (0, .nameAndType 5 22), (8, u "FORM"), (12, u "namespaceName"), (0, u "()Lcom/example/veer32/veer32/bundle/NamespaceName;")] 38

def k12c0 : Code := { maxStack := 2, maxLocals := 5, code := prog_5_method_1_code, exceptionTable := #[], attributes := #[] }
def k12m0 : Method := { name := "<init>", desc := "(Lcom/example/veer32/veer32/bundle/TopicName$Domain;Ljava/lang/String;Ljava/lang/String;Ljava/lang/String;)V", sig := { parameters := [(.object "com/example/veer32/veer32/bundle/TopicName$Domain"), (.object "java/lang/String"), (.object "java/lang/String"), (.object "java/lang/String")], returnType := none }, accessFlags := 1, code := some k12c0 }
def k12c1 : Code := { maxStack := 4, maxLocals := 1, code := prog_5_method_4_code, exceptionTable := #[], attributes := #[] }
def k12m1 : Method := { name := "namespaceName", desc := "()Lcom/example/veer32/veer32/bundle/NamespaceName;", sig := { parameters := [], returnType := some (.object "com/example/veer32/veer32/bundle/NamespaceName") }, accessFlags := 1, code := some k12c1 }
/-- com/example/veer32/veer32/bundle/TopicName -/
def k12 : Class := { plain "com/example/veer32/veer32/bundle/TopicName" (some 11) with
  accessFlags := 49
  interfaces := #[]
  cf := some (fileOf pool12 28 #[.nestMembers #[71]] #[{ accessFlags := 1, nameIndex := 5, descriptorIndex := 78, attributes := #[] }, { accessFlags := 1, nameIndex := 109, descriptorIndex := 110, attributes := #[] }] 49 2 #[] #[{ accessFlags := 18, nameIndex := 8, descriptorIndex := 31, attributes := #[] }, { accessFlags := 18, nameIndex := 16, descriptorIndex := 34, attributes := #[] }, { accessFlags := 18, nameIndex := 24, descriptorIndex := 34, attributes := #[] }, { accessFlags := 18, nameIndex := 39, descriptorIndex := 34, attributes := #[] }, { accessFlags := 26, nameIndex := 96, descriptorIndex := 34, attributes := #[] }])
  fields := #[{ name := "domain", type := (.object "com/example/veer32/veer32/bundle/TopicName$Domain"), accessFlags := 18, slot := 0, constantValue := 0 }, { name := "tenant", type := (.object "java/lang/String"), accessFlags := 18, slot := 1, constantValue := 0 }, { name := "namespace", type := (.object "java/lang/String"), accessFlags := 18, slot := 2, constantValue := 0 }, { name := "localName", type := (.object "java/lang/String"), accessFlags := 18, slot := 3, constantValue := 0 }, { name := "FORM", type := (.object "java/lang/String"), accessFlags := 26, slot := 0, constantValue := 0 }]
  methods := #[k12m0, k12m1]
  instanceTypes := #[(.object "com/example/veer32/veer32/bundle/TopicName$Domain"), (.object "java/lang/String"), (.object "java/lang/String"), (.object "java/lang/String")]
  staticTypes := #[(.object "java/lang/String")]
  resolved := Array.replicate 149 none
  statics := none }

def pool13 : Array CpInfo := pool [(2, .class_ 4), (1, u "java/lang/Object"), (0, u "<init>"), (0, u "()V"), (35, .class_ 44), (1, u "java/util/Objects"), (0, u "requireNonNull"), (48, u "(Ljava/lang/Object;Ljava/lang/String;)Ljava/lang/Object;")] 89

def k13m0 : Method := { name := "<init>", desc := "()V", sig := { parameters := [], returnType := none }, accessFlags := 2, code := none }
def k13c1 : Code := { maxStack := 3, maxLocals := 2, code := jdk_31_method_11_code, exceptionTable := #[], attributes := #[] }
def k13m1 : Method := { name := "requireNonNull", desc := "(Ljava/lang/Object;Ljava/lang/String;)Ljava/lang/Object;", sig := { parameters := [(.object "java/lang/Object"), (.object "java/lang/String")], returnType := some (.object "java/lang/Object") }, accessFlags := 9, code := some k13c1 }
/-- java/util/Objects -/
def k13 : Class := { plain "java/util/Objects" (some 0) with
  accessFlags := 49
  interfaces := #[]
  cf := some (fileOf pool13 42 #[] #[{ accessFlags := 2, nameIndex := 5, descriptorIndex := 6, attributes := #[] }, { accessFlags := 9, nameIndex := 45, descriptorIndex := 94, attributes := #[] }] 49 2 #[] #[])
  fields := #[]
  methods := #[k13m0, k13m1]
  instanceTypes := #[]
  staticTypes := #[]
  resolved := Array.replicate 184 none
  statics := none }

def pool14 : Array CpInfo := pool [(1, .methodref 2 3), (0, .class_ 4), (0, .nameAndType 5 6), (0, u "java/lang/Record"), (0, u "<init>"), (0, u "()V"), (0, .string 8), (0, u "tenant"), (0, .methodref 10 11), (0, .class_ 12), (0, .nameAndType 13 14), (0, u "com/example/veer32/veer32/bundle/NamespaceName"), (0, u "checkPart"), (0, u "(Ljava/lang/String;Ljava/lang/String;)V"), (0, .string 16), (0, u "namespace"), (0, .fieldref 10 18), (0, .nameAndType 8 19), (0, u "Ljava/lang/String;"), (0, .fieldref 10 21), (0, .nameAndType 22 19), (0, u "localName"), (4, .methodref 28 29), (0, .class_ 30), (0, .nameAndType 31 32), (0, u "java/util/Objects"), (0, u "requireNonNull"), (0, u "(Ljava/lang/Object;Ljava/lang/String;)Ljava/lang/Object;"), (0, .methodref 34 35), (0, .class_ 36), (0, .nameAndType 37 38), (0, u "java/lang/String"), (0, u "isEmpty"), (0, u "()Z"), (8, .methodref 34 48), (0, .nameAndType 49 50), (0, u "indexOf"), (0, u "(I)I"), (13, u "()Ljava/lang/String;")] 36

def k14c0 : Code := { maxStack := 2, maxLocals := 3, code := prog_3_method_1_code, exceptionTable := #[], attributes := #[] }
def k14m0 : Method := { name := "<init>", desc := "(Ljava/lang/String;Ljava/lang/String;)V", sig := { parameters := [(.object "java/lang/String"), (.object "java/lang/String")], returnType := none }, accessFlags := 1, code := some k14c0 }
def k14c1 : Code := { maxStack := 4, maxLocals := 2, code := prog_3_method_3_code, exceptionTable := #[], attributes := #[] }
def k14m1 : Method := { name := "checkPart", desc := "(Ljava/lang/String;Ljava/lang/String;)V", sig := { parameters := [(.object "java/lang/String"), (.object "java/lang/String")], returnType := none }, accessFlags := 8, code := some k14c1 }
def k14c2 : Code := { maxStack := 1, maxLocals := 1, code := prog_3_method_6_code, exceptionTable := #[], attributes := #[] }
def k14m2 : Method := { name := "tenant", desc := "()Ljava/lang/String;", sig := { parameters := [], returnType := some (.object "java/lang/String") }, accessFlags := 1, code := some k14c2 }
def k14c3 : Code := { maxStack := 1, maxLocals := 1, code := prog_3_method_7_code, exceptionTable := #[], attributes := #[] }
def k14m3 : Method := { name := "localName", desc := "()Ljava/lang/String;", sig := { parameters := [], returnType := some (.object "java/lang/String") }, accessFlags := 1, code := some k14c3 }
/-- com/example/veer32/veer32/bundle/NamespaceName -/
def k14 : Class := { plain "com/example/veer32/veer32/bundle/NamespaceName" (some 11) with
  accessFlags := 49
  interfaces := #[]
  cf := some (fileOf pool14 10 #[] #[{ accessFlags := 1, nameIndex := 5, descriptorIndex := 14, attributes := #[] }, { accessFlags := 8, nameIndex := 13, descriptorIndex := 14, attributes := #[] }, { accessFlags := 1, nameIndex := 8, descriptorIndex := 64, attributes := #[] }, { accessFlags := 1, nameIndex := 22, descriptorIndex := 64, attributes := #[] }] 49 2 #[] #[{ accessFlags := 18, nameIndex := 8, descriptorIndex := 19, attributes := #[] }, { accessFlags := 18, nameIndex := 22, descriptorIndex := 19, attributes := #[] }])
  fields := #[{ name := "tenant", type := (.object "java/lang/String"), accessFlags := 18, slot := 0, constantValue := 0 }, { name := "localName", type := (.object "java/lang/String"), accessFlags := 18, slot := 1, constantValue := 0 }]
  methods := #[k14m0, k14m1, k14m2, k14m3]
  instanceTypes := #[(.object "java/lang/String"), (.object "java/lang/String")]
  staticTypes := #[]
  resolved := Array.replicate 101 none
  statics := none }

def pool15 : Array CpInfo := pool [(4, .class_ 6), (1, u "java/lang/Object"), (0, u "<init>"), (0, u "()V"), (5, .class_ 16), (1, u "java/lang/StringLatin1"), (21, .methodref 39 40), (0, .class_ 41), (0, .nameAndType 42 43), (0, u "java/lang/Math"), (0, u "min"), (0, u "(II)I"), (44, .methodref 14 89), (0, .nameAndType 90 91), (0, u "canEncode"), (0, u "(I)Z"), (0, .methodref 39 93), (0, .nameAndType 94 43), (0, u "max"), (0, .methodref 14 96), (0, .nameAndType 97 98), (0, u "indexOfChar"), (0, u "([BIII)I"), (2, u "indexOf"), (19, u "$assertionsDisabled"), (0, u "Z"), (98, .class_ 223), (1, u "java/lang/StringLatin1$LinesSpliterator"), (166, .class_ 391), (0, u "java/lang/StringLatin1$CharsSpliterator")] 3

def k15m0 : Method := { name := "<init>", desc := "()V", sig := { parameters := [], returnType := none }, accessFlags := 0, code := none }
def k15c1 : Code := { maxStack := 2, maxLocals := 1, code := jdk_43_method_4_code, exceptionTable := #[], attributes := #[] }
def k15m1 : Method := { name := "canEncode", desc := "(I)Z", sig := { parameters := [.int], returnType := some .boolean }, accessFlags := 9, code := some k15c1 }
def k15c2 : Code := { maxStack := 4, maxLocals := 4, code := jdk_43_method_22_code, exceptionTable := #[], attributes := #[] }
def k15m2 : Method := { name := "indexOf", desc := "([BIII)I", sig := { parameters := [(.array .byte), .int, .int, .int], returnType := some .int }, accessFlags := 9, code := some k15c2 }
def k15c3 : Code := { maxStack := 2, maxLocals := 6, code := jdk_43_method_23_code, exceptionTable := #[], attributes := #[] }
def k15m3 : Method := { name := "indexOfChar", desc := "([BIII)I", sig := { parameters := [(.array .byte), .int, .int, .int], returnType := some .int }, accessFlags := 10, code := some k15c3 }
/-- java/lang/StringLatin1 -/
def k15 : Class := { plain "java/lang/StringLatin1" (some 0) with
  accessFlags := 48
  interfaces := #[]
  cf := some (fileOf pool15 14 #[.nestMembers #[390, 221]] #[{ accessFlags := 0, nameIndex := 7, descriptorIndex := 8, attributes := #[] }, { accessFlags := 9, nameIndex := 90, descriptorIndex := 91, attributes := #[] }, { accessFlags := 9, nameIndex := 101, descriptorIndex := 98, attributes := #[] }, { accessFlags := 10, nameIndex := 97, descriptorIndex := 98, attributes := #[] }] 48 4 #[] #[{ accessFlags := 4120, nameIndex := 121, descriptorIndex := 122, attributes := #[] }])
  fields := #[{ name := "$assertionsDisabled", type := .boolean, accessFlags := 4120, slot := 0, constantValue := 0 }]
  methods := #[k15m0, k15m1, k15m2, k15m3]
  instanceTypes := #[]
  staticTypes := #[.boolean]
  resolved := Array.replicate 395 none
  statics := none }

def pool16 : Array CpInfo := pool [(1, .class_ 2), (0, u "java/lang/Math"), (1, .class_ 6), (1, u "java/lang/Object"), (0, u "<init>"), (0, u "()V"), (89, .class_ 100), (1, u "java/lang/Math$RandomNumberGeneratorHolder"), (71, u "negativeZeroFloatBits"), (0, u "J"), (2, u "negativeZeroDoubleBits"), (21, u "max"), (2, u "min"), (43, u "$assertionsDisabled"), (0, u "Z"), (88, u "(II)I"), (2, u "twoToTheDoubleScaleDown"), (0, u "D"), (4, u "twoToTheDoubleScaleUp"), (9, u "E"), (3, u "PI"), (2, u "TAU"), (2, u "DEGREES_TO_RADIANS"), (0, u "RADIANS_TO_DEGREES")] 94

def k16m0 : Method := { name := "<init>", desc := "()V", sig := { parameters := [], returnType := none }, accessFlags := 2, code := none }
def k16c1 : Code := { maxStack := 2, maxLocals := 2, code := jdk_29_method_65_code, exceptionTable := #[], attributes := #[] }
def k16m1 : Method := { name := "max", desc := "(II)I", sig := { parameters := [.int, .int], returnType := some .int }, accessFlags := 9, code := some k16c1 }
def k16c2 : Code := { maxStack := 2, maxLocals := 2, code := jdk_29_method_69_code, exceptionTable := #[], attributes := #[] }
def k16m2 : Method := { name := "min", desc := "(II)I", sig := { parameters := [.int, .int], returnType := some .int }, accessFlags := 9, code := some k16c2 }
/-- java/lang/Math -/
def k16 : Class := { plain "java/lang/Math" (some 0) with
  accessFlags := 49
  interfaces := #[]
  cf := some (fileOf pool16 1 #[.nestMembers #[98]] #[{ accessFlags := 2, nameIndex := 7, descriptorIndex := 8, attributes := #[] }, { accessFlags := 9, nameIndex := 198, descriptorIndex := 335, attributes := #[] }, { accessFlags := 9, nameIndex := 201, descriptorIndex := 335, attributes := #[] }] 49 4 #[] #[{ accessFlags := 25, nameIndex := 354, descriptorIndex := 339, attributes := #[] }, { accessFlags := 25, nameIndex := 358, descriptorIndex := 339, attributes := #[] }, { accessFlags := 25, nameIndex := 361, descriptorIndex := 339, attributes := #[] }, { accessFlags := 26, nameIndex := 364, descriptorIndex := 339, attributes := #[] }, { accessFlags := 26, nameIndex := 365, descriptorIndex := 339, attributes := #[] }, { accessFlags := 26, nameIndex := 172, descriptorIndex := 173, attributes := #[] }, { accessFlags := 26, nameIndex := 176, descriptorIndex := 173, attributes := #[] }, { accessFlags := 8, nameIndex := 344, descriptorIndex := 339, attributes := #[] }, { accessFlags := 8, nameIndex := 338, descriptorIndex := 339, attributes := #[] }, { accessFlags := 4120, nameIndex := 245, descriptorIndex := 246, attributes := #[] }])
  fields := #[{ name := "E", type := .double, accessFlags := 25, slot := 0, constantValue := 0 }, { name := "PI", type := .double, accessFlags := 25, slot := 1, constantValue := 0 }, { name := "TAU", type := .double, accessFlags := 25, slot := 2, constantValue := 0 }, { name := "DEGREES_TO_RADIANS", type := .double, accessFlags := 26, slot := 3, constantValue := 0 }, { name := "RADIANS_TO_DEGREES", type := .double, accessFlags := 26, slot := 4, constantValue := 0 }, { name := "negativeZeroFloatBits", type := .long, accessFlags := 26, slot := 5, constantValue := 0 }, { name := "negativeZeroDoubleBits", type := .long, accessFlags := 26, slot := 6, constantValue := 0 }, { name := "twoToTheDoubleScaleUp", type := .double, accessFlags := 8, slot := 7, constantValue := 0 }, { name := "twoToTheDoubleScaleDown", type := .double, accessFlags := 8, slot := 8, constantValue := 0 }, { name := "$assertionsDisabled", type := .boolean, accessFlags := 4120, slot := 9, constantValue := 0 }]
  methods := #[k16m0, k16m1, k16m2]
  instanceTypes := #[]
  staticTypes := #[.double, .double, .double, .double, .double, .long, .long, .double, .double, .boolean]
  resolved := Array.replicate 460 none
  statics := none }

def pool17 : Array CpInfo := pool [(2, .class_ 4), (1, u "java/lang/Object"), (0, u "<init>"), (0, u "()V"), (17, .class_ 26), (1, u "jdk/internal/util/Preconditions"), (20, u "checkFromToIndex"), (7, .class_ 56), (0, u "jdk/internal/util/Preconditions$4"), (57, .class_ 115), (0, u "jdk/internal/util/Preconditions$1"), (7, u "SIOOBE_FORMATTER"), (0, u "Ljava/util/function/BiFunction;"), (0, .class_ 126), (0, u "jdk/internal/util/Preconditions$2"), (3, u "AIOOBE_FORMATTER"), (0, .class_ 132), (0, u "jdk/internal/util/Preconditions$3"), (3, u "IOOBE_FORMATTER"), (46, u "(IIILjava/util/function/BiFunction;)I")] 10

def k17m0 : Method := { name := "<init>", desc := "()V", sig := { parameters := [], returnType := none }, accessFlags := 1, code := none }
def k17c1 : Code := { maxStack := 4, maxLocals := 4, code := jdk_41_method_12_code, exceptionTable := #[], attributes := #[] }
def k17m1 : Method := { name := "checkFromToIndex", desc := "(IIILjava/util/function/BiFunction;)I", sig := { parameters := [.int, .int, .int, (.object "java/util/function/BiFunction")], returnType := some .int }, accessFlags := 9, code := some k17c1 }
/-- jdk/internal/util/Preconditions -/
def k17 : Class := { plain "jdk/internal/util/Preconditions" (some 0) with
  accessFlags := 33
  interfaces := #[]
  cf := some (fileOf pool17 24 #[.nestMembers #[55, 131, 125, 114]] #[{ accessFlags := 1, nameIndex := 5, descriptorIndex := 6, attributes := #[] }, { accessFlags := 9, nameIndex := 47, descriptorIndex := 183, attributes := #[] }] 33 2 #[] #[{ accessFlags := 25, nameIndex := 123, descriptorIndex := 124, attributes := #[] }, { accessFlags := 25, nameIndex := 130, descriptorIndex := 124, attributes := #[] }, { accessFlags := 25, nameIndex := 136, descriptorIndex := 124, attributes := #[] }])
  fields := #[{ name := "SIOOBE_FORMATTER", type := (.object "java/util/function/BiFunction"), accessFlags := 25, slot := 0, constantValue := 0 }, { name := "AIOOBE_FORMATTER", type := (.object "java/util/function/BiFunction"), accessFlags := 25, slot := 1, constantValue := 0 }, { name := "IOOBE_FORMATTER", type := (.object "java/util/function/BiFunction"), accessFlags := 25, slot := 2, constantValue := 0 }]
  methods := #[k17m0, k17m1]
  instanceTypes := #[]
  staticTypes := #[(.object "java/util/function/BiFunction"), (.object "java/util/function/BiFunction"), (.object "java/util/function/BiFunction")]
  resolved := Array.replicate 194 none
  statics := some 3 }

def pool18 : Array CpInfo := pool [(9, u "<init>"), (6, .class_ 18), (1, u "java/lang/Object"), (0, u "()V"), (1, .class_ 23), (1, u "jdk/internal/util/ArraysSupport"), (0, u "LOG2_ARRAY_LONG_INDEX_SCALE"), (0, u "I"), (2, u "U"), (0, u "Ljdk/internal/misc/Unsafe;"), (8, u "BIG_ENDIAN"), (0, u "Z"), (8, u "LOG2_BYTE_BIT_SIZE"), (4, u "LOG2_ARRAY_INT_INDEX_SCALE"), (54, u "JLA"), (0, u "Ljdk/internal/access/JavaLangAccess;"), (11, u "LOG2_ARRAY_BOOLEAN_INDEX_SCALE"), (9, u "LOG2_ARRAY_BYTE_INDEX_SCALE"), (5, u "LOG2_ARRAY_CHAR_INDEX_SCALE"), (5, u "LOG2_ARRAY_SHORT_INDEX_SCALE"), (18, u "LOG2_ARRAY_FLOAT_INDEX_SCALE"), (24, u "LOG2_ARRAY_DOUBLE_INDEX_SCALE"), (89, u "T_BOOLEAN"), (2, u "T_CHAR"), (1, u "T_FLOAT"), (1, u "T_DOUBLE"), (1, u "T_BYTE"), (1, u "T_SHORT"), (1, u "T_INT"), (1, u "T_LONG"), (1, u "SOFT_MAX_ARRAY_LENGTH")] 83

def k18m0 : Method := { name := "<init>", desc := "()V", sig := { parameters := [], returnType := none }, accessFlags := 2, code := none }
/-- jdk/internal/util/ArraysSupport -/
def k18 : Class := { plain "jdk/internal/util/ArraysSupport" (some 0) with
  accessFlags := 33
  interfaces := #[]
  cf := some (fileOf pool18 21 #[] #[{ accessFlags := 2, nameIndex := 9, descriptorIndex := 19, attributes := #[] }] 33 16 #[] #[{ accessFlags := 24, nameIndex := 28, descriptorIndex := 29, attributes := #[] }, { accessFlags := 26, nameIndex := 38, descriptorIndex := 39, attributes := #[] }, { accessFlags := 25, nameIndex := 121, descriptorIndex := 25, attributes := #[] }, { accessFlags := 25, nameIndex := 131, descriptorIndex := 25, attributes := #[] }, { accessFlags := 25, nameIndex := 137, descriptorIndex := 25, attributes := #[] }, { accessFlags := 25, nameIndex := 143, descriptorIndex := 25, attributes := #[] }, { accessFlags := 25, nameIndex := 53, descriptorIndex := 25, attributes := #[] }, { accessFlags := 25, nameIndex := 24, descriptorIndex := 25, attributes := #[] }, { accessFlags := 25, nameIndex := 162, descriptorIndex := 25, attributes := #[] }, { accessFlags := 25, nameIndex := 187, descriptorIndex := 25, attributes := #[] }, { accessFlags := 26, nameIndex := 48, descriptorIndex := 25, attributes := #[] }, { accessFlags := 25, nameIndex := 277, descriptorIndex := 25, attributes := #[] }, { accessFlags := 25, nameIndex := 280, descriptorIndex := 25, attributes := #[] }, { accessFlags := 25, nameIndex := 282, descriptorIndex := 25, attributes := #[] }, { accessFlags := 25, nameIndex := 284, descriptorIndex := 25, attributes := #[] }, { accessFlags := 25, nameIndex := 286, descriptorIndex := 25, attributes := #[] }, { accessFlags := 25, nameIndex := 288, descriptorIndex := 25, attributes := #[] }, { accessFlags := 25, nameIndex := 290, descriptorIndex := 25, attributes := #[] }, { accessFlags := 25, nameIndex := 292, descriptorIndex := 25, attributes := #[] }, { accessFlags := 26, nameIndex := 108, descriptorIndex := 109, attributes := #[] }, { accessFlags := 25, nameIndex := 294, descriptorIndex := 25, attributes := #[] }])
  fields := #[{ name := "U", type := (.object "jdk/internal/misc/Unsafe"), accessFlags := 24, slot := 0, constantValue := 0 }, { name := "BIG_ENDIAN", type := .boolean, accessFlags := 26, slot := 1, constantValue := 0 }, { name := "LOG2_ARRAY_BOOLEAN_INDEX_SCALE", type := .int, accessFlags := 25, slot := 2, constantValue := 0 }, { name := "LOG2_ARRAY_BYTE_INDEX_SCALE", type := .int, accessFlags := 25, slot := 3, constantValue := 0 }, { name := "LOG2_ARRAY_CHAR_INDEX_SCALE", type := .int, accessFlags := 25, slot := 4, constantValue := 0 }, { name := "LOG2_ARRAY_SHORT_INDEX_SCALE", type := .int, accessFlags := 25, slot := 5, constantValue := 0 }, { name := "LOG2_ARRAY_INT_INDEX_SCALE", type := .int, accessFlags := 25, slot := 6, constantValue := 0 }, { name := "LOG2_ARRAY_LONG_INDEX_SCALE", type := .int, accessFlags := 25, slot := 7, constantValue := 0 }, { name := "LOG2_ARRAY_FLOAT_INDEX_SCALE", type := .int, accessFlags := 25, slot := 8, constantValue := 0 }, { name := "LOG2_ARRAY_DOUBLE_INDEX_SCALE", type := .int, accessFlags := 25, slot := 9, constantValue := 0 }, { name := "LOG2_BYTE_BIT_SIZE", type := .int, accessFlags := 26, slot := 10, constantValue := 0 }, { name := "T_BOOLEAN", type := .int, accessFlags := 25, slot := 11, constantValue := 0 }, { name := "T_CHAR", type := .int, accessFlags := 25, slot := 12, constantValue := 0 }, { name := "T_FLOAT", type := .int, accessFlags := 25, slot := 13, constantValue := 0 }, { name := "T_DOUBLE", type := .int, accessFlags := 25, slot := 14, constantValue := 0 }, { name := "T_BYTE", type := .int, accessFlags := 25, slot := 15, constantValue := 0 }, { name := "T_SHORT", type := .int, accessFlags := 25, slot := 16, constantValue := 0 }, { name := "T_INT", type := .int, accessFlags := 25, slot := 17, constantValue := 0 }, { name := "T_LONG", type := .int, accessFlags := 25, slot := 18, constantValue := 0 }, { name := "JLA", type := (.object "jdk/internal/access/JavaLangAccess"), accessFlags := 26, slot := 19, constantValue := 0 }, { name := "SOFT_MAX_ARRAY_LENGTH", type := .int, accessFlags := 25, slot := 20, constantValue := 0 }]
  methods := #[k18m0]
  instanceTypes := #[]
  staticTypes := #[(.object "jdk/internal/misc/Unsafe"), .boolean, .int, .int, .int, .int, .int, .int, .int, .int, .int, .int, .int, .int, .int, .int, .int, .int, .int, (.object "jdk/internal/access/JavaLangAccess"), .int]
  resolved := Array.replicate 378 none
  statics := none }

def pool19 : Array CpInfo := pool [(1, u "java/lang/Cloneable"), (0, .class_ 1), (0, u "java/lang/Object"), (0, .class_ 3)] 3

/-- java/lang/Cloneable -/
def k19 : Class := { plain "java/lang/Cloneable" (some 0) with
  accessFlags := 1537
  interfaces := #[]
  cf := some (fileOf pool19 2 #[] #[] 1537 4 #[] #[])
  fields := #[]
  methods := #[]
  instanceTypes := #[]
  staticTypes := #[]
  resolved := Array.replicate 8 none
  statics := none }

/-- the primitive byte -/
def k20 : Class := { plain "byte" none with kind := .primitive 'B', accessFlags := 0x411 }
/-- [B -/
def k21 : Class := { plain "[B" (some 0) with kind := .array 20 .byte, interfaces := #[19, 2], accessFlags := 1041 }

/-- the primitive char -/
def k22 : Class := { plain "char" none with kind := .primitive 'C', accessFlags := 0x411 }
/-- [C -/
def k23 : Class := { plain "[C" (some 0) with kind := .array 22 .char, interfaces := #[19, 2], accessFlags := 1041 }

/-- the primitive int -/
def k24 : Class := { plain "int" none with kind := .primitive 'I', accessFlags := 0x411 }
/-- [I -/
def k25 : Class := { plain "[I" (some 0) with kind := .array 24 .int, interfaces := #[19, 2], accessFlags := 1041 }

def heap : Heap := #[{ cls := 7, slots := #[.long 0, .int 1, .null, .int 0, .null, .int 0, .int 0], vm := .statics 7 },
  { cls := 8, slots := #[.int 0, .int 8, .int 0, .int 1], vm := .statics 8 },
  { cls := 10, slots := #[.ref 4, .ref 7, .null], vm := .statics 10 },
  { cls := 17, slots := #[.null, .null, .null], vm := .statics 17 },
  { cls := 10, slots := #[.null, .int 0, .int 0, .ref 5], vm := .none },
  { cls := 7, slots := #[.ref 6, .int 0, .int 0, .int 0], vm := .none },
  { cls := 21, slots := #[.int 112, .int 101, .int 114, .int 115, .int 105, .int 115, .int 116, .int 101, .int 110, .int 116], vm := .none },
  { cls := 10, slots := #[.null, .int 1, .int 0, .ref 8], vm := .none },
  { cls := 7, slots := #[.ref 9, .int 0, .int 0, .int 0], vm := .none },
  { cls := 21, slots := #[.int 110, .int 111, .int 110, .int 45, .int 112, .int 101, .int 114, .int 115, .int 105, .int 115, .int 116, .int 101, .int 110, .int 116], vm := .none }]
def classes : Array Class := #[k0, k1, k2, k3, k4, k5, k6, k7, k8, k9, k10, k11, k12, k13, k14, k15, k16, k17, k18, k19, k20, k21, k22, k23, k24, k25]
def interned : List (Array UInt16 × Addr) := []
def slotsUsed : Nat := 57
def theMethod : MethodId := ⟨1, 3⟩
def args0 : Array Value := #[.int 5, .int 5, .int 5, .int 5]
def aboutOver (below : List Frame) : State where
  vm := { classes := classes, interned := interned.toArray }
  heap := heap
  slotsUsed := slotsUsed
  threads := #[{ frames := .invoking theMethod args0 :: below }]
def below0 : List Frame := [.native { method := ⟨0, 0⟩, args := #[] }]
def about1 : State := aboutOver below0
def p0 : Program := .bare "" "" ""
def e0 : Env := launch0.env 0 0 0
theorem w_frames : about1.frames = Frame.invoking theMethod args0 :: below0 := rfl
set_option maxRecDepth 65536 in
theorem w_args : argsFit about1.vm theMethod args0 = true := by decide +kernel
set_option maxRecDepth 65536 in
theorem w_heap : heapFits about1 = true := by decide +kernel
set_option maxRecDepth 65536 in
theorem w_runnable : about1.curStatus? = some .runnable := by decide +kernel
set_option maxRecDepth 65536 in
theorem w_alone : about1.alone = true := by decide +kernel
set_option maxRecDepth 65536 in
theorem w_named : about1.methodNamed? x = some theMethod := by decide +kernel
set_option maxRecDepth 65536 in
theorem w_hears : about1.hears theMethod below0 = true := by decide +kernel
set_option maxRecDepth 65536 in
theorem w_ripe : about1.ripe theMethod args0 below0 = true := by decide +kernel
theorem w_running : about1.status = .running := rfl
set_option maxRecDepth 65536 in
theorem w_room : about1.hasRoom e0.platform room_1 = true :=
  launch0.hasRoom_least _ room_1 (by decide +kernel) (by decide +kernel) (by decide +kernel) (by decide +kernel) (by decide +kernel) (by decide +kernel)
theorem allAtoms_all (ts : List Jvm.Cond) (a : Array Jvm.Value) (st : Jvm.State) : (allAtoms ts).before a st = ts.all (fun c => c.before a st) := by
  induction ts with
  | nil => rfl
  | cons c t ih =>
    show (Jvm.Cond.and c (allAtoms t)).before a st = _
    rw [Jvm.Cond.before_and, ih, List.all_cons]
def words1 : List Jvm.Cond := Jvm.Cond.code x code maxLocals ret :: tables_1
/-- a 'code' word, met by the world's own term for the bytes: nothing is compared byte by byte -/
theorem code_word {y : MethodName} {bytes : ByteArray} {mx : Nat} {rt : Option FieldType} {a : Array Value} {s : State} {m : MethodId} {meth : Method} {c : Code} (h1 : s.methodNamed? y = some m) (h2 : s.vm.method? m = some meth) (h3 : meth.code = some c) (h4 : c.code = bytes)
    (h5 : (c.maxLocals == mx && c.exceptionTable.isEmpty && decide (c.maxStack ≤ mostOperands) && decide (meth.sig.returnType = rt) && !meth.locks && decide (parseMethodDescriptor y.desc = some meth.sig)) = true) : (Jvm.Cond.code y bytes mx rt).before a s = true := by
  simp only [Bool.and_eq_true, beq_iff_eq, Bool.not_eq_true', decide_eq_true_eq] at h5
  obtain ⟨⟨⟨⟨⟨g1, g2⟩, g3⟩, g4⟩, g5⟩, g6⟩ := h5
  simp [Cond.before, Cond.holds, Cond.value, h1, h2, h3, h4, g1, g2, g3, g4, g5, g6]
def isCode : Jvm.Cond → Bool
  | .code _ _ _ _ => true
  | _ => false
theorem all_split {L : List Jvm.Cond} {P : Jvm.Cond → Bool} (h1 : L.all (fun c => isCode c || P c) = true) (h2 : ∀ c ∈ L.filter isCode, P c = true) : L.all P = true := by
  refine List.all_eq_true.mpr fun c hc => ?_
  have h := List.all_eq_true.mp h1 c hc
  rcases Bool.eq_false_or_eq_true (isCode c) with hi | hi
  · exact h2 c (List.mem_filter.mpr ⟨hc, hi⟩)
  · simpa [hi] using h
set_option maxRecDepth 65536 in
theorem w_c0 : (Jvm.Cond.code x code maxLocals ret).before args0 about1 = true := code_word (m := ⟨1, 3⟩) (meth := k1m3) (c := k1c3) (by decide +kernel) rfl rfl rfl (by decide +kernel)
set_option maxRecDepth 65536 in
theorem w_c1 : (Jvm.Cond.code ({ cls := "com/example/veer32/veer32/bundle/TopicNameNamespaceNamePinLaw", name := "part", desc := "(I)Ljava/lang/String;" } : Jvm.MethodName) method_3_code (4 : Nat) (Option.some (Jvm.ClassFile.FieldType.object "java/lang/String"))).before args0 about1 = true := code_word (m := ⟨1, 2⟩) (meth := k1m2) (c := k1c2) (by decide +kernel) rfl rfl rfl (by decide +kernel)
set_option maxRecDepth 65536 in
theorem w_c2 : (Jvm.Cond.code ({ cls := "com/example/veer32/veer32/bundle/TopicNameNamespaceNamePinLaw", name := "ch", desc := "(I)C" } : Jvm.MethodName) method_2_code (2 : Nat) (Option.some Jvm.ClassFile.FieldType.char)).before args0 about1 = true := code_word (m := ⟨1, 1⟩) (meth := k1m1) (c := k1c1) (by decide +kernel) rfl rfl rfl (by decide +kernel)
set_option maxRecDepth 65536 in
theorem w_c3 : (Jvm.Cond.code ({ cls := "java/lang/String", name := "<init>", desc := "([C)V" } : Jvm.MethodName) jdk_42_method_3_code (2 : Nat) (Option.none : Option Jvm.ClassFile.FieldType)).before args0 about1 = true := code_word (m := ⟨7, 1⟩) (meth := k7m1) (c := k7c1) (by decide +kernel) rfl rfl rfl (by decide +kernel)
set_option maxRecDepth 65536 in
theorem w_c4 : (Jvm.Cond.code ({ cls := "java/lang/String", name := "<init>", desc := "([CIILjava/lang/Void;)V" } : Jvm.MethodName) jdk_42_method_149_code (6 : Nat) (Option.none : Option Jvm.ClassFile.FieldType)).before args0 about1 = true := code_word (m := ⟨7, 7⟩) (meth := k7m7) (c := k7c7) (by decide +kernel) rfl rfl rfl (by decide +kernel)
set_option maxRecDepth 65536 in
theorem w_c5 : (Jvm.Cond.code ({ cls := "java/lang/Object", name := "<init>", desc := "()V" } : Jvm.MethodName) object_method_1_code (1 : Nat) (Option.none : Option Jvm.ClassFile.FieldType)).before args0 about1 = true := code_word (m := ⟨0, 0⟩) (meth := k0m0) (c := k0c0) (by decide +kernel) rfl rfl rfl (by decide +kernel)
set_option maxRecDepth 65536 in
theorem w_c6 : (Jvm.Cond.code ({ cls := "java/lang/StringUTF16", name := "compress", desc := "([CII)[B" } : Jvm.MethodName) jdk_52_method_16_code (6 : Nat) (Option.some (Jvm.ClassFile.FieldType.array Jvm.ClassFile.FieldType.byte))).before args0 about1 = true := code_word (m := ⟨8, 8⟩) (meth := k8m8) (c := k8c8) (by decide +kernel) rfl rfl rfl (by decide +kernel)
set_option maxRecDepth 65536 in
theorem w_c7 : (Jvm.Cond.code ({ cls := "java/lang/StringUTF16", name := "compress", desc := "([CI[BII)I" } : Jvm.MethodName) jdk_52_method_21_code (7 : Nat) (Option.some Jvm.ClassFile.FieldType.int)).before args0 about1 = true := code_word (m := ⟨8, 9⟩) (meth := k8m9) (c := k8c9) (by decide +kernel) rfl rfl rfl (by decide +kernel)
set_option maxRecDepth 65536 in
theorem w_c8 : (Jvm.Cond.code ({ cls := "java/lang/StringUTF16", name := "coderFromArrayLen", desc := "([BI)B" } : Jvm.MethodName) jdk_52_method_15_code (2 : Nat) (Option.some Jvm.ClassFile.FieldType.byte)).before args0 about1 = true := code_word (m := ⟨8, 7⟩) (meth := k8m7) (c := k8c7) (by decide +kernel) rfl rfl rfl (by decide +kernel)
set_option maxRecDepth 65536 in
theorem w_c9 : (Jvm.Cond.code ({ cls := "com/example/veer32/veer32/bundle/TopicName", name := "<init>", desc := "(Lcom/example/veer32/veer32/bundle/TopicName$Domain;Ljava/lang/String;Ljava/lang/String;Ljava/lang/String;)V" } : Jvm.MethodName) prog_5_method_1_code (5 : Nat) (Option.none : Option Jvm.ClassFile.FieldType)).before args0 about1 = true := code_word (m := ⟨12, 0⟩) (meth := k12m0) (c := k12c0) (by decide +kernel) rfl rfl rfl (by decide +kernel)
set_option maxRecDepth 65536 in
theorem w_c10 : (Jvm.Cond.code ({ cls := "java/lang/Record", name := "<init>", desc := "()V" } : Jvm.MethodName) jdk_30_method_1_code (1 : Nat) (Option.none : Option Jvm.ClassFile.FieldType)).before args0 about1 = true := code_word (m := ⟨11, 0⟩) (meth := k11m0) (c := k11c0) (by decide +kernel) rfl rfl rfl (by decide +kernel)
set_option maxRecDepth 65536 in
theorem w_c11 : (Jvm.Cond.code ({ cls := "java/util/Objects", name := "requireNonNull", desc := "(Ljava/lang/Object;Ljava/lang/String;)Ljava/lang/Object;" } : Jvm.MethodName) jdk_31_method_11_code (2 : Nat) (Option.some (Jvm.ClassFile.FieldType.object "java/lang/Object"))).before args0 about1 = true := code_word (m := ⟨13, 1⟩) (meth := k13m1) (c := k13c1) (by decide +kernel) rfl rfl rfl (by decide +kernel)
set_option maxRecDepth 65536 in
theorem w_c12 : (Jvm.Cond.code ({ cls := "com/example/veer32/veer32/bundle/NamespaceName", name := "checkPart", desc := "(Ljava/lang/String;Ljava/lang/String;)V" } : Jvm.MethodName) prog_3_method_3_code (2 : Nat) (Option.none : Option Jvm.ClassFile.FieldType)).before args0 about1 = true := code_word (m := ⟨14, 1⟩) (meth := k14m1) (c := k14c1) (by decide +kernel) rfl rfl rfl (by decide +kernel)
set_option maxRecDepth 65536 in
theorem w_c13 : (Jvm.Cond.code ({ cls := "java/lang/String", name := "isEmpty", desc := "()Z" } : Jvm.MethodName) jdk_42_method_55_code (1 : Nat) (Option.some Jvm.ClassFile.FieldType.boolean)).before args0 about1 = true := code_word (m := ⟨7, 3⟩) (meth := k7m3) (c := k7c3) (by decide +kernel) rfl rfl rfl (by decide +kernel)
set_option maxRecDepth 65536 in
theorem w_c14 : (Jvm.Cond.code ({ cls := "java/lang/String", name := "indexOf", desc := "(I)I" } : Jvm.MethodName) jdk_42_method_79_code (2 : Nat) (Option.some Jvm.ClassFile.FieldType.int)).before args0 about1 = true := code_word (m := ⟨7, 5⟩) (meth := k7m5) (c := k7c5) (by decide +kernel) rfl rfl rfl (by decide +kernel)
set_option maxRecDepth 65536 in
theorem w_c15 : (Jvm.Cond.code ({ cls := "java/lang/String", name := "indexOf", desc := "(II)I" } : Jvm.MethodName) jdk_42_method_80_code (3 : Nat) (Option.some Jvm.ClassFile.FieldType.int)).before args0 about1 = true := code_word (m := ⟨7, 6⟩) (meth := k7m6) (c := k7c6) (by decide +kernel) rfl rfl rfl (by decide +kernel)
set_option maxRecDepth 65536 in
theorem w_c16 : (Jvm.Cond.code ({ cls := "java/lang/String", name := "isLatin1", desc := "()Z" } : Jvm.MethodName) jdk_42_method_154_code (1 : Nat) (Option.some Jvm.ClassFile.FieldType.boolean)).before args0 about1 = true := code_word (m := ⟨7, 9⟩) (meth := k7m9) (c := k7c9) (by decide +kernel) rfl rfl rfl (by decide +kernel)
set_option maxRecDepth 65536 in
theorem w_c17 : (Jvm.Cond.code ({ cls := "java/lang/String", name := "length", desc := "()I" } : Jvm.MethodName) jdk_42_method_54_code (1 : Nat) (Option.some Jvm.ClassFile.FieldType.int)).before args0 about1 = true := code_word (m := ⟨7, 2⟩) (meth := k7m2) (c := k7c2) (by decide +kernel) rfl rfl rfl (by decide +kernel)
set_option maxRecDepth 65536 in
theorem w_c18 : (Jvm.Cond.code ({ cls := "java/lang/String", name := "coder", desc := "()B" } : Jvm.MethodName) jdk_42_method_152_code (1 : Nat) (Option.some Jvm.ClassFile.FieldType.byte)).before args0 about1 = true := code_word (m := ⟨7, 8⟩) (meth := k7m8) (c := k7c8) (by decide +kernel) rfl rfl rfl (by decide +kernel)
set_option maxRecDepth 65536 in
theorem w_c19 : (Jvm.Cond.code ({ cls := "java/lang/StringLatin1", name := "indexOf", desc := "([BIII)I" } : Jvm.MethodName) jdk_43_method_22_code (4 : Nat) (Option.some Jvm.ClassFile.FieldType.int)).before args0 about1 = true := code_word (m := ⟨15, 2⟩) (meth := k15m2) (c := k15c2) (by decide +kernel) rfl rfl rfl (by decide +kernel)
set_option maxRecDepth 65536 in
theorem w_c20 : (Jvm.Cond.code ({ cls := "java/lang/StringLatin1", name := "canEncode", desc := "(I)Z" } : Jvm.MethodName) jdk_43_method_4_code (1 : Nat) (Option.some Jvm.ClassFile.FieldType.boolean)).before args0 about1 = true := code_word (m := ⟨15, 1⟩) (meth := k15m1) (c := k15c1) (by decide +kernel) rfl rfl rfl (by decide +kernel)
set_option maxRecDepth 65536 in
theorem w_c21 : (Jvm.Cond.code ({ cls := "java/lang/Math", name := "max", desc := "(II)I" } : Jvm.MethodName) jdk_29_method_65_code (2 : Nat) (Option.some Jvm.ClassFile.FieldType.int)).before args0 about1 = true := code_word (m := ⟨16, 1⟩) (meth := k16m1) (c := k16c1) (by decide +kernel) rfl rfl rfl (by decide +kernel)
set_option maxRecDepth 65536 in
theorem w_c22 : (Jvm.Cond.code ({ cls := "java/lang/Math", name := "min", desc := "(II)I" } : Jvm.MethodName) jdk_29_method_69_code (2 : Nat) (Option.some Jvm.ClassFile.FieldType.int)).before args0 about1 = true := code_word (m := ⟨16, 2⟩) (meth := k16m2) (c := k16c2) (by decide +kernel) rfl rfl rfl (by decide +kernel)
set_option maxRecDepth 65536 in
theorem w_c23 : (Jvm.Cond.code ({ cls := "java/lang/StringLatin1", name := "indexOfChar", desc := "([BIII)I" } : Jvm.MethodName) jdk_43_method_23_code (6 : Nat) (Option.some Jvm.ClassFile.FieldType.int)).before args0 about1 = true := code_word (m := ⟨15, 3⟩) (meth := k15m3) (c := k15c3) (by decide +kernel) rfl rfl rfl (by decide +kernel)
set_option maxRecDepth 65536 in
theorem w_c24 : (Jvm.Cond.code ({ cls := "com/example/veer32/veer32/bundle/TopicName", name := "namespaceName", desc := "()Lcom/example/veer32/veer32/bundle/NamespaceName;" } : Jvm.MethodName) prog_5_method_4_code (1 : Nat) (Option.some (Jvm.ClassFile.FieldType.object "com/example/veer32/veer32/bundle/NamespaceName"))).before args0 about1 = true := code_word (m := ⟨12, 1⟩) (meth := k12m1) (c := k12c1) (by decide +kernel) rfl rfl rfl (by decide +kernel)
set_option maxRecDepth 65536 in
theorem w_c25 : (Jvm.Cond.code ({ cls := "com/example/veer32/veer32/bundle/NamespaceName", name := "<init>", desc := "(Ljava/lang/String;Ljava/lang/String;)V" } : Jvm.MethodName) prog_3_method_1_code (3 : Nat) (Option.none : Option Jvm.ClassFile.FieldType)).before args0 about1 = true := code_word (m := ⟨14, 0⟩) (meth := k14m0) (c := k14c0) (by decide +kernel) rfl rfl rfl (by decide +kernel)
set_option maxRecDepth 65536 in
theorem w_c26 : (Jvm.Cond.code ({ cls := "com/example/veer32/veer32/bundle/NamespaceName", name := "tenant", desc := "()Ljava/lang/String;" } : Jvm.MethodName) prog_3_method_6_code (1 : Nat) (Option.some (Jvm.ClassFile.FieldType.object "java/lang/String"))).before args0 about1 = true := code_word (m := ⟨14, 2⟩) (meth := k14m2) (c := k14c2) (by decide +kernel) rfl rfl rfl (by decide +kernel)
set_option maxRecDepth 65536 in
theorem w_c27 : (Jvm.Cond.code ({ cls := "java/lang/String", name := "equals", desc := "(Ljava/lang/Object;)Z" } : Jvm.MethodName) jdk_42_method_66_code (3 : Nat) (Option.some Jvm.ClassFile.FieldType.boolean)).before args0 about1 = true := code_word (m := ⟨7, 4⟩) (meth := k7m4) (c := k7c4) (by decide +kernel) rfl rfl rfl (by decide +kernel)
set_option maxRecDepth 65536 in
theorem w_c28 : (Jvm.Cond.code ({ cls := "com/example/veer32/veer32/bundle/NamespaceName", name := "localName", desc := "()Ljava/lang/String;" } : Jvm.MethodName) prog_3_method_7_code (1 : Nat) (Option.some (Jvm.ClassFile.FieldType.object "java/lang/String"))).before args0 about1 = true := code_word (m := ⟨14, 3⟩) (meth := k14m3) (c := k14c3) (by decide +kernel) rfl rfl rfl (by decide +kernel)
set_option maxRecDepth 65536 in
theorem w_c29 : (Jvm.Cond.code ({ cls := "java/lang/StringUTF16", name := "toBytes", desc := "([CII)[B" } : Jvm.MethodName) jdk_52_method_14_code (5 : Nat) (Option.some (Jvm.ClassFile.FieldType.array Jvm.ClassFile.FieldType.byte))).before args0 about1 = true := code_word (m := ⟨8, 6⟩) (meth := k8m6) (c := k8c6) (by decide +kernel) rfl rfl rfl (by decide +kernel)
set_option maxRecDepth 65536 in
theorem w_c30 : (Jvm.Cond.code ({ cls := "java/lang/StringUTF16", name := "newBytesFor", desc := "(I)[B" } : Jvm.MethodName) jdk_52_method_2_code (1 : Nat) (Option.some (Jvm.ClassFile.FieldType.array Jvm.ClassFile.FieldType.byte))).before args0 about1 = true := code_word (m := ⟨8, 1⟩) (meth := k8m1) (c := k8c1) (by decide +kernel) rfl rfl rfl (by decide +kernel)
set_option maxRecDepth 65536 in
theorem w_c31 : (Jvm.Cond.code ({ cls := "java/lang/StringUTF16", name := "newBytesLength", desc := "(I)I" } : Jvm.MethodName) jdk_52_method_3_code (1 : Nat) (Option.some Jvm.ClassFile.FieldType.int)).before args0 about1 = true := code_word (m := ⟨8, 2⟩) (meth := k8m2) (c := k8c2) (by decide +kernel) rfl rfl rfl (by decide +kernel)
set_option maxRecDepth 65536 in
theorem w_c32 : (Jvm.Cond.code ({ cls := "java/lang/StringUTF16", name := "putChar", desc := "([BII)V" } : Jvm.MethodName) jdk_52_method_4_code (3 : Nat) (Option.none : Option Jvm.ClassFile.FieldType)).before args0 about1 = true := code_word (m := ⟨8, 3⟩) (meth := k8m3) (c := k8c3) (by decide +kernel) rfl rfl rfl (by decide +kernel)
set_option maxRecDepth 65536 in
theorem w_c33 : (Jvm.Cond.code ({ cls := "java/lang/StringUTF16", name := "getChar", desc := "([BI)C" } : Jvm.MethodName) jdk_52_method_5_code (2 : Nat) (Option.some Jvm.ClassFile.FieldType.char)).before args0 about1 = true := code_word (m := ⟨8, 4⟩) (meth := k8m4) (c := k8c4) (by decide +kernel) rfl rfl rfl (by decide +kernel)
set_option maxRecDepth 65536 in
theorem w_c34 : (Jvm.Cond.code ({ cls := "java/lang/StringUTF16", name := "indexOf", desc := "([BIII)I" } : Jvm.MethodName) jdk_52_method_40_code (4 : Nat) (Option.some Jvm.ClassFile.FieldType.int)).before args0 about1 = true := code_word (m := ⟨8, 10⟩) (meth := k8m10) (c := k8c10) (by decide +kernel) rfl rfl rfl (by decide +kernel)
set_option maxRecDepth 65536 in
theorem w_c35 : (Jvm.Cond.code ({ cls := "java/lang/StringUTF16", name := "indexOfChar", desc := "([BIII)I" } : Jvm.MethodName) jdk_52_method_47_code (4 : Nat) (Option.some Jvm.ClassFile.FieldType.int)).before args0 about1 = true := code_word (m := ⟨8, 11⟩) (meth := k8m11) (c := k8c11) (by decide +kernel) rfl rfl rfl (by decide +kernel)
set_option maxRecDepth 65536 in
theorem w_c36 : (Jvm.Cond.code ({ cls := "java/lang/StringUTF16", name := "checkBoundsBeginEnd", desc := "(II[B)V" } : Jvm.MethodName) jdk_52_method_93_code (3 : Nat) (Option.none : Option Jvm.ClassFile.FieldType)).before args0 about1 = true := code_word (m := ⟨8, 13⟩) (meth := k8m13) (c := k8c13) (by decide +kernel) rfl rfl rfl (by decide +kernel)
set_option maxRecDepth 65536 in
theorem w_c37 : (Jvm.Cond.code ({ cls := "java/lang/StringUTF16", name := "length", desc := "([B)I" } : Jvm.MethodName) jdk_52_method_6_code (1 : Nat) (Option.some Jvm.ClassFile.FieldType.int)).before args0 about1 = true := code_word (m := ⟨8, 5⟩) (meth := k8m5) (c := k8c5) (by decide +kernel) rfl rfl rfl (by decide +kernel)
set_option maxRecDepth 65536 in
theorem w_c38 : (Jvm.Cond.code ({ cls := "java/lang/String", name := "checkBoundsBeginEnd", desc := "(III)V" } : Jvm.MethodName) jdk_42_method_158_code (3 : Nat) (Option.none : Option Jvm.ClassFile.FieldType)).before args0 about1 = true := code_word (m := ⟨7, 10⟩) (meth := k7m10) (c := k7c10) (by decide +kernel) rfl rfl rfl (by decide +kernel)
set_option maxRecDepth 65536 in
theorem w_c39 : (Jvm.Cond.code ({ cls := "jdk/internal/util/Preconditions", name := "checkFromToIndex", desc := "(IIILjava/util/function/BiFunction;)I" } : Jvm.MethodName) jdk_41_method_12_code (4 : Nat) (Option.some Jvm.ClassFile.FieldType.int)).before args0 about1 = true := code_word (m := ⟨17, 1⟩) (meth := k17m1) (c := k17c1) (by decide +kernel) rfl rfl rfl (by decide +kernel)
set_option maxRecDepth 65536 in
theorem w_c40 : (Jvm.Cond.code ({ cls := "java/lang/StringUTF16", name := "indexOfCharUnsafe", desc := "([BIII)I" } : Jvm.MethodName) jdk_52_method_48_code (5 : Nat) (Option.some Jvm.ClassFile.FieldType.int)).before args0 about1 = true := code_word (m := ⟨8, 12⟩) (meth := k8m12) (c := k8c12) (by decide +kernel) rfl rfl rfl (by decide +kernel)
def codes1 : List Jvm.Cond := [Jvm.Cond.code x code maxLocals ret, Jvm.Cond.code ({ cls := "com/example/veer32/veer32/bundle/TopicNameNamespaceNamePinLaw", name := "part", desc := "(I)Ljava/lang/String;" } : Jvm.MethodName) method_3_code (4 : Nat) (Option.some (Jvm.ClassFile.FieldType.object "java/lang/String")), Jvm.Cond.code ({ cls := "com/example/veer32/veer32/bundle/TopicNameNamespaceNamePinLaw", name := "ch", desc := "(I)C" } : Jvm.MethodName) method_2_code (2 : Nat) (Option.some Jvm.ClassFile.FieldType.char), Jvm.Cond.code ({ cls := "java/lang/String", name := "<init>", desc := "([C)V" } : Jvm.MethodName) jdk_42_method_3_code (2 : Nat) (Option.none : Option Jvm.ClassFile.FieldType), Jvm.Cond.code ({ cls := "java/lang/String", name := "<init>", desc := "([CIILjava/lang/Void;)V" } : Jvm.MethodName) jdk_42_method_149_code (6 : Nat) (Option.none : Option Jvm.ClassFile.FieldType), Jvm.Cond.code ({ cls := "java/lang/Object", name := "<init>", desc := "()V" } : Jvm.MethodName) object_method_1_code (1 : Nat) (Option.none : Option Jvm.ClassFile.FieldType), Jvm.Cond.code ({ cls := "java/lang/StringUTF16", name := "compress", desc := "([CII)[B" } : Jvm.MethodName) jdk_52_method_16_code (6 : Nat) (Option.some (Jvm.ClassFile.FieldType.array Jvm.ClassFile.FieldType.byte)), Jvm.Cond.code ({ cls := "java/lang/StringUTF16", name := "compress", desc := "([CI[BII)I" } : Jvm.MethodName) jdk_52_method_21_code (7 : Nat) (Option.some Jvm.ClassFile.FieldType.int), Jvm.Cond.code ({ cls := "java/lang/StringUTF16", name := "coderFromArrayLen", desc := "([BI)B" } : Jvm.MethodName) jdk_52_method_15_code (2 : Nat) (Option.some Jvm.ClassFile.FieldType.byte), Jvm.Cond.code ({ cls := "com/example/veer32/veer32/bundle/TopicName", name := "<init>", desc := "(Lcom/example/veer32/veer32/bundle/TopicName$Domain;Ljava/lang/String;Ljava/lang/String;Ljava/lang/String;)V" } : Jvm.MethodName) prog_5_method_1_code (5 : Nat) (Option.none : Option Jvm.ClassFile.FieldType), Jvm.Cond.code ({ cls := "java/lang/Record", name := "<init>", desc := "()V" } : Jvm.MethodName) jdk_30_method_1_code (1 : Nat) (Option.none : Option Jvm.ClassFile.FieldType), Jvm.Cond.code ({ cls := "java/util/Objects", name := "requireNonNull", desc := "(Ljava/lang/Object;Ljava/lang/String;)Ljava/lang/Object;" } : Jvm.MethodName) jdk_31_method_11_code (2 : Nat) (Option.some (Jvm.ClassFile.FieldType.object "java/lang/Object")), Jvm.Cond.code ({ cls := "com/example/veer32/veer32/bundle/NamespaceName", name := "checkPart", desc := "(Ljava/lang/String;Ljava/lang/String;)V" } : Jvm.MethodName) prog_3_method_3_code (2 : Nat) (Option.none : Option Jvm.ClassFile.FieldType), Jvm.Cond.code ({ cls := "java/lang/String", name := "isEmpty", desc := "()Z" } : Jvm.MethodName) jdk_42_method_55_code (1 : Nat) (Option.some Jvm.ClassFile.FieldType.boolean), Jvm.Cond.code ({ cls := "java/lang/String", name := "indexOf", desc := "(I)I" } : Jvm.MethodName) jdk_42_method_79_code (2 : Nat) (Option.some Jvm.ClassFile.FieldType.int), Jvm.Cond.code ({ cls := "java/lang/String", name := "indexOf", desc := "(II)I" } : Jvm.MethodName) jdk_42_method_80_code (3 : Nat) (Option.some Jvm.ClassFile.FieldType.int), Jvm.Cond.code ({ cls := "java/lang/String", name := "isLatin1", desc := "()Z" } : Jvm.MethodName) jdk_42_method_154_code (1 : Nat) (Option.some Jvm.ClassFile.FieldType.boolean), Jvm.Cond.code ({ cls := "java/lang/String", name := "length", desc := "()I" } : Jvm.MethodName) jdk_42_method_54_code (1 : Nat) (Option.some Jvm.ClassFile.FieldType.int), Jvm.Cond.code ({ cls := "java/lang/String", name := "coder", desc := "()B" } : Jvm.MethodName) jdk_42_method_152_code (1 : Nat) (Option.some Jvm.ClassFile.FieldType.byte), Jvm.Cond.code ({ cls := "java/lang/StringLatin1", name := "indexOf", desc := "([BIII)I" } : Jvm.MethodName) jdk_43_method_22_code (4 : Nat) (Option.some Jvm.ClassFile.FieldType.int), Jvm.Cond.code ({ cls := "java/lang/StringLatin1", name := "canEncode", desc := "(I)Z" } : Jvm.MethodName) jdk_43_method_4_code (1 : Nat) (Option.some Jvm.ClassFile.FieldType.boolean), Jvm.Cond.code ({ cls := "java/lang/Math", name := "max", desc := "(II)I" } : Jvm.MethodName) jdk_29_method_65_code (2 : Nat) (Option.some Jvm.ClassFile.FieldType.int), Jvm.Cond.code ({ cls := "java/lang/Math", name := "min", desc := "(II)I" } : Jvm.MethodName) jdk_29_method_69_code (2 : Nat) (Option.some Jvm.ClassFile.FieldType.int), Jvm.Cond.code ({ cls := "java/lang/StringLatin1", name := "indexOfChar", desc := "([BIII)I" } : Jvm.MethodName) jdk_43_method_23_code (6 : Nat) (Option.some Jvm.ClassFile.FieldType.int), Jvm.Cond.code ({ cls := "com/example/veer32/veer32/bundle/TopicName", name := "namespaceName", desc := "()Lcom/example/veer32/veer32/bundle/NamespaceName;" } : Jvm.MethodName) prog_5_method_4_code (1 : Nat) (Option.some (Jvm.ClassFile.FieldType.object "com/example/veer32/veer32/bundle/NamespaceName")), Jvm.Cond.code ({ cls := "com/example/veer32/veer32/bundle/NamespaceName", name := "<init>", desc := "(Ljava/lang/String;Ljava/lang/String;)V" } : Jvm.MethodName) prog_3_method_1_code (3 : Nat) (Option.none : Option Jvm.ClassFile.FieldType), Jvm.Cond.code ({ cls := "com/example/veer32/veer32/bundle/NamespaceName", name := "tenant", desc := "()Ljava/lang/String;" } : Jvm.MethodName) prog_3_method_6_code (1 : Nat) (Option.some (Jvm.ClassFile.FieldType.object "java/lang/String")), Jvm.Cond.code ({ cls := "java/lang/String", name := "equals", desc := "(Ljava/lang/Object;)Z" } : Jvm.MethodName) jdk_42_method_66_code (3 : Nat) (Option.some Jvm.ClassFile.FieldType.boolean), Jvm.Cond.code ({ cls := "com/example/veer32/veer32/bundle/NamespaceName", name := "localName", desc := "()Ljava/lang/String;" } : Jvm.MethodName) prog_3_method_7_code (1 : Nat) (Option.some (Jvm.ClassFile.FieldType.object "java/lang/String")), Jvm.Cond.code ({ cls := "java/lang/StringUTF16", name := "toBytes", desc := "([CII)[B" } : Jvm.MethodName) jdk_52_method_14_code (5 : Nat) (Option.some (Jvm.ClassFile.FieldType.array Jvm.ClassFile.FieldType.byte)), Jvm.Cond.code ({ cls := "java/lang/StringUTF16", name := "newBytesFor", desc := "(I)[B" } : Jvm.MethodName) jdk_52_method_2_code (1 : Nat) (Option.some (Jvm.ClassFile.FieldType.array Jvm.ClassFile.FieldType.byte)), Jvm.Cond.code ({ cls := "java/lang/StringUTF16", name := "newBytesLength", desc := "(I)I" } : Jvm.MethodName) jdk_52_method_3_code (1 : Nat) (Option.some Jvm.ClassFile.FieldType.int), Jvm.Cond.code ({ cls := "java/lang/StringUTF16", name := "putChar", desc := "([BII)V" } : Jvm.MethodName) jdk_52_method_4_code (3 : Nat) (Option.none : Option Jvm.ClassFile.FieldType), Jvm.Cond.code ({ cls := "java/lang/StringUTF16", name := "getChar", desc := "([BI)C" } : Jvm.MethodName) jdk_52_method_5_code (2 : Nat) (Option.some Jvm.ClassFile.FieldType.char), Jvm.Cond.code ({ cls := "java/lang/StringUTF16", name := "indexOf", desc := "([BIII)I" } : Jvm.MethodName) jdk_52_method_40_code (4 : Nat) (Option.some Jvm.ClassFile.FieldType.int), Jvm.Cond.code ({ cls := "java/lang/StringUTF16", name := "indexOfChar", desc := "([BIII)I" } : Jvm.MethodName) jdk_52_method_47_code (4 : Nat) (Option.some Jvm.ClassFile.FieldType.int), Jvm.Cond.code ({ cls := "java/lang/StringUTF16", name := "checkBoundsBeginEnd", desc := "(II[B)V" } : Jvm.MethodName) jdk_52_method_93_code (3 : Nat) (Option.none : Option Jvm.ClassFile.FieldType), Jvm.Cond.code ({ cls := "java/lang/StringUTF16", name := "length", desc := "([B)I" } : Jvm.MethodName) jdk_52_method_6_code (1 : Nat) (Option.some Jvm.ClassFile.FieldType.int), Jvm.Cond.code ({ cls := "java/lang/String", name := "checkBoundsBeginEnd", desc := "(III)V" } : Jvm.MethodName) jdk_42_method_158_code (3 : Nat) (Option.none : Option Jvm.ClassFile.FieldType), Jvm.Cond.code ({ cls := "jdk/internal/util/Preconditions", name := "checkFromToIndex", desc := "(IIILjava/util/function/BiFunction;)I" } : Jvm.MethodName) jdk_41_method_12_code (4 : Nat) (Option.some Jvm.ClassFile.FieldType.int), Jvm.Cond.code ({ cls := "java/lang/StringUTF16", name := "indexOfCharUnsafe", desc := "([BIII)I" } : Jvm.MethodName) jdk_52_method_48_code (5 : Nat) (Option.some Jvm.ClassFile.FieldType.int)]
set_option maxRecDepth 65536 in
theorem codes_eq : words1.filter isCode = codes1 := rfl
theorem w_codes : ∀ c ∈ words1.filter isCode, c.before args0 about1 = true := by
  rw [codes_eq]
  intro c hc
  simp only [codes1, List.mem_cons, List.not_mem_nil, or_false] at hc
  rcases hc with rfl | rfl | rfl | rfl | rfl | rfl | rfl | rfl | rfl | rfl | rfl | rfl | rfl | rfl | rfl | rfl | rfl | rfl | rfl | rfl | rfl | rfl | rfl | rfl | rfl | rfl | rfl | rfl | rfl | rfl | rfl | rfl | rfl | rfl | rfl | rfl | rfl | rfl | rfl | rfl | rfl
  · exact w_c0
  · exact w_c1
  · exact w_c2
  · exact w_c3
  · exact w_c4
  · exact w_c5
  · exact w_c6
  · exact w_c7
  · exact w_c8
  · exact w_c9
  · exact w_c10
  · exact w_c11
  · exact w_c12
  · exact w_c13
  · exact w_c14
  · exact w_c15
  · exact w_c16
  · exact w_c17
  · exact w_c18
  · exact w_c19
  · exact w_c20
  · exact w_c21
  · exact w_c22
  · exact w_c23
  · exact w_c24
  · exact w_c25
  · exact w_c26
  · exact w_c27
  · exact w_c28
  · exact w_c29
  · exact w_c30
  · exact w_c31
  · exact w_c32
  · exact w_c33
  · exact w_c34
  · exact w_c35
  · exact w_c36
  · exact w_c37
  · exact w_c38
  · exact w_c39
  · exact w_c40
set_option maxRecDepth 65536 in
theorem w_t1 : (words1.take 24).all (fun c => isCode c || c.before args0 about1) = true := by decide +kernel
set_option maxRecDepth 65536 in
theorem w_t2 : ((words1.drop 24).take 24).all (fun c => isCode c || c.before args0 about1) = true := by decide +kernel
set_option maxRecDepth 65536 in
theorem w_t3 : (((words1.drop 24).drop 24).take 24).all (fun c => isCode c || c.before args0 about1) = true := by decide +kernel
set_option maxRecDepth 65536 in
theorem w_t4 : ((((words1.drop 24).drop 24).drop 24).take 24).all (fun c => isCode c || c.before args0 about1) = true := by decide +kernel
set_option maxRecDepth 65536 in
theorem w_t5 : (((((words1.drop 24).drop 24).drop 24).drop 24).take 24).all (fun c => isCode c || c.before args0 about1) = true := by decide +kernel
set_option maxRecDepth 65536 in
theorem w_t6 : ((((((words1.drop 24).drop 24).drop 24).drop 24).drop 24).take 24).all (fun c => isCode c || c.before args0 about1) = true := by decide +kernel
set_option maxRecDepth 65536 in
theorem w_t7 : (((((((words1.drop 24).drop 24).drop 24).drop 24).drop 24).drop 24).take 24).all (fun c => isCode c || c.before args0 about1) = true := by decide +kernel
set_option maxRecDepth 65536 in
theorem w_t8 : ((((((((words1.drop 24).drop 24).drop 24).drop 24).drop 24).drop 24).drop 24).take 24).all (fun c => isCode c || c.before args0 about1) = true := by decide +kernel
set_option maxRecDepth 65536 in
theorem w_t9 : ((((((((words1.drop 24).drop 24).drop 24).drop 24).drop 24).drop 24).drop 24).drop 24).all (fun c => isCode c || c.before args0 about1) = true := by decide +kernel
theorem w_tables : (allAtoms (Jvm.Cond.code x code maxLocals ret :: tables_1)).before args0 about1 = true := by
  rw [allAtoms_all]
  show words1.all (fun c => c.before args0 about1) = true
  refine all_split ?_ w_codes
  rw [← List.take_append_drop 24 words1, List.all_append, w_t1, ← List.take_append_drop 24 (words1.drop 24), List.all_append, w_t2, ← List.take_append_drop 24 ((words1.drop 24).drop 24), List.all_append, w_t3, ← List.take_append_drop 24 (((words1.drop 24).drop 24).drop 24), List.all_append, w_t4, ← List.take_append_drop 24 ((((words1.drop 24).drop 24).drop 24).drop 24), List.all_append, w_t5, ← List.take_append_drop 24 (((((words1.drop 24).drop 24).drop 24).drop 24).drop 24), List.all_append, w_t6, ← List.take_append_drop 24 ((((((words1.drop 24).drop 24).drop 24).drop 24).drop 24).drop 24), List.all_append, w_t7, ← List.take_append_drop 24 (((((((words1.drop 24).drop 24).drop 24).drop 24).drop 24).drop 24).drop 24), List.all_append, w_t8, w_t9]
  rfl
set_option maxRecDepth 65536 in
theorem w_rest : rest_1_c.before args0 about1 = true := by decide +kernel
set_option maxRecDepth 65536 in
theorem w_case : (Jvm.Cond.and given_1 narrow_1).before args0 about1 = true := by decide +kernel
theorem w_applies : (headSpec (Jvm.Cond.code x code maxLocals ret :: tables_1) room_1).applies x e0.platform about1 = true :=
  (Spec.applies_iff w_frames).mpr ⟨w_running, w_runnable, w_alone, w_named, w_hears, w_ripe, w_room, w_tables⟩
theorem atStart : AtStart classFile x code maxLocals ret World_1 tables_1 room_1 Calls_1 rest_1 Pre_1 launch0 p0 e0 about1 theMethod args0 below0 :=
  ⟨lists_1, trivial, launch0.admits_env _ _ _, launch0.least_env, fairChoices_fair.cas, fairChoices_fair.clock, w_frames, w_args, w_heap, w_applies, trivial, w_rest, w_case⟩
end start1
theorem witness_1 : WitnessClaimed_1 := ⟨start1.p0, start1.e0, start1.about1, start1.theMethod, start1.args0, start1.below0, start1.atStart⟩
end Jvm.Pilot.@@N@@
